/- What the looks of the statement say of their arguments: sizes, words, different names. -/
import Derived.Test.YtbgimkjodpjnfaaDoorConfN
namespace Go.Proofs.YtbgimkjodpjnfaaDoor.Conf
open Go.RowKit Go.Proofs.YtbgimkjodpjnfaaDoorW.PrintWords Go.Proofs.YtbgimkjodpjnfaaDoorW.PrintLast Go.Proofs.YtbgimkjodpjnfaaDoorW.PrintMore Go.Proofs.YtbgimkjodpjnfaaDoor.Sep Go.Proofs.YtbgimkjodpjnfaaDoor.PFnConfSet

/-- A loop over n places that ends with false at once, or goes on. -/
theorem loop_all (n : Nat) (G : Nat → Int → Option Bool) (P : Nat → Prop) (E : Prop)
    (hstep : ∀ i, i < n → Ev (fun k => G k (i : Int)) false ∨ (P i ∧ ∀ r, Ev (fun k => G k ((i + 1 : Nat) : Int)) r → Ev (fun k => G k (i : Int)) r))
    (hend : ∃ r, Ev (fun k => G k (n : Int)) r ∧ (r = true → E)) :
    ∃ r, Ev (fun k => G k 0) r ∧ (r = true → E ∧ ∀ i, i < n → P i) := by
  have key : ∀ d i, i + d = n → ∃ r, Ev (fun k => G k (i : Int)) r ∧ (r = true → E ∧ ∀ j, i ≤ j → j < n → P j) := by
    intro d
    induction d with
    | zero =>
      intro i hi
      obtain rfl : i = n := by omega
      obtain ⟨r, h1, h2⟩ := hend
      exact ⟨r, h1, fun h => ⟨h2 h, fun j h3 h4 => by omega⟩⟩
    | succ d ih =>
      intro i hi
      rcases hstep i (by omega) with h | ⟨hP, hn⟩
      · exact ⟨false, h, fun h => by cases h⟩
      · obtain ⟨r, h1, h2⟩ := ih (i + 1) (by omega)
        refine ⟨r, hn r h1, fun h => ⟨(h2 h).1, fun j h3 h4 => ?_⟩⟩
        rcases Nat.lt_or_ge i j with h5 | h5
        · exact (h2 h).2 j (by omega) h4
        · obtain rfl : j = i := by omega
          exact hP
  obtain ⟨r, h1, h2⟩ := key n 0 (by omega)
  exact ⟨r, h1, fun h => ⟨(h2 h).1, fun i hi => (h2 h).2 i (by omega) hi⟩⟩
theorem ev_false {G : Nat → Int → Option Bool} {i : Int} (h : ∀ k, G (k + 1) i = some false) : Ev (fun k => G k i) false := Ev.step (f := fun _ => some false) h (Ev.now _)
theorem ev_next {G : Nat → Int → Option Bool} {i j : Int} (h : ∀ k, G (k + 1) i = G k j) : ∀ r, Ev (fun k => G k j) r → Ev (fun k => G k i) r := fun _ hr => Ev.step (f := fun k => G k j) h hr
theorem rd45 {l : List S45} {i : Nat} (h : i < l.length) : rd_T45 l (i : Int) = l[i] := by simp [rd_T45, List.getD_eq_getElem?_getD, h]
theorem rd47 {l : List S47} {i : Nat} (h : i < l.length) : rd_T47 l (i : Int) = l[i] := by simp [rd_T47, List.getD_eq_getElem?_getD, h]
theorem rd41 {l : List S41} {i : Nat} (h : i < l.length) : rd_T41 l (i : Int) = l[i] := by simp [rd_T41, List.getD_eq_getElem?_getD, h]

/-! ### sizes -/
def FitO (os : List S45) : Prop := os.length ≤ 2147483647 ∧ ∀ o ∈ os, o.f0.size ≤ 2147483647 ∧ o.f1.size ≤ 2147483647
def FitS (x : S47) : Prop := x.f0.size ≤ 2147483647 ∧ FitO x.f1
def FitC (s : S41) : Prop := s.f0.size ≤ 2147483647 ∧ FitO s.f1 ∧ s.f2.length ≤ 2147483647 ∧ ∀ x ∈ s.f2, FitS x
def Fit (l : List S41) : Prop := l.length ≤ 2147483647 ∧ ∀ s ∈ l, FitC s
theorem mem_of_idx {α : Type} {l : List α} {P : α → Prop} (h : ∀ i (hi : i < l.length), P l[i]) : ∀ x ∈ l, P x := fun x hx => by
  obtain ⟨i, hi, rfl⟩ := List.getElem_of_mem hx
  exact h i hi
theorem fits3 (os : List S45) : ∃ r, Ev (fun k => laws_zzFits3.f k os) r ∧ (r = true → FitO os) := by
  by_cases hn : (os.length : Int) > 2147483647
  · exact ⟨false, Ev.congr (f := fun _ => some false) (fun k => by unfold laws_zzFits3.f; rw [if_pos hn]) (Ev.now _), fun h => by cases h⟩
  · obtain ⟨r, h1, h2⟩ := loop_all os.length (fun k i => laws_zzFits3.l0 k os (os.length : Int) i) (fun i => ∀ hi : i < os.length, (os[i]).f0.size ≤ 2147483647 ∧ (os[i]).f1.size ≤ 2147483647) True (fun i hi => by
      by_cases c1 : ((os[i]).f0.size : Int) > 2147483647
      · exact .inl (ev_false (fun k => by rw [laws_zzFits3.l0, if_pos (by omega), if_pos (by omega), if_pos (by omega), rd45 hi, laws_zzFits4.f, if_pos c1]; rfl))
      · by_cases c2 : ((os[i]).f1.size : Int) > 2147483647
        · exact .inl (ev_false (fun k => by rw [laws_zzFits3.l0, if_pos (by omega), if_pos (by omega), if_pos (by omega), rd45 hi, laws_zzFits4.f, if_neg c1, if_pos c2]; rfl))
        · exact .inr ⟨fun _ => ⟨by omega, by omega⟩, ev_next (fun k => by rw [laws_zzFits3.l0, if_pos (by omega), if_pos (by omega), if_pos (by omega), rd45 hi, laws_zzFits4.f, if_neg c1, if_neg c2, wrap_succ (by omega)]; rfl)⟩)
      ⟨true, Ev.step (f := fun _ => some true) (fun k => by rw [laws_zzFits3.l0, if_neg (by omega)]) (Ev.now _), fun _ => trivial⟩
    refine ⟨r, Ev.congr (f := fun k => laws_zzFits3.l0 k os (os.length : Int) 0) (fun k => by unfold laws_zzFits3.f; rw [if_neg hn]) h1, fun h => ⟨by omega, mem_of_idx (fun i hi => (h2 h).2 i hi hi)⟩⟩
theorem ev_bind {α : Type} {g : Nat → Option Bool} {f : Nat → Bool → Option α} {a : Bool} {r : α} (h : Ev g a) (k : Ev (fun n => f n a) r) : Ev (fun n => (g n).bind (f n)) r := Ev.bind h k
theorem fits6 (x : S47) : ∃ r, Ev (fun k => laws_zzFits6.f k x.f0 x.f1) r ∧ (r = true → FitS x) := by
  by_cases hn : (x.f0.size : Int) > 2147483647
  · exact ⟨false, Ev.congr (f := fun _ => some false) (fun k => by unfold laws_zzFits6.f; rw [if_pos hn]) (Ev.now _), fun h => by cases h⟩
  · obtain ⟨r, h1, h2⟩ := fits3 x.f1
    refine ⟨r, Ev.congr (f := fun k => (laws_zzFits3.f k x.f1).bind fun t106 => (if t106 = true then (some true) else (some false))) (fun k => by unfold laws_zzFits6.f; rw [if_neg hn]) (ev_bind h1 ?_), fun h => ⟨by omega, h2 h⟩⟩
    cases r <;> exact Ev.now _
theorem ev_inner {G : Nat → Int → Option Bool} {i : Nat} {g : Nat → Option Bool} {P : Prop} (hg : ∃ r, Ev g r ∧ (r = true → P)) (h : ∀ k, G (k + 1) (i : Int) = (g k).bind fun t => if t = true then G k ((i + 1 : Nat) : Int) else some false) :
    Ev (fun k => G k (i : Int)) false ∨ (P ∧ ∀ r, Ev (fun k => G k ((i + 1 : Nat) : Int)) r → Ev (fun k => G k (i : Int)) r) := by
  obtain ⟨r, h1, h2⟩ := hg
  cases r with
  | false => exact .inl (Ev.step h (ev_bind h1 (Ev.now _)))
  | true => exact .inr ⟨h2 rfl, fun r hr => Ev.step h (ev_bind h1 (Ev.congr (f := fun k => G k ((i + 1 : Nat) : Int)) (fun k => by simp) hr))⟩
theorem fits5 (xs : List S47) : ∃ r, Ev (fun k => laws_zzFits5.f k xs) r ∧ (r = true → xs.length ≤ 2147483647 ∧ ∀ x ∈ xs, FitS x) := by
  by_cases hn : (xs.length : Int) > 2147483647
  · exact ⟨false, Ev.congr (f := fun _ => some false) (fun k => by unfold laws_zzFits5.f; rw [if_pos hn]) (Ev.now _), fun h => by cases h⟩
  · obtain ⟨r, h1, h2⟩ := loop_all xs.length (fun k i => laws_zzFits5.l0 k xs (xs.length : Int) i) (fun i => ∀ hi : i < xs.length, FitS xs[i]) True (fun i hi => by
      refine (ev_inner (P := FitS xs[i]) (fits6 xs[i]) (fun k => ?_)).imp id (fun h => ⟨fun _ => h.1, h.2⟩)
      rw [laws_zzFits5.l0, if_pos (by omega), if_pos (by omega), if_pos (by omega), rd47 hi, wrap_succ (by omega)])
      ⟨true, Ev.step (f := fun _ => some true) (fun k => by rw [laws_zzFits5.l0, if_neg (by omega)]) (Ev.now _), fun _ => trivial⟩
    exact ⟨r, Ev.congr (f := fun k => laws_zzFits5.l0 k xs (xs.length : Int) 0) (fun k => by unfold laws_zzFits5.f; rw [if_neg hn]) h1, fun h => ⟨by omega, mem_of_idx (fun i hi => (h2 h).2 i hi hi)⟩⟩
theorem fits2 (s : S41) : ∃ r, Ev (fun k => laws_zzFits2.f k s.f0 s.f1 s.f2) r ∧ (r = true → FitC s) := by
  by_cases hn : (s.f0.size : Int) > 2147483647
  · exact ⟨false, Ev.congr (f := fun _ => some false) (fun k => by unfold laws_zzFits2.f; rw [if_pos hn]) (Ev.now _), fun h => by cases h⟩
  · obtain ⟨r, h1, h2⟩ := fits3 s.f1
    obtain ⟨q, h3, h4⟩ := fits5 s.f2
    have hc : ∀ k, laws_zzFits2.f k s.f0 s.f1 s.f2 = (laws_zzFits3.f k s.f1).bind fun t111 => (if t111 = true then ((laws_zzFits5.f k s.f2).bind fun t112 => (if t112 = true then (some true) else (some false))) else (some false)) := fun k => by unfold laws_zzFits2.f; rw [if_neg hn]
    cases r with
    | false => exact ⟨false, Ev.congr hc (ev_bind h1 (Ev.now _)), fun h => by cases h⟩
    | true =>
      refine ⟨q, Ev.congr hc (ev_bind h1 (Ev.congr (f := fun k => (laws_zzFits5.f k s.f2).bind fun t112 => (if t112 = true then (some true) else (some false))) (fun k => by simp) (ev_bind h3 ?_))), fun h => ⟨by omega, h2 rfl, (h4 h).1, (h4 h).2⟩⟩
      cases q <;> exact Ev.now _
theorem fits1 (l : List S41) : ∃ r, Ev (fun k => laws_zzFits1.f k l) r ∧ (r = true → Fit l) := by
  by_cases hn : (l.length : Int) > 2147483647
  · exact ⟨false, Ev.congr (f := fun _ => some false) (fun k => by unfold laws_zzFits1.f; rw [if_pos hn]) (Ev.now _), fun h => by cases h⟩
  · obtain ⟨r, h1, h2⟩ := loop_all l.length (fun k i => laws_zzFits1.l0 k l (l.length : Int) i) (fun i => ∀ hi : i < l.length, FitC l[i]) True (fun i hi => by
      refine (ev_inner (P := FitC l[i]) (fits2 l[i]) (fun k => ?_)).imp id (fun h => ⟨fun _ => h.1, h.2⟩)
      rw [laws_zzFits1.l0, if_pos (by omega), if_pos (by omega), if_pos (by omega), rd41 hi, wrap_succ (by omega)])
      ⟨true, Ev.step (f := fun _ => some true) (fun k => by rw [laws_zzFits1.l0, if_neg (by omega)]) (Ev.now _), fun _ => trivial⟩
    exact ⟨r, Ev.congr (f := fun k => laws_zzFits1.l0 k l (l.length : Int) 0) (fun k => by unfold laws_zzFits1.f; rw [if_neg hn]) h1, fun h => ⟨by omega, mem_of_idx (fun i hi => (h2 h).2 i hi hi)⟩⟩

/-! ### words -/
theorem bt_data (s : ByteArray) (i : Nat) (h : i < s.size) : ∃ b : UInt8, s.data.toList[i]? = some b ∧ bt s (i : Int) = (b.toNat : Int) := by
  refine ⟨s[i], ?_, ?_⟩
  · simp [List.getElem?_eq_getElem, h]
    rfl
  · unfold bt
    rw [dif_pos (by simpa using h)]
    rfl
theorem isConfWord (s : ByteArray) (hs : s.size ≤ 2147483647) : ∃ r, Ev (fun k => spec_IsConfWord.f k s) r ∧ (r = true → Word s ∧ s.toList ≠ []) := by
  obtain ⟨r, h1, h2⟩ := loop_all s.size (fun k i => spec_IsConfWord.l0 k s (s.size : Int) i) (fun i => ∀ b : UInt8, s.data.toList[i]? = some b → 97 ≤ b.toNat ∧ b.toNat ≤ 122) (s.toList ≠ [] ∧ s.size ≤ 1000) (fun i hi => by
      obtain ⟨b, hb, hbt⟩ := bt_data s i hi
      by_cases c1 : bt s (i : Int) < 97
      · exact .inl (ev_false (fun k => by rw [spec_IsConfWord.l0, if_pos (by omega), if_pos (by omega), if_pos (by omega), if_pos c1]))
      · by_cases c2 : bt s (i : Int) > 122
        · exact .inl (ev_false (fun k => by rw [spec_IsConfWord.l0, if_pos (by omega), if_pos (by omega), if_pos (by omega), if_neg c1, if_pos c2]))
        · refine .inr ⟨fun b' hb' => ?_, ev_next (fun k => by rw [spec_IsConfWord.l0, if_pos (by omega), if_pos (by omega), if_pos (by omega), if_neg c1, if_neg c2, wrap_succ (by omega)])⟩
          rw [hb] at hb'
          injection hb' with hb'
          subst hb'
          omega)
      (by
        by_cases c : s.toList = []
        · exact ⟨false, Ev.step (f := fun _ => some false) (fun k => by rw [spec_IsConfWord.l0, if_neg (by omega), if_pos c]) (Ev.now _), fun h => by cases h⟩
        · refine ⟨decide ((s.size : Int) ≤ 1000), Ev.step (f := fun _ => some (decide ((s.size : Int) ≤ 1000))) (fun k => by rw [spec_IsConfWord.l0, if_neg (by omega), if_neg c]) (Ev.now _), fun h => ⟨c, ?_⟩⟩
          have := of_decide_eq_true h
          omega)
  refine ⟨r, h1, fun h => ⟨⟨(h2 h).1.2, fun j b hb => ?_⟩, (h2 h).1.1⟩⟩
  have hj : j < s.size := by
    have := (List.getElem?_eq_some_iff.1 hb).1
    rwa [data_length] at this
  exact (h2 h).2 j hj b hb
theorem isSmall (s : ByteArray) (hs : s.size ≤ 2147483647) : ∃ r, Ev (fun k => spec_Small.f k s) r := by
  obtain ⟨r, h1, _⟩ := loop_all s.size (fun k i => spec_Small.l0 k s (s.size : Int) i) (fun _ => True) True (fun i hi => by
      have key : (∀ k, spec_Small.l0 (k + 1) s (s.size : Int) (i : Int) = some false) ∨ (∀ k, spec_Small.l0 (k + 1) s (s.size : Int) (i : Int) = spec_Small.l0 k s (s.size : Int) ((i + 1 : Nat) : Int)) := by
        by_cases c1 : bt s (i : Int) ≥ 97 <;> by_cases c2 : bt s (i : Int) ≤ 122 <;> by_cases c3 : bt s (i : Int) ≥ 65 <;> by_cases c4 : bt s (i : Int) ≤ 90 <;> by_cases c5 : bt s (i : Int) ≥ 48 <;> by_cases c6 : bt s (i : Int) ≤ 57 <;>
          first
          | (refine .inl (fun k => ?_); rw [spec_Small.l0, if_pos (by omega), if_pos (by omega), if_pos (by omega)]; simp only [c1, c2, c3, c4, c5, c6, if_true, if_false]; done)
          | (refine .inr (fun k => ?_); rw [spec_Small.l0, if_pos (by omega), if_pos (by omega), if_pos (by omega), wrap_succ (by omega)]; simp only [c1, c2, c3, c4, c5, c6, if_true, if_false])
      rcases key with h | h
      · exact .inl (ev_false h)
      · exact .inr ⟨trivial, ev_next h⟩)
      ⟨_, Ev.step (f := fun _ => some (s.toList != ([] : List UInt8))) (fun k => by rw [spec_Small.l0, if_neg (by omega)]) (Ev.now _), fun _ => trivial⟩
  exact ⟨r, h1⟩
theorem isValue (s : ByteArray) (hs : s.size ≤ 2147483647) : ∃ r, Ev (fun k => spec_IsValue.f k s) r := by
  obtain ⟨r, h1, _⟩ := loop_all s.size (fun k i => spec_IsValue.l0 k s (s.size : Int) i) (fun _ => True) True (fun i hi => by
      obtain ⟨q, hq⟩ := isSmall (s.extract (i : Int).toNat (((i + 1 : Nat) : Int)).toNat) (by rw [ByteArray.size_extract]; omega)
      have hstep : ∀ k, spec_IsValue.l0 (k + 1) s (s.size : Int) (i : Int) = (spec_Small.f k (s.extract (i : Int).toNat (((i + 1 : Nat) : Int)).toNat)).bind fun t116 => (if t116 = true then (spec_IsValue.l0 k s (s.size : Int) ((i + 1 : Nat) : Int)) else (if (i : Int) < (s.size : Int) then (if (bt s (i : Int)) = 46 then (spec_IsValue.l0 k s (s.size : Int) ((i + 1 : Nat) : Int)) else (some false)) else (none))) := fun k => by
        rw [spec_IsValue.l0, wrap_succ (by omega), if_pos (by omega), if_pos (by omega), if_pos (by omega), if_pos (by omega)]
      cases q with
      | true => exact .inr ⟨trivial, fun r hr => Ev.step hstep (ev_bind hq (Ev.congr (f := fun k => spec_IsValue.l0 k s (s.size : Int) ((i + 1 : Nat) : Int)) (fun k => by simp) hr))⟩
      | false =>
        by_cases c : bt s (i : Int) = 46
        · exact .inr ⟨trivial, fun r hr => Ev.step hstep (ev_bind hq (Ev.congr (f := fun k => spec_IsValue.l0 k s (s.size : Int) ((i + 1 : Nat) : Int)) (fun k => by rw [if_neg (by simp), if_pos (by omega), if_pos c]) hr))⟩
        · exact .inl (Ev.step hstep (ev_bind hq (Ev.congr (f := fun _ => some false) (fun k => by rw [if_neg (by simp), if_pos (by omega), if_neg c]) (Ev.now _)))))
      (by
        by_cases c : s.toList = []
        · exact ⟨false, Ev.step (f := fun _ => some false) (fun k => by rw [spec_IsValue.l0, if_neg (by omega), if_pos c]) (Ev.now _), fun _ => trivial⟩
        · exact ⟨_, Ev.step (f := fun _ => some (decide ((s.size : Int) ≤ 1000))) (fun k => by rw [spec_IsValue.l0, if_neg (by omega), if_neg c]) (Ev.now _), fun _ => trivial⟩)
  exact ⟨r, h1⟩
theorem areOptions (os : List S45) (ho : FitO os) : ∃ r, Ev (fun k => spec_areOptions.f k os) r ∧ (r = true → ∀ o ∈ os, Word o.f0) := by
  obtain ⟨r, h1, h2⟩ := loop_all os.length (fun k i => spec_areOptions.l0 k os os (os.length : Int) i) (fun i => ∀ hi : i < os.length, Word (os[i]).f0) True (fun i hi => by
      have hf := ho.2 _ (List.getElem_mem hi)
      have hn := ho.1
      obtain ⟨r, h1, h2⟩ := isConfWord (os[i]).f0 hf.1
      obtain ⟨q, h3⟩ := isValue (os[i]).f1 hf.2
      have hstep : ∀ k, spec_areOptions.l0 (k + 1) os os (os.length : Int) (i : Int) = (spec_IsConfWord.f k (os[i]).f0).bind fun t119 => (if t119 = true then ((spec_IsValue.f k (os[i]).f1).bind fun t120 => (if t120 = true then (spec_areOptions.l0 k os os (os.length : Int) ((i + 1 : Nat) : Int)) else (some false))) else (some false)) := fun k => by
        rw [spec_areOptions.l0, if_pos (by omega), if_pos (by omega), if_pos (by omega), rd45 hi, wrap_succ (by omega)]
      cases r with
      | false => exact .inl (Ev.step hstep (ev_bind h1 (Ev.now _)))
      | true =>
        cases q with
        | false => exact .inl (Ev.step hstep (ev_bind h1 (Ev.congr (f := fun k => (spec_IsValue.f k (os[i]).f1).bind fun t120 => (if t120 = true then (spec_areOptions.l0 k os os (os.length : Int) ((i + 1 : Nat) : Int)) else (some false))) (fun k => by simp) (ev_bind h3 (Ev.now _)))))
        | true => exact .inr ⟨fun _ => (h2 rfl).1, fun r hr => Ev.step hstep (ev_bind h1 (Ev.congr (f := fun k => (spec_IsValue.f k (os[i]).f1).bind fun t120 => (if t120 = true then (spec_areOptions.l0 k os os (os.length : Int) ((i + 1 : Nat) : Int)) else (some false))) (fun k => by simp) (ev_bind h3 (Ev.congr (f := fun k => spec_areOptions.l0 k os os (os.length : Int) ((i + 1 : Nat) : Int)) (fun k => by simp) hr))))⟩)
      ⟨_, Ev.step (f := fun _ => some (decide ((os.length : Int) ≤ 1000))) (fun k => by rw [spec_areOptions.l0, if_neg (by omega)]) (Ev.now _), fun _ => trivial⟩
  exact ⟨r, h1, fun h => mem_of_idx (fun i hi => (h2 h).2 i hi hi)⟩
end Go.Proofs.YtbgimkjodpjnfaaDoor.Conf
