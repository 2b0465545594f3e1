/- What the looks of the statement say of its arguments. -/
import Derived.Test.YtllikhbafaohgaaGreatDoorJB
import Derived.Test.YtllikhbafaohgaaGreatDoorPFnIdxSumx2
namespace Go.Proofs.YtllikhbafaohgaaGreatDoor.Idx
open Go.RowKit Go.Proofs.YtllikhbafaohgaaGreatDoorW.PrintWords Go.Proofs.YtllikhbafaohgaaGreatDoorW.PrintLast Go.Proofs.YtllikhbafaohgaaGreatDoorW.PrintMore Go.Proofs.YtllikhbafaohgaaGreatDoor.PFnIdxSum
set_option linter.unusedVariables false
set_option linter.unusedSimpArgs false

theorem wrap_succ {i : Nat} (h : i ≤ 9223372036854775806) : wrap64 ((i : Int) + 1) = ((i + 1 : Nat) : Int) := by
  unfold wrap64
  omega
/-- A loop over n places that ends with false at once, or goes on. -/
theorem loop_all (n : Nat) (G : Nat → Int → Option Bool) (P : Nat → Prop) (E : Prop)
    (hstep : ∀ i, i < n → Ev (fun k => G k (i : Int)) false ∨ (P i ∧ ∀ r, Ev (fun k => G k ((i + 1 : Nat) : Int)) r → Ev (fun k => G k (i : Int)) r))
    (hend : ∃ r, Ev (fun k => G k (n : Int)) r ∧ (r = true → E)) :
    ∃ r, Ev (fun k => G k 0) r ∧ (r = true → E ∧ ∀ i, i < n → P i) := by
  have key : ∀ d i, i + d = n → ∃ r, Ev (fun k => G k (i : Int)) r ∧ (r = true → E ∧ ∀ j, i ≤ j → j < n → P j) := by
    intro d
    induction d with
    | zero =>
      intro i hi
      obtain rfl : i = n := by omega
      obtain ⟨r, h1, h2⟩ := hend
      exact ⟨r, h1, fun h => ⟨h2 h, fun j h3 h4 => by omega⟩⟩
    | succ d ih =>
      intro i hi
      rcases hstep i (by omega) with h | ⟨hP, hn⟩
      · exact ⟨false, h, fun h => by cases h⟩
      · obtain ⟨r, h1, h2⟩ := ih (i + 1) (by omega)
        refine ⟨r, hn r h1, fun h => ⟨(h2 h).1, fun j h3 h4 => ?_⟩⟩
        rcases Nat.lt_or_ge i j with h5 | h5
        · exact (h2 h).2 j (by omega) h4
        · obtain rfl : j = i := by omega
          exact hP
  obtain ⟨r, h1, h2⟩ := key n 0 (by omega)
  exact ⟨r, h1, fun h => ⟨(h2 h).1, fun i hi => (h2 h).2 i (by omega) hi⟩⟩
theorem ev_false {G : Nat → Int → Option Bool} {i : Int} (h : ∀ k, G (k + 1) i = some false) : Ev (fun k => G k i) false := Ev.step (f := fun _ => some false) h (Ev.now _)
theorem ev_next {G : Nat → Int → Option Bool} {i j : Int} (h : ∀ k, G (k + 1) i = G k j) : ∀ r, Ev (fun k => G k j) r → Ev (fun k => G k i) r := fun _ hr => Ev.step (f := fun k => G k j) h hr
theorem mem_of_idx {α : Type} {l : List α} {P : α → Prop} (h : ∀ i (hi : i < l.length), P l[i]) : ∀ x ∈ l, P x := fun x hx => by
  obtain ⟨i, hi, rfl⟩ := List.getElem_of_mem hx
  exact h i hi
theorem ev_bind {α : Type} {g : Nat → Option Bool} {f : Nat → Bool → Option α} {a : Bool} {r : α} (h : Ev g a) (k : Ev (fun n => f n a) r) : Ev (fun n => (g n).bind (f n)) r := Ev.bind h k
theorem ev_inner {G : Nat → Int → Option Bool} {i : Nat} {g : Nat → Option Bool} {P : Prop} (hg : ∃ r, Ev g r ∧ (r = true → P)) (h : ∀ k, G (k + 1) (i : Int) = (g k).bind fun t => if t = true then G k ((i + 1 : Nat) : Int) else some false) :
    Ev (fun k => G k (i : Int)) false ∨ (P ∧ ∀ r, Ev (fun k => G k ((i + 1 : Nat) : Int)) r → Ev (fun k => G k (i : Int)) r) := by
  obtain ⟨r, h1, h2⟩ := hg
  cases r with
  | false => exact .inl (Ev.step h (ev_bind h1 (Ev.now _)))
  | true => exact .inr ⟨h2 rfl, fun r hr => Ev.step h (ev_bind h1 (Ev.congr (f := fun k => G k ((i + 1 : Nat) : Int)) (fun k => by simp) hr))⟩
theorem isSmall (s : ByteArray) (hs : s.size ≤ 2147483647) : ∃ r, Ev (fun k => spec_Small.f k s) r := by
  obtain ⟨r, h1, _⟩ := loop_all s.size (fun k i => spec_Small.l0 k s (s.size : Int) i) (fun _ => True) True (fun i hi => by
      have key : (∀ k, spec_Small.l0 (k + 1) s (s.size : Int) (i : Int) = some false) ∨ (∀ k, spec_Small.l0 (k + 1) s (s.size : Int) (i : Int) = spec_Small.l0 k s (s.size : Int) ((i + 1 : Nat) : Int)) := by
        by_cases c1 : bt s (i : Int) ≥ 97 <;> by_cases c2 : bt s (i : Int) ≤ 122 <;> by_cases c3 : bt s (i : Int) ≥ 65 <;> by_cases c4 : bt s (i : Int) ≤ 90 <;> by_cases c5 : bt s (i : Int) ≥ 48 <;> by_cases c6 : bt s (i : Int) ≤ 57 <;>
          first
          | (refine .inl (fun k => ?_); rw [spec_Small.l0, if_pos (by omega), if_pos (by omega), if_pos (by omega)]; simp only [c1, c2, c3, c4, c5, c6, if_true, if_false]; done)
          | (refine .inr (fun k => ?_); rw [spec_Small.l0, if_pos (by omega), if_pos (by omega), if_pos (by omega), wrap_succ (by omega)]; simp only [c1, c2, c3, c4, c5, c6, if_true, if_false])
      rcases key with h | h
      · exact .inl (ev_false h)
      · exact .inr ⟨trivial, ev_next h⟩)
      ⟨_, Ev.step (f := fun _ => some (s.toList != ([] : List UInt8))) (fun k => by rw [spec_Small.l0, if_neg (by omega)]) (Ev.now _), fun _ => trivial⟩
  exact ⟨r, h1⟩
theorem rd35 {l : List S35} {i : Nat} (h : i < l.length) : rd_T35 l (i : Int) = l[i] := by simp [rd_T35, List.getD_eq_getElem?_getD, h]
/-! ### sizes -/
def FitF (x : S35) : Prop := x.f8.size ≤ 2147483647 ∧ x.f9.size ≤ 2147483647
theorem fits17 (l : List S35) : ∃ r, Ev (fun k => laws_zzFits17.f k l) r ∧ (r = true → l.length ≤ 2147483647 ∧ ∀ x ∈ l, FitF x) := by
  by_cases hn : (l.length : Int) > 2147483647
  · exact ⟨false, Ev.congr (f := fun _ => some false) (fun k => by unfold laws_zzFits17.f; rw [if_pos hn]) (Ev.now _), fun h => by cases h⟩
  · obtain ⟨r, h1, h2⟩ := loop_all l.length (fun k i => laws_zzFits17.l0 k l (l.length : Int) i) (fun i => ∀ hi : i < l.length, FitF l[i]) True (fun i hi => by
      by_cases c1 : ((l[i]).f8.size : Int) > 2147483647
      · exact .inl (ev_false (fun k => by rw [laws_zzFits17.l0, if_pos (by omega), if_pos (by omega), if_pos (by omega), rd35 hi, laws_zzFits18.f, if_pos c1]; rfl))
      · by_cases c2 : ((l[i]).f9.size : Int) > 2147483647
        · exact .inl (ev_false (fun k => by rw [laws_zzFits17.l0, if_pos (by omega), if_pos (by omega), if_pos (by omega), rd35 hi, laws_zzFits18.f, if_neg c1, if_pos c2]; rfl))
        · exact .inr ⟨fun _ => ⟨by omega, by omega⟩, ev_next (fun k => by rw [laws_zzFits17.l0, if_pos (by omega), if_pos (by omega), if_pos (by omega), rd35 hi, laws_zzFits18.f, if_neg c1, if_neg c2, wrap_succ (by omega)]; rfl)⟩)
      ⟨true, Ev.step (f := fun _ => some true) (fun k => by rw [laws_zzFits17.l0, if_neg (by omega)]) (Ev.now _), fun _ => trivial⟩
    refine ⟨r, Ev.congr (f := fun k => laws_zzFits17.l0 k l (l.length : Int) 0) (fun k => by unfold laws_zzFits17.f; rw [if_neg hn]) h1, fun h => ⟨by omega, mem_of_idx (fun i hi => (h2 h).2 i hi hi)⟩⟩
theorem isFileName (s : ByteArray) (hs : s.size ≤ 2147483647) : ∃ r, Ev (fun k => spec_IsFileName.f k s) r ∧ (r = true → 0 < s.size ∧ s.size < 4000) := by
  obtain ⟨r, h1, h2⟩ := loop_all s.size (fun k i => spec_IsFileName.l0 k s (s.size : Int) i) (fun _ => True) (0 < s.size ∧ s.size < 4000) (fun i hi => by
      by_cases c1 : bt s (i : Int) = 47
      · by_cases c2 : (i : Int) = 0
        · exact .inl (ev_false (fun k => by rw [spec_IsFileName.l0, if_pos (by omega), if_pos (by omega), if_pos (by omega), if_pos c1, if_pos c2]))
        · have hw1 : wrap64 ((s.size : Int) - 1) = (s.size : Int) - 1 := by unfold wrap64; omega
          have hw2 : wrap64 ((i : Int) - 1) = (i : Int) - 1 := by unfold wrap64; omega
          by_cases c3 : (i : Int) = (s.size : Int) - 1
          · exact .inl (ev_false (fun k => by rw [spec_IsFileName.l0, if_pos (by omega), if_pos (by omega), if_pos (by omega), if_pos c1, if_neg c2, hw1, if_pos c3]))
          · by_cases c4 : bt s ((i : Int) - 1) = 47
            · exact .inl (ev_false (fun k => by rw [spec_IsFileName.l0, if_pos (by omega), if_pos (by omega), if_pos (by omega), if_pos c1, if_neg c2, hw1, if_neg c3, hw2, if_pos (by omega), if_pos (by omega), if_pos c4]))
            · exact .inr ⟨trivial, ev_next (fun k => by rw [spec_IsFileName.l0, if_pos (by omega), if_pos (by omega), if_pos (by omega), if_pos c1, if_neg c2, hw1, if_neg c3, hw2, if_pos (by omega), if_pos (by omega), if_neg c4, wrap_succ (by omega)])⟩
      · obtain ⟨q, hq⟩ := isSmall (s.extract (i : Int).toNat (((i + 1 : Nat) : Int)).toNat) (by rw [ByteArray.size_extract]; omega)
        have hstep : ∀ k, spec_IsFileName.l0 (k + 1) s (s.size : Int) (i : Int) = (spec_Small.f k (s.extract (i : Int).toNat (((i + 1 : Nat) : Int)).toNat)).bind fun t105 => (if t105 = true then (spec_IsFileName.l0 k s (s.size : Int) ((i + 1 : Nat) : Int)) else (if (bt s (i : Int)) = 45 then (spec_IsFileName.l0 k s (s.size : Int) ((i + 1 : Nat) : Int)) else (if (bt s (i : Int)) = 95 then (spec_IsFileName.l0 k s (s.size : Int) ((i + 1 : Nat) : Int)) else (some false)))) := fun k => by
          rw [spec_IsFileName.l0, wrap_succ (by omega), if_pos (by omega), if_pos (by omega), if_pos (by omega), if_neg c1, if_pos (by omega), if_pos (by omega)]
        cases q with
        | true => exact .inr ⟨trivial, fun r hr => Ev.step hstep (ev_bind hq (Ev.congr (f := fun k => spec_IsFileName.l0 k s (s.size : Int) ((i + 1 : Nat) : Int)) (fun k => by simp) hr))⟩
        | false =>
          by_cases c2 : bt s (i : Int) = 45
          · exact .inr ⟨trivial, fun r hr => Ev.step hstep (ev_bind hq (Ev.congr (f := fun k => spec_IsFileName.l0 k s (s.size : Int) ((i + 1 : Nat) : Int)) (fun k => by rw [if_neg (by simp), if_pos c2]) hr))⟩
          · by_cases c3 : bt s (i : Int) = 95
            · exact .inr ⟨trivial, fun r hr => Ev.step hstep (ev_bind hq (Ev.congr (f := fun k => spec_IsFileName.l0 k s (s.size : Int) ((i + 1 : Nat) : Int)) (fun k => by rw [if_neg (by simp), if_neg c2, if_pos c3]) hr))⟩
            · exact .inl (Ev.step hstep (ev_bind hq (Ev.congr (f := fun _ => some false) (fun k => by rw [if_neg (by simp), if_neg c2, if_neg c3]) (Ev.now _)))))
      (by
        by_cases c : s.toList = []
        · exact ⟨false, Ev.step (f := fun _ => some false) (fun k => by rw [spec_IsFileName.l0, if_neg (by omega), if_pos c]) (Ev.now _), fun h => by cases h⟩
        · refine ⟨decide ((s.size : Int) < 4000), Ev.step (f := fun _ => some (decide ((s.size : Int) < 4000))) (fun k => by rw [spec_IsFileName.l0, if_neg (by omega), if_neg c]) (Ev.now _), fun h => ?_⟩
          have := of_decide_eq_true h
          refine ⟨?_, by omega⟩
          rcases Nat.eq_zero_or_pos s.size with h0 | h0
          · exfalso
            apply c
            obtain ⟨d⟩ := s
            obtain rfl : d = #[] := Array.eq_empty_of_size_eq_zero h0
            first | (unfold ByteArray.toList ByteArray.toList.loop; rfl) | (simp [ByteArray.toList, ByteArray.toList.loop]; done) | (unfold ByteArray.toList ByteArray.toList.loop; simp; done) | decide
          · exact h0)
  exact ⟨r, h1, fun h => (h2 h).1⟩
theorem isName40 (s : ByteArray) (hs : s.size ≤ 2147483647) : ∃ r, Ev (fun k => spec_IsName40.f k s) r ∧ (r = true → s.size = 40) := by
  obtain ⟨r, h1, h2⟩ := loop_all s.size (fun k i => spec_IsName40.l0 k s (s.size : Int) i) (fun _ => True) (s.size = 40) (fun i hi => by
      have key : (∀ k, spec_IsName40.l0 (k + 1) s (s.size : Int) (i : Int) = some false) ∨ (∀ k, spec_IsName40.l0 (k + 1) s (s.size : Int) (i : Int) = spec_IsName40.l0 k s (s.size : Int) ((i + 1 : Nat) : Int)) := by
        by_cases c1 : bt s (i : Int) ≥ 48 <;> by_cases c2 : bt s (i : Int) ≤ 57 <;> by_cases c3 : bt s (i : Int) ≥ 97 <;> by_cases c4 : bt s (i : Int) ≤ 102 <;>
          first
          | (refine .inl (fun k => ?_); rw [spec_IsName40.l0, if_pos (by omega), if_pos (by omega), if_pos (by omega)]; simp only [c1, c2, c3, c4, if_true, if_false]; done)
          | (refine .inr (fun k => ?_); rw [spec_IsName40.l0, if_pos (by omega), if_pos (by omega), if_pos (by omega), wrap_succ (by omega)]; simp only [c1, c2, c3, c4, if_true, if_false])
      rcases key with h | h
      · exact .inl (ev_false h)
      · exact .inr ⟨trivial, ev_next h⟩)
      ⟨_, Ev.step (f := fun _ => some ((s.size : Int) == 40)) (fun k => by rw [spec_IsName40.l0, if_neg (by omega)]) (Ev.now _), fun h => by
        have := eq_of_beq h
        omega⟩
  exact ⟨r, h1, fun h => (h2 h).1⟩
/-- What is known of a file that may be written. -/
structure FOk (x : S35) : Prop where
  name0 : 0 < x.f9.size
  name1 : x.f9.size < 4000
  hash : x.f8.size = 40
  st0 : 0 ≤ x.f10
  st3 : x.f10 ≤ 3
theorem isFile_end (x : S35) (hx : FitF x) : ∃ r, Ev (fun k => ((spec_IsFileName.f k x.f9).bind fun t112 => (if t112 = true then ((spec_IsName40.f k x.f8).bind fun t113 => (if t113 = true then (if x.f10 ≥ 0 then (some (decide (x.f10 ≤ 3))) else (some false)) else (some false))) else (some false)))) r ∧ (r = true → FOk x) := by
  obtain ⟨q, h1, h2⟩ := isFileName x.f9 hx.2
  obtain ⟨q', h3, h4⟩ := isName40 x.f8 hx.1
  cases q with
  | false => exact ⟨false, ev_bind h1 (Ev.congr (f := fun _ => some false) (fun k => by rw [if_neg (by simp)]) (Ev.now _)), fun h => by cases h⟩
  | true =>
    cases q' with
    | false => exact ⟨false, ev_bind h1 (Ev.congr (f := fun k => (spec_IsName40.f k x.f8).bind fun t113 => (if t113 = true then (if x.f10 ≥ 0 then (some (decide (x.f10 ≤ 3))) else (some false)) else (some false))) (fun k => by rw [if_pos rfl]) (ev_bind h3 (Ev.congr (f := fun _ => some false) (fun k => by rw [if_neg (by simp)]) (Ev.now _)))), fun h => by cases h⟩
    | true =>
      by_cases c : x.f10 ≥ 0
      · refine ⟨decide (x.f10 ≤ 3), ev_bind h1 (Ev.congr (f := fun k => (spec_IsName40.f k x.f8).bind fun t113 => (if t113 = true then (if x.f10 ≥ 0 then (some (decide (x.f10 ≤ 3))) else (some false)) else (some false))) (fun k => by rw [if_pos rfl]) (ev_bind h3 (Ev.congr (f := fun _ => some (decide (x.f10 ≤ 3))) (fun k => by rw [if_pos rfl, if_pos c]) (Ev.now _)))), fun h => ⟨(h2 rfl).1, (h2 rfl).2, h4 rfl, c, of_decide_eq_true h⟩⟩
      · exact ⟨false, ev_bind h1 (Ev.congr (f := fun k => (spec_IsName40.f k x.f8).bind fun t113 => (if t113 = true then (if x.f10 ≥ 0 then (some (decide (x.f10 ≤ 3))) else (some false)) else (some false))) (fun k => by rw [if_pos rfl]) (ev_bind h3 (Ev.congr (f := fun _ => some false) (fun k => by rw [if_pos rfl, if_neg c]) (Ev.now _)))), fun h => by cases h⟩
theorem rd33 {l : List S33} {i : Nat} (h : i < l.length) : rd_T33 l (i : Int) = l[i] := by simp [rd_T33, List.getD_eq_getElem?_getD, h]
theorem isFile (x : S35) (hx : FitF x) : ∃ r, Ev (fun k => spec_IsFile.f k x.f0.f0 x.f0.f1 x.f1.f0 x.f1.f1 x.f2 x.f3 x.f4 x.f5 x.f6 x.f7 x.f8 x.f9 x.f10 x.f11 x.f12) r ∧ (r = true → FOk x) := by
  obtain ⟨L, hL⟩ : ∃ L : List S33, L = [(⟨x.f0.f0, x.f0.f1⟩ : S33), (⟨x.f1.f0, x.f1.f1⟩ : S33)] := ⟨_, rfl⟩
  have hl : L.length = 2 := by rw [hL]; rfl
  obtain ⟨r, h1, h2⟩ := loop_all 2 (fun k i => spec_IsFile.l0 k L (2 : Int) i x.f0.f0 x.f0.f1 x.f1.f0 x.f1.f1 x.f2 x.f3 x.f4 x.f5 x.f6 x.f7 x.f8 x.f9 x.f10 x.f11 x.f12) (fun _ => True) (FOk x) (fun i hi => by
      have e := rd33 (l := L) (i := i) (by omega)
      by_cases c1 : (rd_T33 L (i : Int)).f0 < 1
      · exact .inl (ev_false (G := fun k i => spec_IsFile.l0 k L (2 : Int) i x.f0.f0 x.f0.f1 x.f1.f0 x.f1.f1 x.f2 x.f3 x.f4 x.f5 x.f6 x.f7 x.f8 x.f9 x.f10 x.f11 x.f12) (fun k => by show spec_IsFile.l0 (k + 1) L (2 : Int) (i : Int) x.f0.f0 x.f0.f1 x.f1.f0 x.f1.f1 x.f2 x.f3 x.f4 x.f5 x.f6 x.f7 x.f8 x.f9 x.f10 x.f11 x.f12 = _; rw [spec_IsFile.l0, if_pos (by omega), if_pos (by omega), if_pos (by omega), if_pos c1]))
      by_cases c2 : (rd_T33 L (i : Int)).f0 ≥ 4294967296
      · exact .inl (ev_false (G := fun k i => spec_IsFile.l0 k L (2 : Int) i x.f0.f0 x.f0.f1 x.f1.f0 x.f1.f1 x.f2 x.f3 x.f4 x.f5 x.f6 x.f7 x.f8 x.f9 x.f10 x.f11 x.f12) (fun k => by show spec_IsFile.l0 (k + 1) L (2 : Int) (i : Int) x.f0.f0 x.f0.f1 x.f1.f0 x.f1.f1 x.f2 x.f3 x.f4 x.f5 x.f6 x.f7 x.f8 x.f9 x.f10 x.f11 x.f12 = _; rw [spec_IsFile.l0, if_pos (by omega), if_pos (by omega), if_pos (by omega), if_neg c1, if_pos c2]))
      by_cases c3 : (rd_T33 L (i : Int)).f1 < 0
      · exact .inl (ev_false (G := fun k i => spec_IsFile.l0 k L (2 : Int) i x.f0.f0 x.f0.f1 x.f1.f0 x.f1.f1 x.f2 x.f3 x.f4 x.f5 x.f6 x.f7 x.f8 x.f9 x.f10 x.f11 x.f12) (fun k => by show spec_IsFile.l0 (k + 1) L (2 : Int) (i : Int) x.f0.f0 x.f0.f1 x.f1.f0 x.f1.f1 x.f2 x.f3 x.f4 x.f5 x.f6 x.f7 x.f8 x.f9 x.f10 x.f11 x.f12 = _; rw [spec_IsFile.l0, if_pos (by omega), if_pos (by omega), if_pos (by omega), if_neg c1, if_neg c2, if_pos c3]))
      by_cases c4 : (rd_T33 L (i : Int)).f1 ≥ 1000000000
      · exact .inl (ev_false (G := fun k i => spec_IsFile.l0 k L (2 : Int) i x.f0.f0 x.f0.f1 x.f1.f0 x.f1.f1 x.f2 x.f3 x.f4 x.f5 x.f6 x.f7 x.f8 x.f9 x.f10 x.f11 x.f12) (fun k => by show spec_IsFile.l0 (k + 1) L (2 : Int) (i : Int) x.f0.f0 x.f0.f1 x.f1.f0 x.f1.f1 x.f2 x.f3 x.f4 x.f5 x.f6 x.f7 x.f8 x.f9 x.f10 x.f11 x.f12 = _; rw [spec_IsFile.l0, if_pos (by omega), if_pos (by omega), if_pos (by omega), if_neg c1, if_neg c2, if_neg c3, if_pos c4]))
      · exact .inr ⟨trivial, ev_next (G := fun k i => spec_IsFile.l0 k L (2 : Int) i x.f0.f0 x.f0.f1 x.f1.f0 x.f1.f1 x.f2 x.f3 x.f4 x.f5 x.f6 x.f7 x.f8 x.f9 x.f10 x.f11 x.f12) (fun k => by show spec_IsFile.l0 (k + 1) L (2 : Int) (i : Int) x.f0.f0 x.f0.f1 x.f1.f0 x.f1.f1 x.f2 x.f3 x.f4 x.f5 x.f6 x.f7 x.f8 x.f9 x.f10 x.f11 x.f12 = _; rw [spec_IsFile.l0, if_pos (by omega), if_pos (by omega), if_pos (by omega), if_neg c1, if_neg c2, if_neg c3, if_neg c4, wrap_succ (by omega)])⟩)
    (by
      obtain ⟨r, h1, h2⟩ := isFile_end x hx
      exact ⟨r, Ev.step (fun k => by show spec_IsFile.l0 (k + 1) L (2 : Int) ((2 : Nat) : Int) x.f0.f0 x.f0.f1 x.f1.f0 x.f1.f1 x.f2 x.f3 x.f4 x.f5 x.f6 x.f7 x.f8 x.f9 x.f10 x.f11 x.f12 = _; rw [spec_IsFile.l0, if_neg (by omega)]) h1, h2⟩)
  refine ⟨r, Ev.congr (fun k => ?_) h1, fun h => (h2 h).1⟩
  unfold spec_IsFile.f
  rw [← hL, Option.bind_some, hl]
  rfl
theorem isPlainFile (x : S35) (hx : FitF x) : ∃ r, Ev (fun k => spec_IsPlainFile.f k x.f0.f0 x.f0.f1 x.f1.f0 x.f1.f1 x.f2 x.f3 x.f4 x.f5 x.f6 x.f7 x.f8 x.f9 x.f10 x.f11 x.f12) r ∧ (r = true → FOk x) := by
  obtain ⟨q, h1, h2⟩ := isFile x hx
  cases q with
  | false => exact ⟨false, Ev.congr (fun k => by unfold spec_IsPlainFile.f; rfl) (ev_bind h1 (Ev.congr (f := fun _ => some false) (fun k => by rw [if_neg (by simp)]) (Ev.now _))), fun h => by cases h⟩
  | true =>
    by_cases c : x.f11 = true
    · exact ⟨false, Ev.congr (fun k => by unfold spec_IsPlainFile.f; rfl) (ev_bind h1 (Ev.congr (f := fun _ => some false) (fun k => by rw [if_pos rfl, if_pos c]) (Ev.now _))), fun h => by cases h⟩
    · exact ⟨!x.f12, Ev.congr (fun k => by unfold spec_IsPlainFile.f; rfl) (ev_bind h1 (Ev.congr (f := fun _ => some (!x.f12)) (fun k => by rw [if_pos rfl, if_neg c]) (Ev.now _))), fun _ => h2 rfl⟩
/-! ### the hash's bytes -/
theorem bits_u8 (op : BinOp) (x y : Int) : 0 ≤ Go.bits op .u8 x y ∧ Go.bits op .u8 x y < 256 := by
  unfold Go.bits
  simp only [IntKind.wrap, IntKind.bits, IntKind.signed]
  constructor
  · apply Int.emod_nonneg; decide
  · apply Int.emod_lt_of_pos; decide
theorem unhex_loop (s : ByteArray) (h40 : s.size = 40) : ∀ (m i : Nat) (X : List Int), i + 2 * m = 40 → X.length ≤ i → (∀ y ∈ X, 0 ≤ y ∧ y < 256) → ∃ U, Ev (fun k => spec_Unhex.l0 k s X (i : Int)) U ∧ U.length = X.length + m ∧ ∀ y ∈ U, 0 ≤ y ∧ y < 256 := by
  intro m
  induction m with
  | zero =>
    intro i X hi hXi hX
    refine ⟨X, Ev.step (f := fun _ => some X) (fun k => ?_) (Ev.now _), rfl, hX⟩
    rw [spec_Unhex.l0, wrap_succ (by omega), if_neg (by omega)]
  | succ m ih =>
    intro i X hi hXi hX
    obtain ⟨a, ha⟩ : ∃ a, spec_digit.f (bt s (i : Int)) = some a := by unfold spec_digit.f; split <;> exact ⟨_, rfl⟩
    obtain ⟨b, hb⟩ : ∃ b, spec_digit.f (bt s ((i + 1 : Nat) : Int)) = some b := by unfold spec_digit.f; split <;> exact ⟨_, rfl⟩
    have hx : X.length < 140737488355328 := by omega
    · obtain ⟨U, h1, h2, h3⟩ := ih (i + 2) (X ++ [Go.bits .or .u8 ((a * 16) % 256) b]) (by omega) (by rw [List.length_append]; show X.length + 1 ≤ i + 2; omega) (fun y hy => (List.mem_append.1 hy).elim (hX y) (fun h => by rw [List.mem_singleton.1 h]; exact bits_u8 _ _ _))
      refine ⟨U, Ev.step (fun k => ?_) h1, by rw [h2, List.length_append]; simp; omega, h3⟩
      rw [spec_Unhex.l0, wrap_succ (by omega), if_pos (by omega), if_pos (by omega), if_pos (by omega), ha, Option.bind_some, if_pos (by omega), hb, Option.bind_some, if_pos hx, show wrap64 ((i : Int) + 2) = ((i + 2 : Nat) : Int) by unfold wrap64; omega]
theorem unhex_all (s : ByteArray) (h40 : s.size = 40) : ∃ k U, spec_Unhex.f k s = some U ∧ U.length = 20 ∧ ∀ y ∈ U, 0 ≤ y ∧ y < 256 := by
  obtain ⟨U, h1, h2, h3⟩ := unhex_loop s h40 20 0 [] rfl (Nat.le_refl _) (fun y hy => by cases hy)
  obtain ⟨k, hk⟩ := h1.rounds
  exact ⟨k, U, hk, h2.trans (Nat.zero_add _), h3⟩
end Go.Proofs.YtllikhbafaohgaaGreatDoor.Idx
