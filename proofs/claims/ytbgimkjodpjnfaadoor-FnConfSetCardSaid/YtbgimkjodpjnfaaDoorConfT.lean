/- The values of an option, that none stands twice; and the plain law: what is set is what is got. -/
import Derived.Test.YtbgimkjodpjnfaaDoorConfS
namespace Go.Proofs.YtbgimkjodpjnfaaDoor.Conf
open Go.RowKit Go.Proofs.YtbgimkjodpjnfaaDoorW.PrintWords Go.Proofs.YtbgimkjodpjnfaaDoorW.PrintLast Go.Proofs.YtbgimkjodpjnfaaDoorW.PrintMore Go.Proofs.YtbgimkjodpjnfaaDoor.Sep Go.Proofs.YtbgimkjodpjnfaaDoor.PFnConfSet

/-- A ends with true, or P holds and A goes on as B. -/
def DichT (A B : Nat → Option Bool) (P : Prop) : Prop := Ev A true ∨ (P ∧ ∀ r, Ev B r → Ev A r)
theorem loop_contT (n : Nat) (G : Nat → Int → Option Bool) (P : Nat → Prop) (T : Nat → Option Bool)
    (hstep : ∀ i, i < n → DichT (fun k => G k (i : Int)) (fun k => G k ((i + 1 : Nat) : Int)) (P i)) (hend : DichT (fun k => G k (n : Int)) T True) :
    DichT (fun k => G k 0) T (∀ i, i < n → P i) := by
  have key : ∀ d i, i + d = n → DichT (fun k => G k (i : Int)) T (∀ j, i ≤ j → j < n → P j) := by
    intro d
    induction d with
    | zero =>
      intro i hi
      obtain rfl : i = n := by omega
      exact Or.imp id (fun h => ⟨fun j h3 h4 => by omega, h.2⟩) hend
    | succ d ih =>
      intro i hi
      rcases hstep i (by omega) with h | ⟨hP, hn⟩
      · exact .inl h
      · rcases ih (i + 1) (by omega) with h | ⟨hQ, hm⟩
        · exact .inl (hn _ h)
        · refine .inr ⟨fun j h3 h4 => ?_, fun r hr => hn r (hm r hr)⟩
          rcases Nat.lt_or_ge i j with h5 | h5
          · exact hQ j (by omega) h4
          · obtain rfl : j = i := by omega
            exact hP
  exact Or.imp id (fun h => ⟨fun i hi => h.1 i (by omega) hi, h.2⟩) (key n 0 (by omega))
theorem DichT.imp {A B : Nat → Option Bool} {P Q : Prop} (h : DichT A B P) (hPQ : P → Q) : DichT A B Q := Or.imp id (fun h => ⟨hPQ h.1, h.2⟩) h
theorem DichT.step {A A' B : Nat → Option Bool} {P : Prop} (hs : ∀ k, A (k + 1) = A' k) (h : DichT A' B P) : DichT A B P :=
  Or.imp (fun h => Ev.step hs h) (fun h => ⟨h.1, fun r hr => Ev.step hs (h.2 r hr)⟩) h
theorem cons_yes {o : S45} {os : List S45} {key : ByteArray} (h : o.f0.toList = key.toList) : allVals (o :: os) key = o.f1 :: allVals os key := by simp [allVals, eqs, h]
theorem cons_no {o : S45} {os : List S45} {key : ByteArray} (h : ¬ o.f0.toList = key.toList) : allVals (o :: os) key = allVals os key := by simp [allVals, eqs, h]
theorem rdb {l : List ByteArray} {i : Nat} (h : i < l.length) : rdOf ByteArray.empty l (i : Int) = l[i] := by simp [rdOf, List.getD_eq_getElem?_getD, h]

theorem twice (vs : List ByteArray) (hn : vs.length ≤ 2147483647) :
    ∃ r, Ev (fun k => spec_Twice.f k vs) r ∧ (r = false → ∀ i (hi : i < vs.length) j (hj : j < i), (vs[j]).toList ≠ (vs[i]).toList) := by
  rcases loop_contT vs.length (fun k z => spec_Twice.l0 k vs vs (vs.length : Int) z) (fun i => ∀ hi : i < vs.length, ∀ j (hj : j < i), (vs[j]).toList ≠ (vs[i]).toList) (fun _ => some false) (fun i hi => by
      have ht : (vs.take i).length = i := by rw [List.length_take]; omega
      have hs : ∀ k, spec_Twice.l0 (k + 1) vs vs (vs.length : Int) (i : Int) = spec_Twice.l1 k vs (vs[i]) vs (vs.length : Int) (i : Int) (vs.take i) ((vs.take i).length : Int) 0 := fun k => by
        rw [spec_Twice.l0, if_pos (by omega), if_pos (by omega), if_pos (by omega), if_pos (by omega), rdb hi, Int.toNat_natCast]
      refine DichT.step hs ?_
      refine DichT.imp (P := ∀ m, m < (vs.take i).length → ∀ hm : m < i, (vs[m]).toList ≠ (vs[i]).toList) ?_ (fun h _ j hj => h j (by omega) hj)
      refine (loop_contT (vs.take i).length (fun k z => spec_Twice.l1 k vs (vs[i]) vs (vs.length : Int) (i : Int) (vs.take i) ((vs.take i).length : Int) z) (fun m => ∀ hm : m < i, (vs[m]).toList ≠ (vs[i]).toList) _ (fun m hm => ?_) ?_)
      · have hr : rdOf ByteArray.empty (vs.take i) (m : Int) = vs[m] := by rw [rdb hm, List.getElem_take]
        by_cases c : (vs[i]).toList = (vs[m]).toList
        · exact .inl (Ev.step (f := fun _ => some true) (fun k => by rw [spec_Twice.l1, if_pos (by omega), if_pos (by omega), if_pos (by omega), hr, if_pos c]) (Ev.now _))
        · exact .inr ⟨fun _ h => c h.symm, fun r h => Ev.step (fun k => by rw [spec_Twice.l1, if_pos (by omega), if_pos (by omega), if_pos (by omega), hr, if_neg c, wrap_succ (by omega)]) h⟩
      · exact .inr ⟨trivial, fun r h => Ev.step (fun k => by rw [spec_Twice.l1, if_neg (by omega), wrap_succ (by omega)]) h⟩) (.inr ⟨trivial, fun r h => Ev.step (fun k => by rw [spec_Twice.l0, if_neg (by omega)]) h⟩) with h | ⟨h, hgo⟩
  · exact ⟨true, h, fun h => by cases h⟩
  · exact ⟨false, hgo _ (Ev.now _), fun _ i hi => h i hi hi⟩

theorem values (os : List S45) (key : ByteArray) (hn : os.length ≤ 2147483647) : Ev (fun k => spec_Values.f k os key) (allVals os key) := by
  have main : ∀ d i, i + d = os.length → ∀ acc : List ByteArray, acc.length ≤ i → Ev (fun k => spec_Values.l0 k key acc os (os.length : Int) (i : Int)) (acc ++ allVals (os.drop i) key) := by
    intro d
    induction d with
    | zero =>
      intro i hi acc _
      have h0 : os.drop i = [] := List.drop_eq_nil_of_le (by omega)
      rw [h0]
      have h1 : acc ++ allVals [] key = acc := by simp [allVals]
      rw [h1]
      exact Ev.step (f := fun _ => some acc) (fun k => by rw [spec_Values.l0, if_neg (by omega)]) (Ev.now _)
    | succ d ih =>
      intro i hi acc ha
      have hlt : i < os.length := by omega
      have hd : os.drop i = os[i] :: os.drop (i + 1) := List.drop_eq_getElem_cons hlt
      by_cases c : ((os[i]).f0).toList = key.toList
      · have h1 : allVals (os.drop i) key = (os[i]).f1 :: allVals (os.drop (i + 1)) key := by
          rw [hd, cons_yes c]
        have h2 := ih (i + 1) (by omega) (acc ++ [(os[i]).f1]) (by simp only [List.length_append, List.length_singleton]; omega)
        rw [List.append_assoc, List.singleton_append, ← h1] at h2
        exact Ev.step (fun k => by rw [spec_Values.l0, if_pos (by omega), if_pos (by omega), if_pos (by omega), rd45 hlt, if_pos c, if_pos (by omega), wrap_succ (by omega)]) h2
      · have h1 : allVals (os.drop i) key = allVals (os.drop (i + 1)) key := by
          rw [hd, cons_no c]
        have h2 := ih (i + 1) (by omega) acc (by omega)
        rw [← h1] at h2
        exact Ev.step (fun k => by rw [spec_Values.l0, if_pos (by omega), if_pos (by omega), if_pos (by omega), rd45 hlt, if_neg c, wrap_succ (by omega)]) h2
  have := main os.length 0 (by omega) [] (by simp)
  simp only [List.drop_zero, List.nil_append] at this
  exact this

theorem eqs_self (a : ByteArray) : eqs a a = true := eqs_iff.2 rfl
theorem allVals_append (xs ys : List S45) (key : ByteArray) : allVals (xs ++ ys) key = allVals xs key ++ allVals ys key := by simp [allVals]
/-- No value stands twice among those of the key. -/
def Once (vs : List ByteArray) : Prop := ∀ i (hi : i < vs.length) j (hj : j < i), (vs[j]).toList ≠ (vs[i]).toList
theorem Once.nodup {vs : List ByteArray} (h : Once vs) : vs.Nodup := by
  rw [List.Nodup, List.pairwise_iff_getElem]
  intro i j hi hj hij he
  exact h j hj i hij (by rw [he])
theorem kept_vals (os : List S45) (key value : ByteArray) : allVals (kept os key value) key = (allVals os key).filter (fun x => eqs value x) := by
  induction os with
  | nil => rfl
  | cons o os ih =>
    unfold allVals kept at ih ⊢
    cases h1 : eqs o.f0 key <;> cases h2 : eqs value o.f1 <;> simp [keepB, h1, h2] <;> simpa [keepB] using ih
theorem adds_vals (os : List S45) (key value : ByteArray) : adds os key value = (allVals os key).filter (fun x => eqs value x) := by
  induction os with
  | nil => rfl
  | cons o os ih =>
    unfold allVals adds at ih ⊢
    cases h1 : eqs o.f0 key <;> cases h2 : eqs value o.f1 <;> simp [h1, h2] <;> simpa using ih
theorem set_vals {os : List S45} {key : ByteArray} (value : ByteArray) (h : Once (allVals os key)) : allVals (setOpts os key value) key = [value] := by
  have hd : ((allVals os key).filter (fun x => eqs value x)).Nodup := h.nodup.filter _
  have hall : ∀ x ∈ (allVals os key).filter (fun x => eqs value x), x = value := fun x hx => (eqs_iff.1 (List.mem_filter.1 hx).2).symm
  unfold setOpts
  rw [adds_vals]
  cases hl : (allVals os key).filter (fun x => eqs value x) with
  | nil =>
    rw [if_neg (by simp), allVals_append, kept_vals, hl]
    simp [allVals, eqs_self]
  | cons x xs =>
    rw [hl] at hd hall
    obtain rfl := hall x (by simp)
    cases xs with
    | nil => rw [if_pos (by simp [eqs_self]), kept_vals, hl]
    | cons y ys =>
      obtain rfl := hall y (by simp)
      simp at hd

/-- No name stands twice. -/
def Uniq {α : Type} (nm : α → ByteArray) (l : List α) : Prop := ∀ (i j : Nat) (x y : α), l[i]? = some x → l[j]? = some y → nm x = nm y → i = j
theorem Uniq.of {α : Type} {nm : α → ByteArray} {l : List α} (h : ∀ i (hi : i < l.length) j (hj : j < i), (nm (l[j])).toList ≠ (nm (l[i])).toList) : Uniq nm l := by
  intro i j x y hx hy he
  obtain ⟨hi, rfl⟩ := List.getElem?_eq_some_iff.1 hx
  obtain ⟨hj, rfl⟩ := List.getElem?_eq_some_iff.1 hy
  rcases Nat.lt_trichotomy i j with hc | hc | hc
  · exact absurd (by rw [he]) (h j hj i hc)
  · exact hc
  · exact absurd (by rw [he]) (h i hi j hc)
section
variable {α : Type} {nm : α → ByteArray} {new : α} {l l' : List α} {name : ByteArray} {i : Nat} {x : α}
theorem pick_uniq (h : PickP nm new l name l' i x) (hn : nm new = name) (hu : Uniq nm l) : Uniq nm l' ∧ l'[i]? = some x ∧ nm x = name := by
  rcases h with ⟨rfl, hx, he⟩ | ⟨hall, rfl, rfl, rfl⟩
  · exact ⟨hu, hx, eqs_iff.1 he⟩
  · refine ⟨fun a b y z hy hz he => ?_, by simp, hn⟩
    have hne : ∀ y ∈ l, nm y ≠ name := fun y hy hc => by
      have := hall y hy
      rw [eqs_iff.2 hc] at this
      cases this
    have split : ∀ (a : Nat) (y : α), (l ++ [x])[a]? = some y → (l[a]? = some y) ∨ (a = l.length ∧ y = x) := fun a y hy => by
      rcases Nat.lt_or_ge a l.length with hc | hc
      · rw [List.getElem?_append_left hc] at hy; exact .inl hy
      · rw [List.getElem?_append_right hc] at hy
        have := (List.getElem?_eq_some_iff.1 hy).1
        simp only [List.length_singleton] at this
        have h0 : a - l.length = 0 := by omega
        rw [h0] at hy
        exact .inr ⟨by omega, by simpa using hy.symm⟩
    rcases split a y hy with h1 | ⟨h1, rfl⟩ <;> rcases split b z hz with h2 | ⟨h2, rfl⟩
    · exact hu a b y z h1 h2 he
    · exact absurd (he.trans hn) (hne y (List.mem_of_getElem? h1))
    · exact absurd (he.symm.trans hn) (hne z (List.mem_of_getElem? h2))
    · omega
theorem set_uniq {x' : α} (hu : Uniq nm l) (hx : l[i]? = some x) (hn : nm x' = nm x) : Uniq nm (l.set i x') ∧ (l.set i x')[i]? = some x' := by
  have hlt := (List.getElem?_eq_some_iff.1 hx).1
  have hback : ∀ (a : Nat) (y : α), (l.set i x')[a]? = some y → ∃ y0, l[a]? = some y0 ∧ nm y0 = nm y := fun a y hy => by
    by_cases hc : i = a
    · subst hc
      rw [List.getElem?_set_self hlt] at hy
      cases hy
      exact ⟨x, hx, hn.symm⟩
    · rw [List.getElem?_set_ne hc] at hy
      exact ⟨y, hy, rfl⟩
  refine ⟨fun a b y z hy hz he => ?_, List.getElem?_set_self hlt⟩
  obtain ⟨y0, hy0, ey⟩ := hback a y hy
  obtain ⟨z0, hz0, ez⟩ := hback b z hz
  exact hu a b y0 z0 hy0 hz0 (by rw [ey, ez, he])
theorem pick_again {y : α} {i2 : Nat} {l2 : List α} (hu : Uniq nm l) (hy : l[i]? = some y) (hn : nm y = name) (h : PickP nm new l name l2 i2 x) : x = y := by
  rcases h with ⟨rfl, hx, he⟩ | ⟨hall, _, _, _⟩
  · obtain rfl := hu i2 i x y hx hy ((eqs_iff.1 he).trans hn.symm)
    rw [hx] at hy
    cases hy
    rfl
  · have := hall y (List.mem_of_getElem? hy)
    rw [eqs_iff.2 hn] at this
    cases this
end
theorem set_get {l l2 : List S41} {section_ sub key value one : ByteArray} {all : List ByteArray} {os : List S45} (hl : SecsOk l) (ho : OptP l section_ sub os) (hv : Once (allVals os key)) (hs : SetP l section_ sub key value l2) (hg : GetP l2 section_ sub key one all) : one = value ∧ all = [value] := by
  have hu : Uniq S41.f0 l := Uniq.of (fun i hi => (hl i hi).2.2.1)
  have once_nil : Once (allVals [] key) := fun i hi => absurd hi (by simp [allVals])
  obtain ⟨l', i, x, hp, hs1, hs2⟩ := hs
  obtain ⟨hu', hx, hnx⟩ := pick_uniq hp rfl hu
  obtain ⟨l3, i3, x3, hp3, hg1, hg2⟩ := hg
  by_cases hsub : sub.toList = []
  · obtain rfl := hs1 hsub
    obtain ⟨hu2, hx2⟩ := set_uniq (x' := ⟨x.f0, setOpts x.f1 key value, x.f2⟩) hu' hx rfl
    obtain rfl := pick_again hu2 hx2 hnx hp3
    obtain ⟨rfl, rfl⟩ := hg1 hsub
    have hon : Once (allVals x.f1 key) := by
      rcases hp with ⟨rfl, hx', he⟩ | ⟨hall, _, _, rfl⟩
      · rcases ho.1 hsub with ⟨s, hs, hes, rfl⟩ | hno
        · obtain ⟨j, hj⟩ := List.getElem?_of_mem hs
          have := hu i j x s hx' hj (hnx.trans (eqs_iff.1 hes).symm)
          subst this
          rw [hx'] at hj
          cases hj
          exact hv
        · have := hno x (List.mem_of_getElem? hx')
          rw [he] at this
          cases this
      · exact once_nil
    have := set_vals value hon
    exact ⟨by simp [lastVal, this], this⟩
  · obtain ⟨m', j, y, hpy, rfl⟩ := hs2 hsub
    have hux : Uniq S47.f0 x.f2 := by
      rcases hp with ⟨rfl, hx', _⟩ | ⟨_, _, _, rfl⟩
      · obtain ⟨hi, rfl⟩ := List.getElem?_eq_some_iff.1 hx'
        exact Uniq.of (fun a ha => ((hl i hi).2.2.2 a ha).2)
      · intro a b _ _ ha
        simp at ha
    obtain ⟨huy, hy, hny⟩ := pick_uniq hpy rfl hux
    obtain ⟨hu2, hx2⟩ := set_uniq (x' := ⟨x.f0, x.f1, m'.set j ⟨y.f0, setOpts y.f1 key value⟩⟩) hu' hx rfl
    obtain rfl := pick_again hu2 hx2 hnx hp3
    obtain ⟨m3, j3, y3, hpy3, rfl, rfl⟩ := hg2 hsub
    obtain ⟨huy2, hy2⟩ := set_uniq (x' := (⟨y.f0, setOpts y.f1 key value⟩ : S47)) huy hy rfl
    obtain rfl := pick_again huy2 hy2 hny hpy3
    have hon : Once (allVals y.f1 key) := by
      rcases hpy with ⟨rfl, hy', hey⟩ | ⟨_, _, _, rfl⟩
      · rcases hp with ⟨rfl, hx', he⟩ | ⟨_, _, _, rfl⟩
        · rcases ho.2.1 hsub with ⟨s, hs, hes, z, hz, hez, rfl⟩ | hno
          · obtain ⟨a, ha⟩ := List.getElem?_of_mem hs
            have := hu i a x s hx' ha (hnx.trans (eqs_iff.1 hes).symm)
            subst this
            rw [hx'] at ha
            cases ha
            obtain ⟨b, hb⟩ := List.getElem?_of_mem hz
            have := hux j b y z hy' hb (hny.trans (eqs_iff.1 hez).symm)
            subst this
            rw [hy'] at hb
            cases hb
            exact hv
          · have := hno x (List.mem_of_getElem? hx') he y (List.mem_of_getElem? hy')
            rw [hey] at this
            cases this
        · simp at hy'
      · exact once_nil
    have := set_vals value hon
    exact ⟨by simp [lastVal, this], this⟩
end Go.Proofs.YtbgimkjodpjnfaaDoor.Conf
