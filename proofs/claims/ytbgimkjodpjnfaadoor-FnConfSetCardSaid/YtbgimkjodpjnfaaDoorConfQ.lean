/- What the looks of the statement say of whole configurations; the values of an option; that none stands twice. -/
import Derived.Test.YtbgimkjodpjnfaaDoorConfP
namespace Go.Proofs.YtbgimkjodpjnfaaDoor.Conf
open Go.RowKit Go.Proofs.YtbgimkjodpjnfaaDoorW.PrintWords Go.Proofs.YtbgimkjodpjnfaaDoorW.PrintLast Go.Proofs.YtbgimkjodpjnfaaDoorW.PrintMore Go.Proofs.YtbgimkjodpjnfaaDoor.Sep Go.Proofs.YtbgimkjodpjnfaaDoor.PFnConfSet

/-- A ends with false, or P holds and A goes on as B. -/
def Dich (A B : Nat → Option Bool) (P : Prop) : Prop := Ev A false ∨ (P ∧ ∀ r, Ev B r → Ev A r)
theorem Dich.comp {A B C : Nat → Option Bool} {P Q : Prop} (h : Dich A B P) (k : Dich B C Q) : Dich A C (P ∧ Q) := by
  rcases h with h | ⟨hP, h⟩
  · exact .inl h
  · rcases k with k | ⟨hQ, k⟩
    · exact .inl (h _ k)
    · exact .inr ⟨⟨hP, hQ⟩, fun r hr => h r (k r hr)⟩
theorem Dich.imp {A B : Nat → Option Bool} {P Q : Prop} (h : Dich A B P) (hPQ : P → Q) : Dich A B Q := Or.imp id (fun h => ⟨hPQ h.1, h.2⟩) h
theorem Dich.step {A A' B : Nat → Option Bool} {P : Prop} (hs : ∀ k, A (k + 1) = A' k) (h : Dich A' B P) : Dich A B P :=
  Or.imp (fun h => Ev.step hs h) (fun h => ⟨h.1, fun r hr => Ev.step hs (h.2 r hr)⟩) h
theorem Dich.congr {A A' B : Nat → Option Bool} {P : Prop} (hs : ∀ k, A k = A' k) (h : Dich A' B P) : Dich A B P :=
  Or.imp (fun h => Ev.congr hs h) (fun h => ⟨h.1, fun r hr => Ev.congr hs (h.2 r hr)⟩) h
theorem Dich.refl (A : Nat → Option Bool) : Dich A A True := .inr ⟨trivial, fun _ h => h⟩
theorem Dich.fail {A B : Nat → Option Bool} {P : Prop} (h : ∀ k, A k = some false) : Dich A B P := .inl (Ev.congr h (Ev.now _))
/-- A test by a function, then true and false ways. -/
theorem Dich.test {g : Nat → Option Bool} {f : Nat → Bool → Option Bool} {B : Nat → Option Bool} {P Q : Prop} (hg : ∃ r, Ev g r ∧ (r = true → P)) (ht : Dich (fun k => f k true) B Q) (hf : Ev (fun k => f k false) false) : Dich (fun k => (g k).bind (f k)) B (P ∧ Q) := by
  obtain ⟨r, h1, h2⟩ := hg
  cases r with
  | false => exact .inl (ev_bind h1 hf)
  | true => exact Or.imp (fun h => ev_bind h1 h) (fun h => ⟨⟨h2 rfl, h.1⟩, fun r hr => ev_bind h1 (h.2 r hr)⟩) ht
/-- Two tests in a row; where one fails, J is asked with true, which ends with false. -/
theorem Dich.two {g1 g2 : Nat → Option Bool} (J : Nat → Bool → Option Bool) {B : Nat → Option Bool} {P1 P2 Q : Prop} (h1 : ∃ r, Ev g1 r ∧ (r = true → P1)) (h2 : ∃ r, Ev g2 r ∧ (r = true → P2)) (hj : Dich (fun k => J k false) B Q) (hf : Ev (fun k => J k true) false) :
    Dich (fun k => (g1 k).bind fun t => (if t = true then ((g2 k).bind fun u => J k (!u)) else J k true)) B (P1 ∧ P2 ∧ Q) := by
  obtain ⟨r1, e1, p1⟩ := h1
  obtain ⟨r2, e2, p2⟩ := h2
  cases r1 with
  | false => exact .inl (ev_bind e1 (Ev.congr (fun k => if_neg (by simp)) hf))
  | true =>
    cases r2 with
    | false => exact .inl (ev_bind e1 (Ev.congr (fun k => if_pos rfl) (ev_bind e2 hf)))
    | true => exact Or.imp (fun h => ev_bind e1 (Ev.congr (fun k => if_pos rfl) (ev_bind e2 h))) (fun h => ⟨⟨p1 rfl, p2 rfl, h.1⟩, fun r hr => ev_bind e1 (Ev.congr (fun k => if_pos rfl) (ev_bind e2 (h.2 r hr)))⟩) hj
theorem loop_cont (n : Nat) (G : Nat → Int → Option Bool) (P : Nat → Prop) (T : Nat → Option Bool)
    (hstep : ∀ i, i < n → Dich (fun k => G k (i : Int)) (fun k => G k ((i + 1 : Nat) : Int)) (P i)) (hend : Dich (fun k => G k (n : Int)) T True) :
    Dich (fun k => G k 0) T (∀ i, i < n → P i) := by
  have key : ∀ d i, i + d = n → Dich (fun k => G k (i : Int)) T (∀ j, i ≤ j → j < n → P j) := by
    intro d
    induction d with
    | zero =>
      intro i hi
      obtain rfl : i = n := by omega
      exact hend.imp (fun _ j h3 h4 => by omega)
    | succ d ih =>
      intro i hi
      refine ((hstep i (by omega)).comp (ih (i + 1) (by omega))).imp (fun h j h3 h4 => ?_)
      rcases Nat.lt_or_ge i j with h5 | h5
      · exact h.2 j (by omega) h4
      · obtain rfl : j = i := by omega
        exact h.1
  exact (key n 0 (by omega)).imp (fun h i hi => h i (by omega) hi)

def SubsOk (xs : List S47) : Prop := ∀ i (hi : i < xs.length), (∀ o ∈ (xs[i]).f1, Word o.f0) ∧ ∀ j (hj : j < i), (xs[j]).f0.toList ≠ (xs[i]).f0.toList
def SecsOk (l : List S41) : Prop := ∀ i (hi : i < l.length), Word (l[i]).f0 ∧ (∀ o ∈ (l[i]).f1, Word o.f0) ∧ (∀ j (hj : j < i), (l[j]).f0.toList ≠ (l[i]).f0.toList) ∧ SubsOk (l[i]).f2

theorem secs_l3 (l : List S41) (i : Nat) (xs : List S47) (hx : xs.length ≤ 2147483647) (j : Nat) (hj : j < xs.length) (a : ByteArray) (b : List S45) :
    Dich (fun k => spec_AreSections.l3 k l l (l.length : Int) (i : Int) xs (xs.length : Int) (j : Int) (xs.take j) ((xs.take j).length : Int) 0 a b xs (xs[j]).f0 (xs[j]).f1)
      (fun k => spec_AreSections.l2 k l l (l.length : Int) (i : Int) xs (xs.length : Int) ((j + 1 : Nat) : Int) a b xs) (∀ m (hm : m < j), (xs[m]).f0.toList ≠ (xs[j]).f0.toList) := by
  have hl : (xs.take j).length = j := by rw [List.length_take]; omega
  refine (loop_cont (xs.take j).length (fun k z => spec_AreSections.l3 k l l (l.length : Int) (i : Int) xs (xs.length : Int) (j : Int) (xs.take j) ((xs.take j).length : Int) z a b xs (xs[j]).f0 (xs[j]).f1) (fun m => ∀ hm : m < j, (xs[m]).f0.toList ≠ (xs[j]).f0.toList) _ (fun m hm => ?_) ?_).imp (fun h m hm => h m (by omega) hm)
  · have hr : rd_T47 (xs.take j) (m : Int) = xs[m] := by rw [rd47 hm]; simp
    by_cases c : (xs[m]).f0.toList = (xs[j]).f0.toList
    · exact .inl (Ev.step (f := fun _ => some false) (fun k => by rw [spec_AreSections.l3, if_pos (by omega), if_pos (by omega), if_pos (by omega), hr, if_pos c]) (Ev.now _))
    · exact .inr ⟨fun _ => c, fun r h => Ev.step (fun k => by rw [spec_AreSections.l3, if_pos (by omega), if_pos (by omega), if_pos (by omega), hr, if_neg c, wrap_succ (by omega)]) h⟩
  · exact .inr ⟨trivial, fun r h => Ev.step (fun k => by rw [spec_AreSections.l3, if_neg (by omega), wrap_succ (by omega)]) h⟩
theorem secs_l2 (l : List S41) (i : Nat) (hi : i + 1 ≤ 2147483647) (xs : List S47) (hx : xs.length ≤ 2147483647) (hf : ∀ x ∈ xs, FitS x) (a : ByteArray) (b : List S45) :
    Dich (fun k => spec_AreSections.l2 k l l (l.length : Int) (i : Int) xs (xs.length : Int) 0 a b xs) (fun k => spec_AreSections.l0 k l l (l.length : Int) ((i + 1 : Nat) : Int)) (SubsOk xs) := by
  refine (loop_cont xs.length (fun k z => spec_AreSections.l2 k l l (l.length : Int) (i : Int) xs (xs.length : Int) z a b xs) (fun j => ∀ hj : j < xs.length, (∀ o ∈ (xs[j]).f1, Word o.f0) ∧ ∀ m (hm : m < j), (xs[m]).f0.toList ≠ (xs[j]).f0.toList) _ (fun j hj => ?_) ?_).imp (fun h j hj => h j hj hj)
  · have hfj := hf _ (List.getElem_mem hj)
    have hfail : ∀ k, spec_AreSections.j4 (k + 1) l (j : Int) l (l.length : Int) (i : Int) xs (xs.length : Int) (j : Int) true a b xs (xs[j]).f0 (xs[j]).f1 = some false := fun k => by rw [spec_AreSections.j4, if_pos rfl]
    have hfailE : Ev (fun k => spec_AreSections.j4 k l (j : Int) l (l.length : Int) (i : Int) xs (xs.length : Int) (j : Int) true a b xs (xs[j]).f0 (xs[j]).f1) false := Ev.step (f := fun _ => some false) hfail (Ev.now _)
    exact (Dich.step (fun k => by rw [spec_AreSections.l2, if_pos (by omega), if_pos (by omega), if_pos (by omega), rd47 hj])
      (Dich.two (fun k u => spec_AreSections.j4 k l (j : Int) l (l.length : Int) (i : Int) xs (xs.length : Int) (j : Int) u a b xs (xs[j]).f0 (xs[j]).f1) (isConfWord _ hfj.1) (areOptions _ hfj.2)
        (Dich.step (fun k => by rw [spec_AreSections.j4, if_neg (by simp), if_pos (by omega), if_pos (by omega)]; simp) (secs_l3 l i xs hx j hj a b)) hfailE)).imp (fun h _ => ⟨h.2.1, h.2.2⟩)
  · exact .inr ⟨trivial, fun r h => Ev.step (fun k => by rw [spec_AreSections.l2, if_neg (by omega), wrap_succ (by omega)]) h⟩
theorem secs_l1 (l : List S41) (hl : l.length ≤ 2147483647) (i : Nat) (hi : i < l.length) (hf : FitC l[i]) :
    Dich (fun k => spec_AreSections.l1 k l l (l.length : Int) (i : Int) (l.take i) ((l.take i).length : Int) 0 (l[i]).f0 (l[i]).f1 (l[i]).f2) (fun k => spec_AreSections.l0 k l l (l.length : Int) ((i + 1 : Nat) : Int)) ((∀ m (hm : m < i), (l[m]).f0.toList ≠ (l[i]).f0.toList) ∧ SubsOk (l[i]).f2) := by
  have hlt : (l.take i).length = i := by rw [List.length_take]; omega
  refine ((loop_cont (l.take i).length (fun k z => spec_AreSections.l1 k l l (l.length : Int) (i : Int) (l.take i) ((l.take i).length : Int) z (l[i]).f0 (l[i]).f1 (l[i]).f2) (fun m => ∀ hm : m < i, (l[m]).f0.toList ≠ (l[i]).f0.toList) (fun k => spec_AreSections.l2 k l l (l.length : Int) (i : Int) (l[i]).f2 ((l[i]).f2.length : Int) 0 (l[i]).f0 (l[i]).f1 (l[i]).f2) (fun m hm => ?_) ?_).imp (fun h m hm => h m (by omega) hm)).comp (secs_l2 l i (by omega) (l[i]).f2 hf.2.2.1 hf.2.2.2 _ _)
  · have hr : rd_T41 (l.take i) (m : Int) = l[m] := by rw [rd41 hm]; simp
    by_cases c : (l[m]).f0.toList = (l[i]).f0.toList
    · exact .inl (Ev.step (f := fun _ => some false) (fun k => by rw [spec_AreSections.l1, if_pos (by omega), if_pos (by omega), if_pos (by omega), hr, if_pos c]) (Ev.now _))
    · exact .inr ⟨fun _ => c, fun r h => Ev.step (fun k => by rw [spec_AreSections.l1, if_pos (by omega), if_pos (by omega), if_pos (by omega), hr, if_neg c, wrap_succ (by omega)]) h⟩
  · exact .inr ⟨trivial, fun r h => Ev.step (fun k => by rw [spec_AreSections.l1, if_neg (by omega)]) h⟩
theorem areSections (l : List S41) (hf : Fit l) : ∃ r, Ev (fun k => spec_AreSections.f k l) r ∧ (r = true → SecsOk l) := by
  have hl := hf.1
  obtain ⟨r, h1, h2⟩ := loop_all l.length (fun k z => spec_AreSections.l0 k l l (l.length : Int) z) (fun i => ∀ hi : i < l.length, Word (l[i]).f0 ∧ (∀ o ∈ (l[i]).f1, Word o.f0) ∧ (∀ j (hj : j < i), (l[j]).f0.toList ≠ (l[i]).f0.toList) ∧ SubsOk (l[i]).f2) True (fun i hi => by
      have hfi := hf.2 _ (List.getElem_mem hi)
      have hfailE : Ev (fun k => spec_AreSections.j1 k l (i : Int) l (l.length : Int) (i : Int) true (l[i]).f0 (l[i]).f1 (l[i]).f2) false := Ev.step (f := fun _ => some false) (fun k => by rw [spec_AreSections.j1, if_pos rfl]) (Ev.now _)
      refine Dich.imp (P := (Word (l[i]).f0 ∧ (l[i]).f0.toList ≠ []) ∧ (∀ o ∈ (l[i]).f1, Word o.f0) ∧ (∀ m (hm : m < i), (l[m]).f0.toList ≠ (l[i]).f0.toList) ∧ SubsOk (l[i]).f2) ?_ (fun h _ => ⟨h.1.1, h.2⟩)
      exact Dich.step (fun k => by rw [spec_AreSections.l0, if_pos (by omega), if_pos (by omega), if_pos (by omega), rd41 hi])
        (Dich.two (fun k u => spec_AreSections.j1 k l (i : Int) l (l.length : Int) (i : Int) u (l[i]).f0 (l[i]).f1 (l[i]).f2) (isConfWord _ hfi.1) (areOptions _ hfi.2.1)
          (Dich.step (fun k => by rw [spec_AreSections.j1, if_neg (by simp), if_pos (by omega), if_pos (by omega)]; simp) (secs_l1 l hl i hi hfi)) hfailE))
      ⟨_, Ev.step (f := fun _ => some (decide ((l.length : Int) ≤ 100))) (fun k => by rw [spec_AreSections.l0, if_neg (by omega)]) (Ev.now _), fun _ => trivial⟩
  exact ⟨r, h1, fun h i hi => (h2 h).2 i hi hi⟩
theorem cfAre (l : List S41) (hf : Fit l) (a1 a2 a3 a4 : ByteArray) (h1 : a1.size ≤ 2147483647) (h2 : a2.size ≤ 2147483647) (h3 : a3.size ≤ 2147483647) (h4 : a4.size ≤ 2147483647) :
    ∃ r, Ev (fun k => laws_cfAre.f k l a1 a2 a3 a4) r ∧ (r = true → SecsOk l ∧ Word a1 ∧ Word a3) := by
  obtain ⟨r0, e0, p0⟩ := areSections l hf
  obtain ⟨r1, e1, p1⟩ := isConfWord a1 h1
  obtain ⟨r2, e2, p2⟩ := isConfWord a2 h2
  obtain ⟨r3, e3, p3⟩ := isConfWord a3 h3
  obtain ⟨r4, e4⟩ := isValue a4 h4
  unfold laws_cfAre.f
  cases r0 with
  | false => exact ⟨false, ev_bind e0 (Ev.now _), fun h => by cases h⟩
  | true =>
    cases r1 with
    | false => exact ⟨false, ev_bind e0 (Ev.congr (fun k => if_pos rfl) (ev_bind e1 (Ev.now _))), fun h => by cases h⟩
    | true =>
      by_cases c : a2.toList = []
      · cases r3 with
        | false => exact ⟨false, ev_bind e0 (Ev.congr (fun k => if_pos rfl) (ev_bind e1 (Ev.congr (fun k => (if_pos rfl).trans (if_pos c)) (ev_bind e3 (Ev.now _))))), fun h => by cases h⟩
        | true => exact ⟨r4, ev_bind e0 (Ev.congr (fun k => if_pos rfl) (ev_bind e1 (Ev.congr (fun k => (if_pos rfl).trans (if_pos c)) (ev_bind e3 (Ev.congr (fun k => if_pos rfl) (ev_bind e4 (Ev.now _))))))), fun _ => ⟨p0 rfl, (p1 rfl).1, (p3 rfl).1⟩⟩
      · cases r2 with
        | false => exact ⟨false, ev_bind e0 (Ev.congr (fun k => if_pos rfl) (ev_bind e1 (Ev.congr (fun k => (if_pos rfl).trans (if_neg c)) (ev_bind e2 (Ev.now _))))), fun h => by cases h⟩
        | true =>
          cases r3 with
          | false => exact ⟨false, ev_bind e0 (Ev.congr (fun k => if_pos rfl) (ev_bind e1 (Ev.congr (fun k => (if_pos rfl).trans (if_neg c)) (ev_bind e2 (Ev.congr (fun k => if_pos rfl) (ev_bind e3 (Ev.now _))))))), fun h => by cases h⟩
          | true => exact ⟨r4, ev_bind e0 (Ev.congr (fun k => if_pos rfl) (ev_bind e1 (Ev.congr (fun k => (if_pos rfl).trans (if_neg c)) (ev_bind e2 (Ev.congr (fun k => if_pos rfl) (ev_bind e3 (Ev.congr (fun k => if_pos rfl) (ev_bind e4 (Ev.now _))))))))), fun _ => ⟨p0 rfl, (p1 rfl).1, (p3 rfl).1⟩⟩
end Go.Proofs.YtbgimkjodpjnfaaDoor.Conf
