/- A slice of sections that is handed in, opened: it reads as a list of sections. -/
import Derived.Test.YtbgimkjodpjnfaaDoorConfU
import Derived.Deep.Slices
import Derived.ChangeArms
namespace Go.Proofs.YtbgimkjodpjnfaaDoor.Conf
open Go.RowKit Go.Proofs.YtbgimkjodpjnfaaDoorW.PrintWords Go.Proofs.YtbgimkjodpjnfaaDoorW.PrintLast Go.Proofs.YtbgimkjodpjnfaaDoorW.PrintMore Go.Proofs.YtbgimkjodpjnfaaDoor.Sep Go.Proofs.YtbgimkjodpjnfaaDoor.PFnConfSet

section
variable {H : Type} {enc : TypeId × Value → H} {w : World} {base : Nat} {spare : Nat → Bool} {held : Bool}
theorem open_field {P : Program} {fs : Array Field} {xs : List (DataW H × List MemPlace)} {n : Nat} {cs : List Value}
    (hx : ∀ (i : Nat) (f : Field), fs[i]? = some f → DataW.trod enc P w base spare held n f.type ((cs.drop f.offset).take (P.cellsOf f.type)) = xs[i]?) (hl : xs.length = fs.size) (i : Nat) (f : Field) (hf : fs[i]? = some f) :
    ∃ y, DataW.trod enc P w base spare held n f.type ((cs.drop f.offset).take (P.cellsOf f.type)) = some y := by
  have hi : i < xs.length := by rw [hl]; exact (Array.getElem?_eq_some_iff.1 hf).1
  exact ⟨xs[i], by rw [hx i f hf, List.getElem?_eq_getElem hi]⟩
theorem open_row {α : Type} [Inhabited α] {P : Program} {k : Kd α} {t e : TypeId} {fuel : Nat} {cs : List Value} {x : DataW H × List MemPlace} (ht : P.underlying t = some (.slice e)) (hsz : P.cellsOf e = k.sz)
    (hopen : ∀ (n : Nat) (cs : List Value) (x : DataW H × List MemPlace), DataW.trod enc P w base spare held n e cs = some x → ∃ a, k.K w a cs) (h : DataW.trod enc P w base spare held fuel t cs = some x) :
    ∃ (A : Option Addr) (c : Nat) (l : List α), cs = [.slice A l.length c] ∧ l.length ≤ c ∧ k.C w A l.length l := by
  rcases Go.Deep.open_slice ht h with ⟨rfl, rfl⟩ | ⟨a, len, cap, m, n, D, Pl, rfl, hb, hl, hm, hmm, rfl, hx⟩
  · exact ⟨none, 0, [], rfl, Nat.le_refl _, rfl, by simp, fun h => by simp at h⟩
  · have hlm : len ≤ m := by rw [hmm]; split <;> omega
    obtain ⟨f, hf⟩ := Go.Deep.choose_lt (α := α) (n := len) (p := fun i a' => ∃ cs', w.cells? base (a.add (i * P.cellsOf e)) (P.cellsOf e) = some cs' ∧ k.K w a' cs') (fun i hi => by
      obtain ⟨cs', h1, h2⟩ := hx i (by omega)
      obtain ⟨a', h3⟩ := hopen _ _ _ h2
      exact ⟨a', cs', h1, h3⟩)
    have hlen : ((List.range len).map f).length = len := by simp
    refine ⟨some a, cap, (List.range len).map f, by rw [hlen], by rw [hlen]; exact hl, ⟨rfl, ?_, fun _ => ⟨a, rfl, fun j p hj => ?_⟩⟩⟩
    · rw [hlen]
      have : maxLen ≤ 9223372036854775807 := by decide
      omega
    · obtain ⟨hj1, hj2⟩ := List.getElem?_eq_some_iff.1 hj
      rw [hlen] at hj1
      have hp : f j = p := by simpa using hj2
      subst hp
      obtain ⟨cs', h1, h2⟩ := hf j hj1
      obtain ⟨_, h3, h4⟩ := World.cells?_some h1
      refine ⟨cs', by rw [h3, hsz], h2, fun i u hu => ?_⟩
      have hi : i < cs'.length := (List.getElem?_eq_some_iff.1 hu).1
      have := h4 i (by omega)
      rw [hu, hsz, Go.Deep.add_add] at this
      exact this

theorem cells9 : Tryd.prog.cellsOf 9 = 1 := by kernel_rfl
theorem cells45 : Tryd.prog.cellsOf 45 = 2 := by kernel_rfl
theorem cells47 : Tryd.prog.cellsOf 47 = 2 := by kernel_rfl
theorem cells41 : Tryd.prog.cellsOf 41 = 3 := by kernel_rfl
instance : Inhabited S45 := ⟨z45⟩
instance : Inhabited S47 := ⟨z47⟩
instance : Inhabited S41 := ⟨z41⟩
theorem cells28 : Tryd.prog.cellsOf 28 = 1 := by kernel_rfl
theorem cells39 : Tryd.prog.cellsOf 39 = 1 := by kernel_rfl
set_option maxRecDepth 100000 in
theorem open45 (n : Nat) (cs : List Value) (x : DataW H × List MemPlace) (h : DataW.trod enc Tryd.prog w base spare held n 45 cs = some x) : ∃ a, k45.K w a cs := by
  obtain ⟨xs, m, _, _, h3, h4, h5⟩ := DataW.trod_struct Tryd.underlying45 h
  rw [cells45] at h3
  match cs, h3 with
  | [v0, v1], _ =>
    obtain ⟨y0, g0⟩ := open_field h5 h4 0 _ rfl
    obtain ⟨y1, g1⟩ := open_field h5 h4 1 _ rfl
    change DataW.trod enc Tryd.prog w base spare held m 9 (List.take (Tryd.prog.cellsOf 9) [v0, v1]) = some y0 at g0
    change DataW.trod enc Tryd.prog w base spare held m 9 (List.take (Tryd.prog.cellsOf 9) [v1]) = some y1 at g1
    rw [cells9] at g0 g1
    obtain ⟨s0, e0, _, _⟩ := DataW.trod_string Tryd.underlying9 g0
    obtain ⟨s1, e1, _, _⟩ := DataW.trod_string Tryd.underlying9 g1
    obtain rfl : v0 = .string s0 := by simpa using e0
    obtain rfl : v1 = .string s1 := by simpa using e1
    exact ⟨⟨s0, s1⟩, k45_mk _ _⟩
set_option maxRecDepth 100000 in
theorem open47 (n : Nat) (cs : List Value) (x : DataW H × List MemPlace) (h : DataW.trod enc Tryd.prog w base spare held n 47 cs = some x) : ∃ a, k47.K w a cs := by
  obtain ⟨xs, m, _, _, h3, h4, h5⟩ := DataW.trod_struct Tryd.underlying47 h
  rw [cells47] at h3
  match cs, h3 with
  | [v0, v1], _ =>
    obtain ⟨y0, g0⟩ := open_field h5 h4 0 _ rfl
    obtain ⟨y1, g1⟩ := open_field h5 h4 1 _ rfl
    change DataW.trod enc Tryd.prog w base spare held m 9 (List.take (Tryd.prog.cellsOf 9) [v0, v1]) = some y0 at g0
    change DataW.trod enc Tryd.prog w base spare held m 28 (List.take (Tryd.prog.cellsOf 28) [v1]) = some y1 at g1
    rw [cells9] at g0
    rw [cells28] at g1
    obtain ⟨s0, e0, _, _⟩ := DataW.trod_string Tryd.underlying9 g0
    obtain ⟨A, c, l, e1, hl, hC⟩ := open_row (k := k45) Tryd.underlying28 (cells45.trans rfl) open45 g1
    obtain rfl : v0 = .string s0 := by simpa using e0
    obtain rfl : v1 = .slice A l.length c := by simpa using e1
    exact ⟨⟨s0, l⟩, k47_mk _ _ hl hC⟩
set_option maxRecDepth 100000 in
theorem open41 (n : Nat) (cs : List Value) (x : DataW H × List MemPlace) (h : DataW.trod enc Tryd.prog w base spare held n 41 cs = some x) : ∃ a, k41.K w a cs := by
  obtain ⟨xs, m, _, _, h3, h4, h5⟩ := DataW.trod_struct Tryd.underlying41 h
  rw [cells41] at h3
  match cs, h3 with
  | [v0, v1, v2], _ =>
    obtain ⟨y0, g0⟩ := open_field h5 h4 0 _ rfl
    obtain ⟨y1, g1⟩ := open_field h5 h4 1 _ rfl
    obtain ⟨y2, g2⟩ := open_field h5 h4 2 _ rfl
    change DataW.trod enc Tryd.prog w base spare held m 9 (List.take (Tryd.prog.cellsOf 9) [v0, v1, v2]) = some y0 at g0
    change DataW.trod enc Tryd.prog w base spare held m 28 (List.take (Tryd.prog.cellsOf 28) [v1, v2]) = some y1 at g1
    change DataW.trod enc Tryd.prog w base spare held m 39 (List.take (Tryd.prog.cellsOf 39) [v2]) = some y2 at g2
    rw [cells9] at g0
    rw [cells28] at g1
    rw [cells39] at g2
    obtain ⟨s0, e0, _, _⟩ := DataW.trod_string Tryd.underlying9 g0
    obtain ⟨A, c, l, e1, hl, hC⟩ := open_row (k := k45) Tryd.underlying28 (cells45.trans rfl) open45 g1
    obtain ⟨B, d, q, e2, hq, hD⟩ := open_row (k := k47) Tryd.underlying39 (cells47.trans rfl) open47 g2
    obtain rfl : v0 = .string s0 := by simpa using e0
    obtain rfl : v1 = .slice A l.length c := by simpa using e1
    obtain rfl : v2 = .slice B q.length d := by simpa using e2
    exact ⟨⟨s0, l, q⟩, k41_mk _ _ hl hC hq hD⟩
set_option maxRecDepth 100000 in
/-- The slice of sections that is handed in. -/
theorem open_secs {v : Value} {d : DataW H} {ps : List MemPlace} (h : DataW.Trod enc Tryd.prog w base spare held 22 v d ps) (hv : ∃ (A : Option Addr) (n c : Nat), v = .slice A n c) : ∃ (A : Option Addr) (c : Nat) (l : List S41), v = .slice A l.length c ∧ l.length ≤ c ∧ k41.C w A l.length l := by
  obtain ⟨fuel, hf⟩ := h
  obtain ⟨A0, n, c0, rfl⟩ := hv
  obtain ⟨A, c, l, e, hl, hC⟩ := open_row (k := k41) Tryd.underlying22 (cells41.trans rfl) open41 hf
  exact ⟨A, c, l, by simpa [Value.cells] using e, hl, hC⟩
end
end Go.Proofs.YtbgimkjodpjnfaaDoor.Conf
