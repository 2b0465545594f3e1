/- A slice of texts that is handed in, opened. -/
import Derived.Test.YtbgimkjodpjnfaaDoorProtoV
import Derived.Deep.Slices
import Derived.ChangeArms
namespace Go.Proofs.YtbgimkjodpjnfaaDoor.Proto
open Go.RowKit Go.Proofs.YtbgimkjodpjnfaaDoorW.PrintWords Go.Proofs.YtbgimkjodpjnfaaDoorW.PrintLast Go.Proofs.YtbgimkjodpjnfaaDoorW.PrintMore

instance : Inhabited ByteArray := ⟨ByteArray.empty⟩
section
variable {H : Type} {enc : TypeId × Value → H} {w : World} {base : Nat} {spare : Nat → Bool} {held : Bool}
set_option maxRecDepth 100000 in
theorem open_strs {v : Value} {d : DataW H} {ps : List MemPlace} (h : DataW.Trod enc Tryd.prog w base spare held 26 v d ps) (hv : ∃ (A : Option Addr) (n c : Nat), v = .slice A n c) : ∃ (A : Option Addr) (c : Nat) (l : List ByteArray), v = .slice A l.length c ∧ l.length ≤ c ∧ Kd.string.C w A l.length l := by
  obtain ⟨fuel, hf⟩ := h
  obtain ⟨A0, n, c0, rfl⟩ := hv
  rcases Go.Deep.open_slice Tryd.underlying26 hf with ⟨e, _⟩ | ⟨a, len, cap, m, n', D, Pl, e, hb, hl, hm, hmm, _, hx⟩
  · exact ⟨none, 0, [], by simpa [Value.cells] using e, Nat.le_refl _, rfl, by simp, fun h => by simp at h⟩
  · have hlm : len ≤ m := by rw [hmm]; split <;> omega
    obtain ⟨f, hf2⟩ := Go.Deep.choose_lt (α := ByteArray) (n := len) (p := fun i s => w.cell? (a.add i) = some (.string s)) (fun i hi => by
      obtain ⟨cs', h1, h2⟩ := hx i (by omega)
      rw [cells9, Nat.mul_one] at h1
      obtain ⟨s, rfl, _, _⟩ := DataW.trod_string Tryd.underlying9 h2
      obtain ⟨_, _, h4⟩ := World.cells?_some h1
      have := h4 0 (by omega)
      rw [add_none] at this
      exact ⟨s, this⟩)
    have hlen : ((List.range len).map f).length = len := by simp
    refine ⟨some a, cap, (List.range len).map f, by rw [hlen]; simpa [Value.cells] using e, by rw [hlen]; exact hl, ⟨rfl, ?_, fun _ => ⟨a, rfl, fun j p hj => ?_⟩⟩⟩
    · rw [hlen]
      have : maxLen ≤ 9223372036854775807 := by decide
      omega
    · obtain ⟨hj1, hj2⟩ := List.getElem?_eq_some_iff.1 hj
      rw [hlen] at hj1
      have hp : f j = p := by simpa using hj2
      subst hp
      refine ⟨[.string (f j)], rfl, rfl, fun i u hu => ?_⟩
      have hi : i = 0 := by
        have := (List.getElem?_eq_some_iff.1 hu).1
        simpa using this
      subst hi
      have hx2 : u = .string (f j) := by simpa using hu.symm
      subst hx2
      show w.cell? (a.add (j * 1 + 0)) = _
      rw [Nat.mul_one, Nat.add_zero]
      exact hf2 j hj1
end
end Go.Proofs.YtbgimkjodpjnfaaDoor.Proto
