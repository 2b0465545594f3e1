/- The two errors of package io, out of what the row lists. -/
import Derived.Test.YtomdhahnfejfpaaDoorNK
import Derived.Test.YtomdhahnfejfpaaDoorRows
import Derived.LaidLaws
import Derived.LaidMore
import Derived.Deep.Slices
import Derived.ChangeArms
import Derived.OpenShut
namespace Go.Proofs.YtomdhahnfejfpaaDoor.Proto
open Go.RowKit

theorem star_name : ("*" : String) ++ "errors.errorString" = "*errors.errorString" := by decide
theorem typeName98 (u : TypeId) (h : Tryd.prog.typeName? 3 u = some "*errors.errorString") : u = 98 :=
  typeName_ptr_named (nm := "errors.errorString") (by rw [star_name]; kernel_rfl) (by kernel_rfl) (by decide) u (by rw [star_name]; exact h)
theorem cells100 : Tryd.prog.cellsOf 100 = 1 := by kernel_rfl
theorem cells9 : Tryd.prog.cellsOf 9 = 1 := by kernel_rfl
def Sent (W : World) (G : Nat) (text : List UInt8) : Prop := ∃ a s, W.cell? ⟨G, 0, none⟩ = some (.iface 98 (.pointer (some a))) ∧ W.cell? a = some (.string s) ∧ s.data.toList = text ∧ ∃ c t, W.heap[a.block]? = some (.cells c t (0, 0))
theorem laid_rest {W : World} {x : String × DataW Unit} {rest : List (String × DataW Unit)} {ps : List MemPlace} (h : DataW.LaidVars Tryd.prog W (x :: rest) ps) : ∃ q, DataW.LaidVars Tryd.prog W rest q ∧ ∀ y ∈ q, y ∈ ps := by
  obtain ⟨n, d⟩ := x
  obtain ⟨g, t, cs, fuel, p, q, h1, h2, h3, h4, h5, e⟩ := h
  exact ⟨q, h5, fun y hy => by rw [e]; simp [hy]⟩
set_option maxRecDepth 100000 in
theorem laid_sent {W : World} {n : String} {text : List UInt8} {rest : List (String × DataW Unit)} {ps : List MemPlace} {G : Nat} (h : DataW.LaidVars Tryd.prog W ((n, .iface "*errors.errorString" (.ptr (.agg [.lit (.string text)]))) :: rest) ps)
    (hG : Tryd.prog.globalNamed n = some G) (hT : (Tryd.prog.globals[G]?).map (·.type) = some 35)
    (hall : ∀ b off, MemPlace.cell b off ∈ ps → (∃ c t, W.heap[b]? = some (.cells c t (0, 0))) ∧ ∀ u v, W.cell? ⟨b, off, none⟩ = some (.iface u v) → Value.okWide Tryd.prog W .any 0 u v) : Sent W G text := by
  obtain ⟨g, t, cs, fuel, p, q, h1, h2, h3, h4, h5, e⟩ := h
  obtain rfl := Option.some.inj (hG.symm.trans h1)
  obtain rfl := Option.some.inj (hT.symm.trans h2)
  have hcell : ∀ i : Nat, W.cell? ⟨G, i, none⟩ = cs[i]? := fun i => World.var?_cell hG h3 i
  obtain ⟨a, s, e1, e2, e3, _, e5⟩ := errorString_of_trod (P := Tryd.prog) (ts := 9) (te := 100) info35 typeName98 Tryd.underlying98 Tryd.underlying100 rfl rfl Tryd.underlying9 cells100 cells9 h4 (fun u v hcs => by
    have h0 : W.cell? ⟨G, 0, none⟩ = some (.iface u v) := by rw [hcell 0, ← Array.getElem?_toList, hcs]; rfl
    refine (hall G 0 ?_).2 u v h0
    have hsz : cs.size = 1 := by rw [← Array.length_toList, hcs]; rfl
    rw [e, hsz]
    simp [MemPlace.row])
  refine ⟨a, s, ?_, e2, e3, ?_⟩
  · rw [hcell 0, ← Array.getElem?_toList, e1]; rfl
  · refine (hall a.block a.off ?_).1
    rw [e, e5]
    simp [MemPlace.row]

theorem errs_of_sent {W : World} (h1 : Sent W 0 [69, 79, 70]) (h2 : Sent W 1 [117, 110, 101, 120, 112, 101, 99, 116, 101, 100, 32, 69, 79, 70]) : ∃ a1 a2, Errs W a1 a2 := by
  obtain ⟨a1, s1, x1, y1, z1, b1⟩ := h1
  obtain ⟨a2, s2, x2, y2, z2, b2⟩ := h2
  refine ⟨a1, a2, x1, x2, b1, b2, fun e => ?_⟩
  subst e
  rw [y1] at y2
  cases y2
  rw [z1] at z2
  simp at z2
set_option maxRecDepth 100000 in
theorem errs_of_laid {W : World} (h : laidMetH Tryd.prog Rows.fnProtoNakRow.laid W) : ∃ a1 a2, Errs W a1 a2 := by
  rw [MakeChecks.laidMetH_plain _ _ _ (by kernel_rfl)] at h
  obtain ⟨ps, hv, _, hall⟩ := h
  obtain ⟨q1, v1, m1⟩ := laid_rest hv
  obtain ⟨q2, v2, m2⟩ := laid_rest v1
  obtain ⟨q3, v3, m3⟩ := laid_rest v2
  have all2 : ∀ b off, MemPlace.cell b off ∈ q2 → _ := fun b off hm => hall b off (m1 _ (m2 _ hm))
  have all3 : ∀ b off, MemPlace.cell b off ∈ q3 → _ := fun b off hm => hall b off (m1 _ (m2 _ (m3 _ hm)))
  exact errs_of_sent (laid_sent v2 (by kernel_rfl) (by kernel_rfl) all2) (laid_sent v3 (by kernel_rfl) (by kernel_rfl) all3)
open Go.Proofs.YtomdhahnfejfpaaDoorW.PrintWords
section
variable {H : Type} {enc : TypeId × Value → H} {w : World} {base : Nat} {spare : Nat → Bool} {held : Bool}
set_option maxRecDepth 100000 in
theorem open_bytes {v : Value} {d : DataW H} {ps : List MemPlace} (h : DataW.Trod enc Tryd.prog w base spare held 22 v d ps) (hv : ∃ (A : Option Addr) (n c : Nat), v = .slice A n c) : ∃ (A : Option Addr) (c : Nat) (l : List Int), v = .slice A l.length c ∧ l.length ≤ c ∧ Kd.C (Kd.int .u8) w A l.length l ∧ ∀ x ∈ l, 0 ≤ x ∧ x < 256 := by
  obtain ⟨fuel, hf⟩ := h
  obtain ⟨A0, n, c0, rfl⟩ := hv
  rcases Go.Deep.open_slice1 Tryd.underlying22 (show Tryd.prog.cellsOf 5 = 1 by kernel_rfl) hf with ⟨e, _⟩ | ⟨a, len, cap, m, n', V, D, Pl, e, hb, hl, hm, hmm, _, hx⟩
  · exact ⟨none, 0, [], by simpa [Value.cells] using e, Nat.le_refl _, ⟨rfl, by simp, fun h => by simp at h⟩, by simp⟩
  · have hlm : len ≤ m := by rw [hmm]; split <;> omega
    obtain ⟨f, hf2⟩ := Go.Deep.choose_lt (α := Int) (n := len) (p := fun i s => w.cell? (a.add i) = some (.int .u8 s) ∧ 0 ≤ s ∧ s < 256) (fun i hi => by
      obtain ⟨h1, h2⟩ := hx i (by omega)
      obtain ⟨k, e1, _, hw⟩ := DataW.trod_int Tryd.underlying5 h2
      have hv : V i = .int .u8 k := by simpa using e1
      have hk : 0 ≤ k ∧ k < 256 := by
        have hw2 : IntKind.u8.min ≤ k ∧ k ≤ IntKind.u8.max := by simpa [Lit.wf, IntKind.bits, IntKind.signed] using hw
        rw [show IntKind.u8.min = 0 from by decide, show IntKind.u8.max = 255 from by decide] at hw2
        omega
      exact ⟨k, by rw [h1, hv], hk⟩)
    have hlen : ((List.range len).map f).length = len := by simp
    refine ⟨some a, cap, (List.range len).map f, by rw [hlen]; simpa [Value.cells] using e, by rw [hlen]; exact hl, ?_, fun x hx => ?_⟩
    · refine C_of rfl (by rw [hlen]; have h9 : maxLen ≤ 9223372036854775807 := (by decide); omega) (fun j v hj => ?_)
      have hj1 : j < len := by
        have := (List.getElem?_eq_some_iff.1 hj).1
        simpa [iv] using this
      have hv : v = .int .u8 (f j) := by
        have : (iv ((List.range len).map f))[j]? = some (.int .u8 (f j)) := by simp [iv, hj1]
        rw [this] at hj
        exact (Option.some.inj hj).symm
      rw [hv]
      exact (hf2 j hj1).1
    · obtain ⟨j, hj, rfl⟩ := List.mem_map.1 hx
      exact (hf2 j (List.mem_range.1 hj)).2
end
end Go.Proofs.YtomdhahnfejfpaaDoor.Proto
