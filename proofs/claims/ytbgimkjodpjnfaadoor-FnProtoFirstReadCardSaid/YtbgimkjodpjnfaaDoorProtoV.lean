/- The two errors of package io, out of what the row lists. -/
import Derived.Test.YtbgimkjodpjnfaaDoorProtoU
import Derived.Test.YtbgimkjodpjnfaaDoorRows
import Derived.LaidLaws
import Derived.LaidMore
namespace Go.Proofs.YtbgimkjodpjnfaaDoor.Proto
open Go.RowKit

theorem star_name : ("*" : String) ++ "errors.errorString" = "*errors.errorString" := by decide
theorem typeName170 (u : TypeId) (h : Tryd.prog.typeName? 3 u = some "*errors.errorString") : u = 170 :=
  typeName_ptr_named (nm := "errors.errorString") (by rw [star_name]; kernel_rfl) (by kernel_rfl) (by decide) u (by rw [star_name]; exact h)
theorem cells191 : Tryd.prog.cellsOf 191 = 1 := by kernel_rfl
theorem cells9 : Tryd.prog.cellsOf 9 = 1 := by kernel_rfl
def Sent (W : World) (G : Nat) (text : List UInt8) : Prop := ∃ a s, W.cell? ⟨G, 0, none⟩ = some (.iface 170 (.pointer (some a))) ∧ W.cell? a = some (.string s) ∧ s.data.toList = text ∧ ∃ c t, W.heap[a.block]? = some (.cells c t (0, 0))
theorem laid_rest {W : World} {x : String × DataW Unit} {rest : List (String × DataW Unit)} {ps : List MemPlace} (h : DataW.LaidVars Tryd.prog W (x :: rest) ps) : ∃ q, DataW.LaidVars Tryd.prog W rest q ∧ ∀ y ∈ q, y ∈ ps := by
  obtain ⟨n, d⟩ := x
  obtain ⟨g, t, cs, fuel, p, q, h1, h2, h3, h4, h5, e⟩ := h
  exact ⟨q, h5, fun y hy => by rw [e]; simp [hy]⟩
set_option maxRecDepth 100000 in
theorem laid_sent {W : World} {n : String} {text : List UInt8} {rest : List (String × DataW Unit)} {ps : List MemPlace} {G : Nat} (h : DataW.LaidVars Tryd.prog W ((n, .iface "*errors.errorString" (.ptr (.agg [.lit (.string text)]))) :: rest) ps)
    (hG : Tryd.prog.globalNamed n = some G) (hT : (Tryd.prog.globals[G]?).map (·.type) = some 60)
    (hall : ∀ b off, MemPlace.cell b off ∈ ps → (∃ c t, W.heap[b]? = some (.cells c t (0, 0))) ∧ ∀ u v, W.cell? ⟨b, off, none⟩ = some (.iface u v) → Value.okWide Tryd.prog W .any 0 u v) : Sent W G text := by
  obtain ⟨g, t, cs, fuel, p, q, h1, h2, h3, h4, h5, e⟩ := h
  obtain rfl := Option.some.inj (hG.symm.trans h1)
  obtain rfl := Option.some.inj (hT.symm.trans h2)
  have hcell : ∀ i : Nat, W.cell? ⟨G, i, none⟩ = cs[i]? := fun i => World.var?_cell hG h3 i
  obtain ⟨a, s, e1, e2, e3, _, e5⟩ := errorString_of_trod (P := Tryd.prog) (ts := 9) (te := 191) info60 typeName170 Tryd.underlying170 Tryd.underlying191 rfl rfl Tryd.underlying9 cells191 cells9 h4 (fun u v hcs => by
    have h0 : W.cell? ⟨G, 0, none⟩ = some (.iface u v) := by rw [hcell 0, ← Array.getElem?_toList, hcs]; rfl
    refine (hall G 0 ?_).2 u v h0
    have hsz : cs.size = 1 := by rw [← Array.length_toList, hcs]; rfl
    rw [e, hsz]
    simp [MemPlace.row])
  refine ⟨a, s, ?_, e2, e3, ?_⟩
  · rw [hcell 0, ← Array.getElem?_toList, e1]; rfl
  · refine (hall a.block a.off ?_).1
    rw [e, e5]
    simp [MemPlace.row]

theorem errs_of_sent {W : World} (h1 : Sent W 1 [69, 79, 70]) (h2 : Sent W 2 [117, 110, 101, 120, 112, 101, 99, 116, 101, 100, 32, 69, 79, 70]) : ∃ a1 a2, Errs W a1 a2 := by
  obtain ⟨a1, s1, x1, y1, z1, b1⟩ := h1
  obtain ⟨a2, s2, x2, y2, z2, b2⟩ := h2
  refine ⟨a1, a2, x1, x2, b1, b2, fun e => ?_⟩
  subst e
  rw [y1] at y2
  cases y2
  rw [z1] at z2
  simp at z2
set_option maxRecDepth 100000 in
theorem errs_of_laid {W : World} (h : laidMetH Tryd.prog Rows.fnProtoFirstReadRow.laid W) : ∃ a1 a2, Errs W a1 a2 := by
  rw [MakeChecks.laidMetH_plain _ _ _ (by kernel_rfl)] at h
  obtain ⟨ps, hv, _, hall⟩ := h
  obtain ⟨q1, v1, m1⟩ := laid_rest hv
  obtain ⟨q2, v2, m2⟩ := laid_rest v1
  obtain ⟨q3, v3, m3⟩ := laid_rest v2
  have all2 : ∀ b off, MemPlace.cell b off ∈ q2 → _ := fun b off hm => hall b off (m1 _ (m2 _ hm))
  have all3 : ∀ b off, MemPlace.cell b off ∈ q3 → _ := fun b off hm => hall b off (m1 _ (m2 _ (m3 _ hm)))
  exact errs_of_sent (laid_sent v2 (by kernel_rfl) (by kernel_rfl) all2) (laid_sent v3 (by kernel_rfl) (by kernel_rfl) all3)
end Go.Proofs.YtbgimkjodpjnfaaDoor.Proto
