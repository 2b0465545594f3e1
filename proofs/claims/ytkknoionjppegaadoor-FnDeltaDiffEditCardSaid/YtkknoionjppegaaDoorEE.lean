/- What the row lists, as the walks want it. -/
import Derived.Test.YtkknoionjppegaaDoorED
import Derived.Test.YtkknoionjppegaaDoorRows
import Derived.LaidLaws
import Derived.LaidMore
import Derived.Deep.Slices
import Derived.Deep.SlicePairs
import Derived.ChangeArms
import Derived.OpenShut
namespace Go.Proofs.YtkknoionjppegaaDoor.Delta
open Go.RowKit Go.Proofs.YtkknoionjppegaaDoorW.PrintWords Go.Proofs.YtkknoionjppegaaDoorW.PrintLast Go.Proofs.YtkknoionjppegaaDoorW.PrintMore

theorem laid_rest {W : World} {x : String × DataW Unit} {rest : List (String × DataW Unit)} {ps : List MemPlace} (h : DataW.LaidVars Tryd.prog W (x :: rest) ps) : ∃ q, DataW.LaidVars Tryd.prog W rest q := by
  obtain ⟨n, d⟩ := x
  obtain ⟨g, t, cs, fuel, p, q, h1, h2, h3, h4, h5, e⟩ := h
  exact ⟨q, h5⟩
def okT (i : Nat) : DataW Unit → Bool
  | .lit (.int .u32 k) => decide (0 ≤ k ∧ k < 4294967296 ∧ k / 2147483648 = ((i % 2 : Nat) : Int))
  | _ => false
def dataOf : DataW Unit → List (DataW Unit)
  | .slice xs _ => xs
  | .agg xs => xs
  | _ => []
abbrev dT : DataW Unit := Rows.laid_loop_example_pub_g01474_pub_gogit_plumbing_format_packfile_T
abbrev dL : DataW Unit := Rows.laid_loop_example_pub_g01474_pub_gogit_plumbing_format_packfile_len8tab
abbrev dO : DataW Unit := Rows.laid_loop_example_pub_g01474_pub_gogit_plumbing_format_packfile_offsets
abbrev dZ : DataW Unit := Rows.laid_loop_example_pub_g01474_pub_gogit_plumbing_format_packfile_sizes
theorem allT : (dataOf dT).length = 256 ∧ ((List.range 256).all fun i => ((dataOf dT)[i]?.map (okT i)).getD false) = true := by constructor <;> kernel_rfl
theorem range_get {D : Nat → DataW Unit} {len : Nat} {xs : List (DataW Unit)} (h : (List.range len).map D = xs) (i : Nat) (hi : i < len) : xs[i]? = some (D i) := by
  subst h
  simp [hi]
set_option maxRecDepth 100000 in
theorem laid_T {W : World} {n : String} {rest : List (String × DataW Unit)} {ps : List MemPlace} (h : DataW.LaidVars Tryd.prog W ((n, dT) :: rest) ps)
    (hG : Tryd.prog.globalNamed n = some 6) (hT : (Tryd.prog.globals[6]?).map (·.type) = some 90) : ∃ T0, Tab W T0 := by
  obtain ⟨g, t, cs, fuel, p, q, h1, h2, h3, h4, h5, e⟩ := h
  obtain rfl := Option.some.inj (hG.symm.trans h1)
  obtain rfl := Option.some.inj (hT.symm.trans h2)
  have hcell : ∀ i : Nat, W.cell? ⟨6, i, none⟩ = cs[i]? := fun i => World.var?_cell hG h3 i
  rcases Go.Deep.open_slice1 Tryd.underlying90 (show Tryd.prog.cellsOf 89 = 1 by kernel_rfl) h4 with ⟨_, e⟩ | ⟨a, len, cap, m, n', V, D, Pl, ec, hb, hl, hm, hmm, ex, hx⟩
  · cases (Prod.mk.inj e).1
  · have hd := congrArg dataOf (Prod.mk.inj ex).1
    have hxs : (List.range len).map D = dataOf dT := hd.symm
    have hlen : len = 256 := by
      have := congrArg List.length hxs
      rw [allT.1] at this
      simpa using this
    subst hlen
    have hm2 : 256 ≤ m := by rw [hmm]; split <;> omega
    refine ⟨a, cap, ?_, hl, fun i hi => ?_⟩
    · rw [hcell 0, ← Array.getElem?_toList, ec]; rfl
    · obtain ⟨x1, x2⟩ := hx i (by omega)
      obtain ⟨k, e1, e2, _⟩ := DataW.trod_int Tryd.underlying89 x2
      have hg := range_get hxs i hi
      have hall := List.all_eq_true.1 allT.2 i (List.mem_range.2 hi)
      rw [hg] at hall
      rw [(Prod.mk.inj e2).1] at hall
      have hk := of_decide_eq_true (show decide (0 ≤ k ∧ k < 4294967296 ∧ k / 2147483648 = ((i % 2 : Nat) : Int)) = true from hall)
      have hv : V i = .int .u32 k := by simpa using e1
      exact ⟨k, by rw [x1, hv], hk.1, hk.2.1, by rw [hk.2.2]; omega⟩
theorem add_next (a : Addr) (k : Nat) : a.add (k + 1) = ⟨(a.add k).block, (a.add k).off + 1, none⟩ := by
  unfold Addr.add
  by_cases hk : k = 0
  · subst hk
    simp
  · simp [hk]
    omega
def okP (s i : Nat) : DataW Unit → Bool
  | .agg [.lit (.int .u8 a), .lit (.int .u64 b)] => decide (a = ((2 ^ (s + i) : Nat) : Int) ∧ b = ((8 * i : Nat) : Int))
  | _ => false
theorem allO : (dataOf dO).length = 4 ∧ ((List.range 4).all fun i => ((dataOf dO)[i]?.map (okP 0 i)).getD false) = true := by constructor <;> kernel_rfl
theorem allZ : (dataOf dZ).length = 3 ∧ ((List.range 3).all fun i => ((dataOf dZ)[i]?.map (okP 4 i)).getD false) = true := by constructor <;> kernel_rfl
set_option maxRecDepth 100000 in
theorem laid_P {W : World} {n : String} {rest : List (String × DataW Unit)} {ps : List MemPlace} {xs ys : List (DataW Unit)} {G k s : Nat} (h : DataW.LaidVars Tryd.prog W ((n, .slice xs ys) :: rest) ps) (hk : 0 < k)
    (hall : xs.length = k ∧ ((List.range k).all fun i => (xs[i]?.map (okP s i)).getD false) = true)
    (hG : Tryd.prog.globalNamed n = some G) (hT : (Tryd.prog.globals[G]?).map (·.type) = some 84) : CTab W G k s := by
  obtain ⟨g, t, cs, fuel, p, q, h1, h2, h3, h4, h5, e⟩ := h
  obtain rfl := Option.some.inj (hG.symm.trans h1)
  obtain rfl := Option.some.inj (hT.symm.trans h2)
  have hcell : ∀ i : Nat, W.cell? ⟨G, i, none⟩ = cs[i]? := fun i => World.var?_cell hG h3 i
  rcases Go.Deep.open_slice_pairs Tryd.underlying84 Tryd.underlying86 (show Tryd.prog.cellsOf 86 = 2 by kernel_rfl) rfl rfl (show Tryd.prog.cellsOf 5 = 1 by kernel_rfl) (show Tryd.prog.cellsOf 64 = 1 by kernel_rfl) h4 with ⟨_, e⟩ | ⟨a, len, cap, m, n', V0, V1, D0, D1, P0, P1, ec, hb, hl, hm, hmm, ex, hx⟩
  · cases (Prod.mk.inj e).1
  · have hd := congrArg dataOf (Prod.mk.inj ex).1
    have hxs : (List.range len).map (fun i => DataW.agg [D0 i, D1 i]) = xs := hd.symm
    have hlen : len = k := by
      have := congrArg List.length hxs
      rw [hall.1] at this
      simpa using this
    subst hlen
    have hm2 : len ≤ m := by rw [hmm]; split <;> omega
    refine ⟨a, cap, ?_, hl, fun i hi => ?_⟩
    · rw [hcell 0, ← Array.getElem?_toList, ec]; rfl
    · obtain ⟨x1, x2, x3, x4⟩ := hx i (by omega)
      obtain ⟨k0, e1, e2, _⟩ := DataW.trod_int Tryd.underlying5 x3
      obtain ⟨k1, e3, e4, _⟩ := DataW.trod_int Tryd.underlying64 x4
      have hg : xs[i]? = some (DataW.agg [D0 i, D1 i]) := range_get hxs i hi
      have hal := List.all_eq_true.1 hall.2 i (List.mem_range.2 hi)
      rw [hg] at hal
      rw [(Prod.mk.inj e2).1, (Prod.mk.inj e4).1] at hal
      have hk := of_decide_eq_true (show decide (k0 = ((2 ^ (s + i) : Nat) : Int) ∧ k1 = ((8 * i : Nat) : Int)) = true from hal)
      have hv0 : V0 i = .int .u8 k0 := by simpa using e1
      have hv1 : V1 i = .int .u64 k1 := by simpa using e3
      refine ⟨by rw [x1, hv0, hk.1], ?_⟩
      rw [← add_next, x2, hv1, hk.2]
def okL (i : Nat) : DataW Unit → Bool
  | .lit (.int .u8 v) => decide ((0 < i → 1 ≤ v) ∧ 0 ≤ v ∧ v ≤ 8)
  | _ => false
theorem allL : (dataOf dL).length = 256 ∧ ((List.range 256).all fun i => ((dataOf dL)[i]?.map (okL i)).getD false) = true := by constructor <;> kernel_rfl
set_option maxRecDepth 100000 in
theorem laid_L {W : World} {n : String} {rest : List (String × DataW Unit)} {ps : List MemPlace} (h : DataW.LaidVars Tryd.prog W ((n, dL) :: rest) ps)
    (hG : Tryd.prog.globalNamed n = some 7) (hT : (Tryd.prog.globals[7]?).map (·.type) = some 92) : LTab W := by
  obtain ⟨g, t, cs, fuel, p, q, h1, h2, h3, h4, h5, e⟩ := h
  obtain rfl := Option.some.inj (hG.symm.trans h1)
  obtain rfl := Option.some.inj (hT.symm.trans h2)
  have hcell : ∀ i : Nat, W.cell? ⟨7, i, none⟩ = cs[i]? := fun i => World.var?_cell hG h3 i
  obtain ⟨xs, m, _, ex, hcl, hxl, hx⟩ := DataW.trod_array Tryd.underlying92 h4
  have hxs : dataOf dL = xs.map (·.1) := congrArg dataOf (Prod.mk.inj ex).1
  intro i hi
  have hxi := hx i hi
  rw [show Tryd.prog.cellsOf 5 = 1 by kernel_rfl, Nat.mul_one, List.getElem?_eq_getElem (by omega)] at hxi
  obtain ⟨v, e1, e2, _⟩ := DataW.trod_int Tryd.underlying5 hxi
  have hg : (dataOf dL)[i]? = some (xs[i]'(by omega)).1 := by rw [hxs]; simp [hxl, hi]
  have hal := List.all_eq_true.1 allL.2 i (List.mem_range.2 hi)
  rw [hg, e2] at hal
  have hk := of_decide_eq_true (show decide ((0 < i → 1 ≤ v) ∧ 0 ≤ v ∧ v ≤ 8) = true from hal)
  refine ⟨v, ?_, hk⟩
  rw [hcell i, ← Array.getElem?_toList]
  have := congrArg (fun l => l[0]?) e1
  simpa [List.getElem?_take, List.getElem?_drop] using this
set_option maxRecDepth 100000 in
theorem laid_read {W : World} (h : laidMetH Tryd.prog Rows.fnDeltaDiffReadRow.laid W) : ∃ T0, Laid W T0 := by
  rw [MakeChecks.laidMetH_plain _ _ _ (by kernel_rfl)] at h
  obtain ⟨ps, hv, _, _⟩ := h
  obtain ⟨q1, v1⟩ := laid_rest hv
  have hL := laid_L v1 (by kernel_rfl) (by kernel_rfl)
  obtain ⟨q2, v2⟩ := laid_rest v1
  obtain ⟨T0, hT⟩ := laid_T v2 (by kernel_rfl) (by kernel_rfl)
  obtain ⟨q3, v3⟩ := laid_rest v2
  obtain ⟨q4, v4⟩ := laid_rest v3
  obtain ⟨q5, v5⟩ := laid_rest v4
  have hO : CTab W 3 4 0 := laid_P v5 (by omega) allO (by kernel_rfl) (by kernel_rfl)
  obtain ⟨q6, v6⟩ := laid_rest v5
  have hZ : CTab W 4 3 4 := laid_P v6 (by omega) allZ (by kernel_rfl) (by kernel_rfl)
  exact ⟨T0, hT, hL, hO, hZ⟩
section
variable {H : Type} {enc : TypeId × Value → H} {w : World} {base : Nat} {spare : Nat → Bool} {held : Bool}
set_option maxRecDepth 100000 in
theorem open_bytes {v : Value} {d : DataW H} {ps : List MemPlace} (h : DataW.Trod enc Tryd.prog w base spare held 22 v d ps) (hv : ∃ (A : Option Addr) (n c : Nat), v = .slice A n c) : ∃ (A : Option Addr) (c : Nat) (l : List Int), v = .slice A l.length c ∧ l.length ≤ c ∧ Rd w A l.length l ∧ ∀ x ∈ l, 0 ≤ x ∧ x < 256 := by
  obtain ⟨fuel, hf⟩ := h
  obtain ⟨A0, n, c0, rfl⟩ := hv
  rcases Go.Deep.open_slice1 Tryd.underlying22 (show Tryd.prog.cellsOf 5 = 1 by kernel_rfl) hf with ⟨e, _⟩ | ⟨a, len, cap, m, n', V, D, Pl, e, hb, hl, hm, hmm, _, hx⟩
  · exact ⟨none, 0, [], by simpa [Value.cells] using e, Nat.le_refl _, Rd.nil _ _, by simp⟩
  · have hlm : len ≤ m := by rw [hmm]; split <;> omega
    obtain ⟨f, hf2⟩ := Go.Deep.choose_lt (α := Int) (n := len) (p := fun i s => w.cell? (a.add i) = some (.int .u8 s) ∧ 0 ≤ s ∧ s < 256) (fun i hi => by
      obtain ⟨h1, h2⟩ := hx i (by omega)
      obtain ⟨k, e1, _, hw⟩ := DataW.trod_int Tryd.underlying5 h2
      have hv : V i = .int .u8 k := by simpa using e1
      have hk : 0 ≤ k ∧ k < 256 := by
        have hw2 : IntKind.u8.min ≤ k ∧ k ≤ IntKind.u8.max := by simpa [Lit.wf, IntKind.bits, IntKind.signed] using hw
        rw [show IntKind.u8.min = 0 from by decide, show IntKind.u8.max = 255 from by decide] at hw2
        omega
      exact ⟨k, by rw [h1, hv], hk⟩)
    have hlen : ((List.range len).map f).length = len := by simp
    refine ⟨some a, cap, (List.range len).map f, by rw [hlen]; simpa [Value.cells] using e, by rw [hlen]; exact hl, ?_, fun x hx => ?_⟩
    · refine Rd.mk rfl (by rw [hlen]; have : maxLen ≤ 9223372036854775807 := by decide
                           omega) (fun j v hj => ?_)
      have hj1 : j < len := by
        have := (List.getElem?_eq_some_iff.1 hj).1
        simpa [nums] using this
      have hv : v = .int .u8 (f j) := by
        have : (nums .u8 ((List.range len).map f))[j]? = some (.int .u8 (f j)) := by simp [nums, hj1]
        rw [this] at hj
        exact (Option.some.inj hj).symm
      rw [hv]
      exact (hf2 j hj1).1
    · obtain ⟨j, hj, rfl⟩ := List.mem_map.1 hx
      exact (hf2 j (List.mem_range.1 hj)).2
end
end Go.Proofs.YtkknoionjppegaaDoor.Delta
