/- The tests of sizes, of small letters and digits, of a file name (began as a printed text; the walk of spec.Small mended). -/
import Derived.Test.YtllikhbafaohgaaGreatDoorPFnIdxSumx0
namespace Go.Proofs.YtllikhbafaohgaaGreatDoor.PFnIdxSum
open Go.RowKit Go.Proofs.YtllikhbafaohgaaGreatDoorW.PrintWords Go.Proofs.YtllikhbafaohgaaGreatDoorW.PrintLast Go.Proofs.YtllikhbafaohgaaGreatDoorW.PrintMore
attribute [local go_sem] max2_int min2_int max_two min_two max_three min_three max_four min_four   -- for this text's walks alone
set_option linter.unusedVariables false
set_option linter.unusedSimpArgs false

/-! ### laws_zzFits18: function 10 -/
def laws_zzFits18.f (a0_0 : Int) (a0_1 : Int) (a0_2 : Int) (a0_3 : Int) (a0_4 : Int) (a0_5 : Int) (a0_6 : Int) (a0_7 : Int) (a0_8 : Int) (a0_9 : Int) (a0_10 : ByteArray) (a0_11 : ByteArray) (a0_12 : Int) (a0_13 : Bool) (a0_14 : Bool) : Option (Bool) := if (a0_10.size : Int) > 2147483647 then (some false) else (if (a0_11.size : Int) > 2147483647 then (some false) else (some true))
set_option maxHeartbeats 8000000 in
set_option maxRecDepth 100000 in
theorem laws_zzFits18.calls (a0_0 : Int) (a0_1 : Int) (a0_2 : Int) (a0_3 : Int) (a0_4 : Int) (a0_5 : Int) (a0_6 : Int) (a0_7 : Int) (a0_8 : Int) (a0_9 : Int) (a0_10 : ByteArray) (a0_11 : ByteArray) (a0_12 : Int) (a0_13 : Bool) (a0_14 : Bool) (r : Bool) (w : World) (h : laws_zzFits18.f a0_0 a0_1 a0_2 a0_3 a0_4 a0_5 a0_6 a0_7 a0_8 a0_9 a0_10 a0_11 a0_12 a0_13 a0_14 = some r) :
    Calls Tryz.prog 10 #[.agg #[.int .i64 a0_0, .int .i64 a0_1, .int .i64 a0_2, .int .i64 a0_3, .int .u32 a0_4, .int .u32 a0_5, .int .u32 a0_6, .int .u32 a0_7, .int .u32 a0_8, .int .u32 a0_9, .string a0_10, .string a0_11, .int .i64 a0_12, .bool a0_13, .bool a0_14]] w fun e w' => e = .returned (.bool r) ∧ Below w.heap.size w w' := by
  have hu35 := Tryz.underlying35
  have HB := Aside0.mk (Below.refl w.heap.size w)
  have H : (if (a0_10.size : Int) > 2147483647 then (some false) else (if (a0_11.size : Int) > 2147483647 then (some false) else (some true))) = some r := h
  clear h
  by_cases c2 : (a0_10.size : Int) > 2147483647
  · rw [if_pos c2] at H
    have c2b0 : decide (2147483647 < (a0_10.size : Int)) = true := decide_eq_true c2
    have c2b1 : decide (2147483647 < a0_10.size) = true := decide_eq_true (by omega)
    clear c2
    obtain rfl := Option.some.inj H
    go_enter Tryz.func10, Tryz.ntmps10
    go_wp2_with (first | ((with_reducible refine gate_dst (N := 1) rfl ?_); refine box_event ?hg (N := 1) ?hd (cs := #[.int .i64 a0_0, .int .i64 a0_1, .int .i64 a0_2, .int .i64 a0_3, .int .u32 a0_4, .int .u32 a0_5, .int .u32 a0_6, .int .u32 a0_7, .int .u32 a0_8, .int .u32 a0_9, .string a0_10, .string a0_11, .int .i64 a0_12, .bool a0_13, .bool a0_14]) (t := 35) ?hr ?_; (case hd => rfl); (case hg => rfl); (case hr => first | (go_simp; done) | (go_simp; rfl)); intro gb101 hg w3 hbox hb; have n0_ := Aside0.mk (below_step (by repeat (first | (with_reducible first | exact HB.out | apply below_alloc | apply pw_below_drewN | apply below_drew1) | exact HB.out)) hb); have n1_ := Aside0.mk (hbox); have n2_ := Aside0.mk ((by rw [hg]; exact (below_size (by repeat (first | (with_reducible first | exact HB.out | apply below_alloc | apply pw_below_drewN | apply below_drew1) | exact HB.out))) : w.heap.size ≤ gb101)); have n3_ := Aside0.mk ((by rw [hg]; exact (below_size (by repeat (first | (with_reducible first | exact HB.out | apply below_alloc | apply pw_below_drewN | apply below_drew1) | exact HB.out))) : w.heap.size ≤ gb101)); clear HB; have HB := n0_; have BK101 := n1_; have GW101 := n2_; have GE101 := n3_; clear n0_ n1_ n2_ n3_; clear hb hbox hg; have hcz4_0 : w3.cell? ⟨gb101, 0, none⟩ = some (.int .i64 a0_0) := (blk_cell BK101.out 0).trans rfl; have hcz4_1 : w3.cell? ⟨gb101, 1, none⟩ = some (.int .i64 a0_1) := (blk_cell BK101.out 1).trans rfl; have hcz4_2 : w3.cell? ⟨gb101, 2, none⟩ = some (.int .i64 a0_2) := (blk_cell BK101.out 2).trans rfl; have hcz4_3 : w3.cell? ⟨gb101, 3, none⟩ = some (.int .i64 a0_3) := (blk_cell BK101.out 3).trans rfl; have hcz4_4 : w3.cell? ⟨gb101, 4, none⟩ = some (.int .u32 a0_4) := (blk_cell BK101.out 4).trans rfl; have hcz4_5 : w3.cell? ⟨gb101, 5, none⟩ = some (.int .u32 a0_5) := (blk_cell BK101.out 5).trans rfl; have hcz4_6 : w3.cell? ⟨gb101, 6, none⟩ = some (.int .u32 a0_6) := (blk_cell BK101.out 6).trans rfl; have hcz4_7 : w3.cell? ⟨gb101, 7, none⟩ = some (.int .u32 a0_7) := (blk_cell BK101.out 7).trans rfl; have hcz4_8 : w3.cell? ⟨gb101, 8, none⟩ = some (.int .u32 a0_8) := (blk_cell BK101.out 8).trans rfl; have hcz4_9 : w3.cell? ⟨gb101, 9, none⟩ = some (.int .u32 a0_9) := (blk_cell BK101.out 9).trans rfl; have hcz4_10 : w3.cell? ⟨gb101, 10, none⟩ = some (.string a0_10) := (blk_cell BK101.out 10).trans rfl; have hcz4_11 : w3.cell? ⟨gb101, 11, none⟩ = some (.string a0_11) := (blk_cell BK101.out 11).trans rfl; have hcz4_12 : w3.cell? ⟨gb101, 12, none⟩ = some (.int .i64 a0_12) := (blk_cell BK101.out 12).trans rfl; have hcz4_13 : w3.cell? ⟨gb101, 13, none⟩ = some (.bool a0_13) := (blk_cell BK101.out 13).trans rfl; have hcz4_14 : w3.cell? ⟨gb101, 14, none⟩ = some (.bool a0_14) := (blk_cell BK101.out 14).trans rfl; have hfz4_0 := blk_frozen BK101.out 0; have hfz4_1 := blk_frozen BK101.out 1; have hfz4_2 := blk_frozen BK101.out 2; have hfz4_3 := blk_frozen BK101.out 3; have hfz4_4 := blk_frozen BK101.out 4; have hfz4_5 := blk_frozen BK101.out 5; have hfz4_6 := blk_frozen BK101.out 6; have hfz4_7 := blk_frozen BK101.out 7; have hfz4_8 := blk_frozen BK101.out 8; have hfz4_9 := blk_frozen BK101.out 9; have hfz4_10 := blk_frozen BK101.out 10; have hfz4_11 := blk_frozen BK101.out 11; have hfz4_12 := blk_frozen BK101.out 12; have hfz4_13 := blk_frozen BK101.out 13; have hfz4_14 := blk_frozen BK101.out 14))
    go_ret
    exact ⟨by first | rfl | (simp [errW_none, errW_some] <;> rfl) | (simp [*, errW_none, errW_some] <;> rfl), by repeat (first | (with_reducible first | exact HB.out | apply below_alloc | apply pw_below_drewN | apply below_drew1 | refine below_set ?_ GE101.out) | exact HB.out)⟩
  · rw [if_neg c2] at H
    have c2b0 : decide (2147483647 < (a0_10.size : Int)) = false := decide_eq_false c2
    have c2b1 : decide (2147483647 < a0_10.size) = false := decide_eq_false (by omega)
    clear c2
    by_cases c5 : (a0_11.size : Int) > 2147483647
    · rw [if_pos c5] at H
      have c5b0 : decide (2147483647 < (a0_11.size : Int)) = true := decide_eq_true c5
      have c5b1 : decide (2147483647 < a0_11.size) = true := decide_eq_true (by omega)
      clear c5
      obtain rfl := Option.some.inj H
      go_enter Tryz.func10, Tryz.ntmps10
      go_wp2_with (first | ((with_reducible refine gate_dst (N := 1) rfl ?_); refine box_event ?hg (N := 1) ?hd (cs := #[.int .i64 a0_0, .int .i64 a0_1, .int .i64 a0_2, .int .i64 a0_3, .int .u32 a0_4, .int .u32 a0_5, .int .u32 a0_6, .int .u32 a0_7, .int .u32 a0_8, .int .u32 a0_9, .string a0_10, .string a0_11, .int .i64 a0_12, .bool a0_13, .bool a0_14]) (t := 35) ?hr ?_; (case hd => rfl); (case hg => rfl); (case hr => first | (go_simp; done) | (go_simp; rfl)); intro gb101 hg w6 hbox hb; have n0_ := Aside0.mk (below_step (by repeat (first | (with_reducible first | exact HB.out | apply below_alloc | apply pw_below_drewN | apply below_drew1) | exact HB.out)) hb); have n1_ := Aside0.mk (hbox); have n2_ := Aside0.mk ((by rw [hg]; exact (below_size (by repeat (first | (with_reducible first | exact HB.out | apply below_alloc | apply pw_below_drewN | apply below_drew1) | exact HB.out))) : w.heap.size ≤ gb101)); have n3_ := Aside0.mk ((by rw [hg]; exact (below_size (by repeat (first | (with_reducible first | exact HB.out | apply below_alloc | apply pw_below_drewN | apply below_drew1) | exact HB.out))) : w.heap.size ≤ gb101)); clear HB; have HB := n0_; have BK101 := n1_; have GW101 := n2_; have GE101 := n3_; clear n0_ n1_ n2_ n3_; clear hb hbox hg; have hcz7_0 : w6.cell? ⟨gb101, 0, none⟩ = some (.int .i64 a0_0) := (blk_cell BK101.out 0).trans rfl; have hcz7_1 : w6.cell? ⟨gb101, 1, none⟩ = some (.int .i64 a0_1) := (blk_cell BK101.out 1).trans rfl; have hcz7_2 : w6.cell? ⟨gb101, 2, none⟩ = some (.int .i64 a0_2) := (blk_cell BK101.out 2).trans rfl; have hcz7_3 : w6.cell? ⟨gb101, 3, none⟩ = some (.int .i64 a0_3) := (blk_cell BK101.out 3).trans rfl; have hcz7_4 : w6.cell? ⟨gb101, 4, none⟩ = some (.int .u32 a0_4) := (blk_cell BK101.out 4).trans rfl; have hcz7_5 : w6.cell? ⟨gb101, 5, none⟩ = some (.int .u32 a0_5) := (blk_cell BK101.out 5).trans rfl; have hcz7_6 : w6.cell? ⟨gb101, 6, none⟩ = some (.int .u32 a0_6) := (blk_cell BK101.out 6).trans rfl; have hcz7_7 : w6.cell? ⟨gb101, 7, none⟩ = some (.int .u32 a0_7) := (blk_cell BK101.out 7).trans rfl; have hcz7_8 : w6.cell? ⟨gb101, 8, none⟩ = some (.int .u32 a0_8) := (blk_cell BK101.out 8).trans rfl; have hcz7_9 : w6.cell? ⟨gb101, 9, none⟩ = some (.int .u32 a0_9) := (blk_cell BK101.out 9).trans rfl; have hcz7_10 : w6.cell? ⟨gb101, 10, none⟩ = some (.string a0_10) := (blk_cell BK101.out 10).trans rfl; have hcz7_11 : w6.cell? ⟨gb101, 11, none⟩ = some (.string a0_11) := (blk_cell BK101.out 11).trans rfl; have hcz7_12 : w6.cell? ⟨gb101, 12, none⟩ = some (.int .i64 a0_12) := (blk_cell BK101.out 12).trans rfl; have hcz7_13 : w6.cell? ⟨gb101, 13, none⟩ = some (.bool a0_13) := (blk_cell BK101.out 13).trans rfl; have hcz7_14 : w6.cell? ⟨gb101, 14, none⟩ = some (.bool a0_14) := (blk_cell BK101.out 14).trans rfl; have hfz7_0 := blk_frozen BK101.out 0; have hfz7_1 := blk_frozen BK101.out 1; have hfz7_2 := blk_frozen BK101.out 2; have hfz7_3 := blk_frozen BK101.out 3; have hfz7_4 := blk_frozen BK101.out 4; have hfz7_5 := blk_frozen BK101.out 5; have hfz7_6 := blk_frozen BK101.out 6; have hfz7_7 := blk_frozen BK101.out 7; have hfz7_8 := blk_frozen BK101.out 8; have hfz7_9 := blk_frozen BK101.out 9; have hfz7_10 := blk_frozen BK101.out 10; have hfz7_11 := blk_frozen BK101.out 11; have hfz7_12 := blk_frozen BK101.out 12; have hfz7_13 := blk_frozen BK101.out 13; have hfz7_14 := blk_frozen BK101.out 14))
      go_ret
      exact ⟨by first | rfl | (simp [errW_none, errW_some] <;> rfl) | (simp [*, errW_none, errW_some] <;> rfl), by repeat (first | (with_reducible first | exact HB.out | apply below_alloc | apply pw_below_drewN | apply below_drew1 | refine below_set ?_ GE101.out) | exact HB.out)⟩
    · rw [if_neg c5] at H
      have c5b0 : decide (2147483647 < (a0_11.size : Int)) = false := decide_eq_false c5
      have c5b1 : decide (2147483647 < a0_11.size) = false := decide_eq_false (by omega)
      clear c5
      obtain rfl := Option.some.inj H
      go_enter Tryz.func10, Tryz.ntmps10
      go_wp2_with (first | ((with_reducible refine gate_dst (N := 1) rfl ?_); refine box_event ?hg (N := 1) ?hd (cs := #[.int .i64 a0_0, .int .i64 a0_1, .int .i64 a0_2, .int .i64 a0_3, .int .u32 a0_4, .int .u32 a0_5, .int .u32 a0_6, .int .u32 a0_7, .int .u32 a0_8, .int .u32 a0_9, .string a0_10, .string a0_11, .int .i64 a0_12, .bool a0_13, .bool a0_14]) (t := 35) ?hr ?_; (case hd => rfl); (case hg => rfl); (case hr => first | (go_simp; done) | (go_simp; rfl)); intro gb101 hg w8 hbox hb; have n0_ := Aside0.mk (below_step (by repeat (first | (with_reducible first | exact HB.out | apply below_alloc | apply pw_below_drewN | apply below_drew1) | exact HB.out)) hb); have n1_ := Aside0.mk (hbox); have n2_ := Aside0.mk ((by rw [hg]; exact (below_size (by repeat (first | (with_reducible first | exact HB.out | apply below_alloc | apply pw_below_drewN | apply below_drew1) | exact HB.out))) : w.heap.size ≤ gb101)); have n3_ := Aside0.mk ((by rw [hg]; exact (below_size (by repeat (first | (with_reducible first | exact HB.out | apply below_alloc | apply pw_below_drewN | apply below_drew1) | exact HB.out))) : w.heap.size ≤ gb101)); clear HB; have HB := n0_; have BK101 := n1_; have GW101 := n2_; have GE101 := n3_; clear n0_ n1_ n2_ n3_; clear hb hbox hg; have hcz9_0 : w8.cell? ⟨gb101, 0, none⟩ = some (.int .i64 a0_0) := (blk_cell BK101.out 0).trans rfl; have hcz9_1 : w8.cell? ⟨gb101, 1, none⟩ = some (.int .i64 a0_1) := (blk_cell BK101.out 1).trans rfl; have hcz9_2 : w8.cell? ⟨gb101, 2, none⟩ = some (.int .i64 a0_2) := (blk_cell BK101.out 2).trans rfl; have hcz9_3 : w8.cell? ⟨gb101, 3, none⟩ = some (.int .i64 a0_3) := (blk_cell BK101.out 3).trans rfl; have hcz9_4 : w8.cell? ⟨gb101, 4, none⟩ = some (.int .u32 a0_4) := (blk_cell BK101.out 4).trans rfl; have hcz9_5 : w8.cell? ⟨gb101, 5, none⟩ = some (.int .u32 a0_5) := (blk_cell BK101.out 5).trans rfl; have hcz9_6 : w8.cell? ⟨gb101, 6, none⟩ = some (.int .u32 a0_6) := (blk_cell BK101.out 6).trans rfl; have hcz9_7 : w8.cell? ⟨gb101, 7, none⟩ = some (.int .u32 a0_7) := (blk_cell BK101.out 7).trans rfl; have hcz9_8 : w8.cell? ⟨gb101, 8, none⟩ = some (.int .u32 a0_8) := (blk_cell BK101.out 8).trans rfl; have hcz9_9 : w8.cell? ⟨gb101, 9, none⟩ = some (.int .u32 a0_9) := (blk_cell BK101.out 9).trans rfl; have hcz9_10 : w8.cell? ⟨gb101, 10, none⟩ = some (.string a0_10) := (blk_cell BK101.out 10).trans rfl; have hcz9_11 : w8.cell? ⟨gb101, 11, none⟩ = some (.string a0_11) := (blk_cell BK101.out 11).trans rfl; have hcz9_12 : w8.cell? ⟨gb101, 12, none⟩ = some (.int .i64 a0_12) := (blk_cell BK101.out 12).trans rfl; have hcz9_13 : w8.cell? ⟨gb101, 13, none⟩ = some (.bool a0_13) := (blk_cell BK101.out 13).trans rfl; have hcz9_14 : w8.cell? ⟨gb101, 14, none⟩ = some (.bool a0_14) := (blk_cell BK101.out 14).trans rfl; have hfz9_0 := blk_frozen BK101.out 0; have hfz9_1 := blk_frozen BK101.out 1; have hfz9_2 := blk_frozen BK101.out 2; have hfz9_3 := blk_frozen BK101.out 3; have hfz9_4 := blk_frozen BK101.out 4; have hfz9_5 := blk_frozen BK101.out 5; have hfz9_6 := blk_frozen BK101.out 6; have hfz9_7 := blk_frozen BK101.out 7; have hfz9_8 := blk_frozen BK101.out 8; have hfz9_9 := blk_frozen BK101.out 9; have hfz9_10 := blk_frozen BK101.out 10; have hfz9_11 := blk_frozen BK101.out 11; have hfz9_12 := blk_frozen BK101.out 12; have hfz9_13 := blk_frozen BK101.out 13; have hfz9_14 := blk_frozen BK101.out 14))
      go_ret
      exact ⟨by first | rfl | (simp [errW_none, errW_some] <;> rfl) | (simp [*, errW_none, errW_some] <;> rfl), by repeat (first | (with_reducible first | exact HB.out | apply below_alloc | apply pw_below_drewN | apply below_drew1 | refine below_set ?_ GE101.out) | exact HB.out)⟩

/-! ### laws_zzFits17: function 4 -/
def laws_zzFits17.l0 : Nat → List (S35) → Int → Int → Option (Bool)
  | 0, _, _, _ => none
  | k + 1, x8, x9, x10 => if x10 < x9 then (if 0 ≤ x10 then (if x10 < (x8.length : Int) then ((laws_zzFits18.f ((rd_T35 x8 x10).f0.f0) ((rd_T35 x8 x10).f0.f1) ((rd_T35 x8 x10).f1.f0) ((rd_T35 x8 x10).f1.f1) ((rd_T35 x8 x10).f2) ((rd_T35 x8 x10).f3) ((rd_T35 x8 x10).f4) ((rd_T35 x8 x10).f5) ((rd_T35 x8 x10).f6) ((rd_T35 x8 x10).f7) ((rd_T35 x8 x10).f8) ((rd_T35 x8 x10).f9) ((rd_T35 x8 x10).f10) ((rd_T35 x8 x10).f11) ((rd_T35 x8 x10).f12)).bind fun t104 => (if t104 = true then (laws_zzFits17.l0 k x8 x9 (wrap64 (x10 + 1))) else (some false))) else (none)) else (none)) else (some true)
def laws_zzFits17.f (k : Nat) (l0 : List (S35)) : Option (Bool) := if (l0.length : Int) > 2147483647 then (some false) else (laws_zzFits17.l0 k l0 (l0.length : Int) 0)
set_option maxHeartbeats 8000000 in
set_option maxRecDepth 100000 in
theorem laws_zzFits17.calls (k : Nat) (A0 : Option Addr) (c0 : Nat) (l0 : List (S35)) (r : Bool) (w : World) (hr0 : Kd.C k35 w A0 l0.length l0) (hc0 : l0.length ≤ c0) (h : laws_zzFits17.f k l0 = some r) :
    Calls Tryz.prog 4 #[.slice A0 l0.length c0] w fun e w' => e = .returned (.bool r) ∧ Below w.heap.size w w' := by
  have hu35 := Tryz.underlying35
  have HR0 := Aside0.mk hr0
  have HC0 := Aside0.mk hc0
  clear hr0 hc0
  have HB := Aside0.mk (Below.refl w.heap.size w)
  have H : (if (l0.length : Int) > 2147483647 then (some false) else (laws_zzFits17.l0 k l0 (l0.length : Int) 0)) = some r := h
  clear h
  by_cases c2 : (l0.length : Int) > 2147483647
  · rw [if_pos c2] at H
    have c2b0 : decide (2147483647 < (l0.length : Int)) = true := decide_eq_true c2
    have c2b1 : decide (2147483647 < l0.length) = true := decide_eq_true (by omega)
    clear c2
    obtain rfl := Option.some.inj H
    go_enter Tryz.func4, Tryz.ntmps4
    go_wp2
    go_ret
    exact ⟨by first | rfl | (simp [errW_none, errW_some] <;> rfl) | (simp [*, errW_none, errW_some] <;> rfl), by repeat (first | (with_reducible first | exact HB.out | apply below_alloc | apply pw_below_drewN | apply below_drew1) | exact HB.out)⟩
  · rw [if_neg c2] at H
    have c2b0 : decide (2147483647 < (l0.length : Int)) = false := decide_eq_false c2
    have c2b1 : decide (2147483647 < l0.length) = false := decide_eq_false (by omega)
    clear c2
    have H' := Aside0.mk H
    clear H
    go_enter Tryz.func4, Tryz.ntmps4
    go_wp2
    go_loopg [10] k (fun kq v10 w' => ∃ (x10_1 : Int), v10 = .int .i64 x10_1 ∧ Aside0 (laws_zzFits17.l0 kq l0 (l0.length : Int) x10_1 = some r) ∧ Aside0 (kq ≤ k) ∧ Aside0 (Below w.heap.size w w'))
    case atStart => exact ⟨(0), (by first | rfl | (simp; done) | (simp [*]; done)), H', ⟨Nat.le_refl _⟩, ⟨by repeat (first | (with_reducible first | exact HB.out | apply below_alloc | apply pw_below_drewN | apply below_drew1) | exact HB.out)⟩⟩
    case round =>
      clear H'
      try clear c2
      try clear c2b0
      try clear c2b1
      try clear p2
      obtain ⟨x10_1, rfl, HA, HK1, HB⟩ := hrel
      cases gk with
      | zero => exact absurd HA.out (by simp [laws_zzFits17.l0])
      | succ k1 =>
        have H := HA.out
        clear HA
        simp only [laws_zzFits17.l0] at H
        by_cases c3 : x10_1 < (l0.length : Int)
        · rw [if_pos c3] at H
          have c3b0 : decide (x10_1 < (l0.length : Int)) = true := decide_eq_true c3
          clear c3
          by_cases c4 : 0 ≤ x10_1
          · rw [if_pos c4] at H
            have c4b0 : decide (0 ≤ x10_1) = true := decide_eq_true c4
            clear c4
            by_cases c5 : x10_1 < (l0.length : Int)
            · rw [if_pos c5] at H
              have c5b0 : decide (x10_1 < (l0.length : Int)) = true := decide_eq_true c5
              clear c5
              replace H := Option.bind_eq_some_iff.mp H
              obtain ⟨t104, A60, H⟩ := H
              replace H : (if t104 = true then (laws_zzFits17.l0 k1 l0 (l0.length : Int) (wrap64 (x10_1 + 1))) else (some false)) = some r := H
              have A6 := Aside0.mk A60
              clear A60
              by_cases c7 : t104 = true
              · subst c7
                have H1 : (laws_zzFits17.l0 k1 l0 (l0.length : Int) (wrap64 (x10_1 + 1))) = some r := by rw [if_pos rfl] at H; exact H
                clear H
                have H := H1
                clear H1
                have H' := Aside0.mk H
                clear H
                have p102 : 0 ≤ (x10_1 : Int) := of_decide_eq_true (by first | (with_reducible assumption) | assumption)
                have q102 : x10_1 < (l0.length : Int) := of_decide_eq_true (by first | (with_reducible assumption) | assumption)
                obtain ⟨ad102, e102, hx102_0, hx102_1, hx102_2, hx102_3, hx102_4, hx102_5, hx102_6, hx102_7, hx102_8, hx102_9, hx102_10, hx102_11, hx102_12, hx102_13, hx102_14⟩ := at_T35 HR0.out x10_1 p102 q102
                cases e102
                replace hx102_0 := (HB.out.cell (World.block_lt_of_cell? w _ hx102_0)).trans hx102_0
                replace hx102_1 := (HB.out.cell (World.block_lt_of_cell? w _ hx102_1)).trans hx102_1
                replace hx102_2 := (HB.out.cell (World.block_lt_of_cell? w _ hx102_2)).trans hx102_2
                replace hx102_3 := (HB.out.cell (World.block_lt_of_cell? w _ hx102_3)).trans hx102_3
                replace hx102_4 := (HB.out.cell (World.block_lt_of_cell? w _ hx102_4)).trans hx102_4
                replace hx102_5 := (HB.out.cell (World.block_lt_of_cell? w _ hx102_5)).trans hx102_5
                replace hx102_6 := (HB.out.cell (World.block_lt_of_cell? w _ hx102_6)).trans hx102_6
                replace hx102_7 := (HB.out.cell (World.block_lt_of_cell? w _ hx102_7)).trans hx102_7
                replace hx102_8 := (HB.out.cell (World.block_lt_of_cell? w _ hx102_8)).trans hx102_8
                replace hx102_9 := (HB.out.cell (World.block_lt_of_cell? w _ hx102_9)).trans hx102_9
                replace hx102_10 := (HB.out.cell (World.block_lt_of_cell? w _ hx102_10)).trans hx102_10
                replace hx102_11 := (HB.out.cell (World.block_lt_of_cell? w _ hx102_11)).trans hx102_11
                replace hx102_12 := (HB.out.cell (World.block_lt_of_cell? w _ hx102_12)).trans hx102_12
                replace hx102_13 := (HB.out.cell (World.block_lt_of_cell? w _ hx102_13)).trans hx102_13
                replace hx102_14 := (HB.out.cell (World.block_lt_of_cell? w _ hx102_14)).trans hx102_14
                replace p102 := eq_true p102
                replace q102 := eq_true q102
                go_wp2_with (first | ((with_reducible refine gate_dst (N := 4) rfl ?_); refine box_event ?hg (N := 4) ?hd (cs := #[.int .i64 0, .int .i64 0, .int .i64 0, .int .i64 0, .int .u32 0, .int .u32 0, .int .u32 0, .int .u32 0, .int .u32 0, .int .u32 0, .string (⟨#[]⟩ : ByteArray), .string (⟨#[]⟩ : ByteArray), .int .i64 0, .bool false, .bool false]) (t := 35) ?hr ?_; (case hd => rfl); (case hg => rfl); (case hr => first | (go_simp; done) | (go_simp; rfl)); intro gb103 hg w8 hbox hb; have n0_ := Aside0.mk (below_step (by repeat (first | (with_reducible first | exact HB.out | apply below_alloc | apply pw_below_drewN | apply below_drew1) | exact HB.out)) hb); have n1_ := Aside0.mk (hbox); have n2_ := Aside0.mk ((by rw [hg]; exact (below_size (by repeat (first | (with_reducible first | exact HB.out | apply below_alloc | apply pw_below_drewN | apply below_drew1) | exact HB.out))) : w.heap.size ≤ gb103)); have n3_ := Aside0.mk ((by rw [hg]; exact (below_size (by repeat (first | (with_reducible first | exact HB.out | apply below_alloc | apply pw_below_drewN | apply below_drew1) | exact HB.out))) : w.heap.size ≤ gb103)); clear HB; have HB := n0_; have BK103 := n1_; have GW103 := n2_; have GE103 := n3_; clear n0_ n1_ n2_ n3_; clear hb hbox hg; have hcz9_0 : w8.cell? ⟨gb103, 0, none⟩ = some (.int .i64 0) := (blk_cell BK103.out 0).trans rfl; have hcz9_1 : w8.cell? ⟨gb103, 1, none⟩ = some (.int .i64 0) := (blk_cell BK103.out 1).trans rfl; have hcz9_2 : w8.cell? ⟨gb103, 2, none⟩ = some (.int .i64 0) := (blk_cell BK103.out 2).trans rfl; have hcz9_3 : w8.cell? ⟨gb103, 3, none⟩ = some (.int .i64 0) := (blk_cell BK103.out 3).trans rfl; have hcz9_4 : w8.cell? ⟨gb103, 4, none⟩ = some (.int .u32 0) := (blk_cell BK103.out 4).trans rfl; have hcz9_5 : w8.cell? ⟨gb103, 5, none⟩ = some (.int .u32 0) := (blk_cell BK103.out 5).trans rfl; have hcz9_6 : w8.cell? ⟨gb103, 6, none⟩ = some (.int .u32 0) := (blk_cell BK103.out 6).trans rfl; have hcz9_7 : w8.cell? ⟨gb103, 7, none⟩ = some (.int .u32 0) := (blk_cell BK103.out 7).trans rfl; have hcz9_8 : w8.cell? ⟨gb103, 8, none⟩ = some (.int .u32 0) := (blk_cell BK103.out 8).trans rfl; have hcz9_9 : w8.cell? ⟨gb103, 9, none⟩ = some (.int .u32 0) := (blk_cell BK103.out 9).trans rfl; have hcz9_10 : w8.cell? ⟨gb103, 10, none⟩ = some (.string (⟨#[]⟩ : ByteArray)) := (blk_cell BK103.out 10).trans rfl; have hcz9_11 : w8.cell? ⟨gb103, 11, none⟩ = some (.string (⟨#[]⟩ : ByteArray)) := (blk_cell BK103.out 11).trans rfl; have hcz9_12 : w8.cell? ⟨gb103, 12, none⟩ = some (.int .i64 0) := (blk_cell BK103.out 12).trans rfl; have hcz9_13 : w8.cell? ⟨gb103, 13, none⟩ = some (.bool false) := (blk_cell BK103.out 13).trans rfl; have hcz9_14 : w8.cell? ⟨gb103, 14, none⟩ = some (.bool false) := (blk_cell BK103.out 14).trans rfl; have hfz9_0 := blk_frozen BK103.out 0; have hfz9_1 := blk_frozen BK103.out 1; have hfz9_2 := blk_frozen BK103.out 2; have hfz9_3 := blk_frozen BK103.out 3; have hfz9_4 := blk_frozen BK103.out 4; have hfz9_5 := blk_frozen BK103.out 5; have hfz9_6 := blk_frozen BK103.out 6; have hfz9_7 := blk_frozen BK103.out 7; have hfz9_8 := blk_frozen BK103.out 8; have hfz9_9 := blk_frozen BK103.out 9; have hfz9_10 := blk_frozen BK103.out 10; have hfz9_11 := blk_frozen BK103.out 11; have hfz9_12 := blk_frozen BK103.out 12; have hfz9_13 := blk_frozen BK103.out 13; have hfz9_14 := blk_frozen BK103.out 14) | ((with_reducible refine gate_callee (f := 10) rfl ?_); refine goesL_ (some 15) rfl rfl Tryz.func10 (by kernel_rfl) rfl #[.agg #[.int .i64 ((rd_T35 l0 x10_1).f0.f0), .int .i64 ((rd_T35 l0 x10_1).f0.f1), .int .i64 ((rd_T35 l0 x10_1).f1.f0), .int .i64 ((rd_T35 l0 x10_1).f1.f1), .int .u32 ((rd_T35 l0 x10_1).f2), .int .u32 ((rd_T35 l0 x10_1).f3), .int .u32 ((rd_T35 l0 x10_1).f4), .int .u32 ((rd_T35 l0 x10_1).f5), .int .u32 ((rd_T35 l0 x10_1).f6), .int .u32 ((rd_T35 l0 x10_1).f7), .string ((rd_T35 l0 x10_1).f8), .string ((rd_T35 l0 x10_1).f9), .int .i64 ((rd_T35 l0 x10_1).f10), .bool ((rd_T35 l0 x10_1).f11), .bool ((rd_T35 l0 x10_1).f12)]] rfl (by (try simp only [List.map_toArray, List.map_cons, List.map_nil]); first | done | rfl | (simp only [List.length_drop, List.length_take]; rfl)) ?_; (with_reducible refine (laws_zzFits18.calls ((rd_T35 l0 x10_1).f0.f0) ((rd_T35 l0 x10_1).f0.f1) ((rd_T35 l0 x10_1).f1.f0) ((rd_T35 l0 x10_1).f1.f1) ((rd_T35 l0 x10_1).f2) ((rd_T35 l0 x10_1).f3) ((rd_T35 l0 x10_1).f4) ((rd_T35 l0 x10_1).f5) ((rd_T35 l0 x10_1).f6) ((rd_T35 l0 x10_1).f7) ((rd_T35 l0 x10_1).f8) ((rd_T35 l0 x10_1).f9) ((rd_T35 l0 x10_1).f10) ((rd_T35 l0 x10_1).f11) ((rd_T35 l0 x10_1).f12) true _ A6.out).mono ?_); rintro e w10 ⟨rfl, hb⟩; refine ⟨_, rfl, ?_⟩; have n0_ := Aside0.mk (blk_below (g := gb103) (o := .cells #[.int .i64 ((rd_T35 l0 x10_1).f0.f0), .int .i64 ((rd_T35 l0 x10_1).f0.f1), .int .i64 ((rd_T35 l0 x10_1).f1.f0), .int .i64 ((rd_T35 l0 x10_1).f1.f1), .int .u32 ((rd_T35 l0 x10_1).f2), .int .u32 ((rd_T35 l0 x10_1).f3), .int .u32 ((rd_T35 l0 x10_1).f4), .int .u32 ((rd_T35 l0 x10_1).f5), .int .u32 ((rd_T35 l0 x10_1).f6), .int .u32 ((rd_T35 l0 x10_1).f7), .string ((rd_T35 l0 x10_1).f8), .string ((rd_T35 l0 x10_1).f9), .int .i64 ((rd_T35 l0 x10_1).f10), .bool ((rd_T35 l0 x10_1).f11), .bool ((rd_T35 l0 x10_1).f12)] 35 (0, 0)) (by (with_reducible repeat (first | refine blk_drewN ?_ _ | refine blk_drew ?_ | refine blk_alloc ?_ _)); refine blk_put (cs := #[.int .i64 ((rd_T35 l0 x10_1).f0.f0), .int .i64 ((rd_T35 l0 x10_1).f0.f1), .int .i64 ((rd_T35 l0 x10_1).f1.f0), .int .i64 ((rd_T35 l0 x10_1).f1.f1), .int .u32 ((rd_T35 l0 x10_1).f2), .int .u32 ((rd_T35 l0 x10_1).f3), .int .u32 ((rd_T35 l0 x10_1).f4), .int .u32 ((rd_T35 l0 x10_1).f5), .int .u32 ((rd_T35 l0 x10_1).f6), .int .u32 ((rd_T35 l0 x10_1).f7), .string ((rd_T35 l0 x10_1).f8), .string ((rd_T35 l0 x10_1).f9), .int .i64 ((rd_T35 l0 x10_1).f10), .bool ((rd_T35 l0 x10_1).f11), .bool false]) ?_ 14 _ rfl; (with_reducible repeat (first | refine blk_drewN ?_ _ | refine blk_drew ?_ | refine blk_alloc ?_ _)); refine blk_put (cs := #[.int .i64 ((rd_T35 l0 x10_1).f0.f0), .int .i64 ((rd_T35 l0 x10_1).f0.f1), .int .i64 ((rd_T35 l0 x10_1).f1.f0), .int .i64 ((rd_T35 l0 x10_1).f1.f1), .int .u32 ((rd_T35 l0 x10_1).f2), .int .u32 ((rd_T35 l0 x10_1).f3), .int .u32 ((rd_T35 l0 x10_1).f4), .int .u32 ((rd_T35 l0 x10_1).f5), .int .u32 ((rd_T35 l0 x10_1).f6), .int .u32 ((rd_T35 l0 x10_1).f7), .string ((rd_T35 l0 x10_1).f8), .string ((rd_T35 l0 x10_1).f9), .int .i64 ((rd_T35 l0 x10_1).f10), .bool false, .bool false]) ?_ 13 _ rfl; (with_reducible repeat (first | refine blk_drewN ?_ _ | refine blk_drew ?_ | refine blk_alloc ?_ _)); refine blk_put (cs := #[.int .i64 ((rd_T35 l0 x10_1).f0.f0), .int .i64 ((rd_T35 l0 x10_1).f0.f1), .int .i64 ((rd_T35 l0 x10_1).f1.f0), .int .i64 ((rd_T35 l0 x10_1).f1.f1), .int .u32 ((rd_T35 l0 x10_1).f2), .int .u32 ((rd_T35 l0 x10_1).f3), .int .u32 ((rd_T35 l0 x10_1).f4), .int .u32 ((rd_T35 l0 x10_1).f5), .int .u32 ((rd_T35 l0 x10_1).f6), .int .u32 ((rd_T35 l0 x10_1).f7), .string ((rd_T35 l0 x10_1).f8), .string ((rd_T35 l0 x10_1).f9), .int .i64 0, .bool false, .bool false]) ?_ 12 _ rfl; (with_reducible repeat (first | refine blk_drewN ?_ _ | refine blk_drew ?_ | refine blk_alloc ?_ _)); refine blk_put (cs := #[.int .i64 ((rd_T35 l0 x10_1).f0.f0), .int .i64 ((rd_T35 l0 x10_1).f0.f1), .int .i64 ((rd_T35 l0 x10_1).f1.f0), .int .i64 ((rd_T35 l0 x10_1).f1.f1), .int .u32 ((rd_T35 l0 x10_1).f2), .int .u32 ((rd_T35 l0 x10_1).f3), .int .u32 ((rd_T35 l0 x10_1).f4), .int .u32 ((rd_T35 l0 x10_1).f5), .int .u32 ((rd_T35 l0 x10_1).f6), .int .u32 ((rd_T35 l0 x10_1).f7), .string ((rd_T35 l0 x10_1).f8), .string (⟨#[]⟩ : ByteArray), .int .i64 0, .bool false, .bool false]) ?_ 11 _ rfl; (with_reducible repeat (first | refine blk_drewN ?_ _ | refine blk_drew ?_ | refine blk_alloc ?_ _)); refine blk_put (cs := #[.int .i64 ((rd_T35 l0 x10_1).f0.f0), .int .i64 ((rd_T35 l0 x10_1).f0.f1), .int .i64 ((rd_T35 l0 x10_1).f1.f0), .int .i64 ((rd_T35 l0 x10_1).f1.f1), .int .u32 ((rd_T35 l0 x10_1).f2), .int .u32 ((rd_T35 l0 x10_1).f3), .int .u32 ((rd_T35 l0 x10_1).f4), .int .u32 ((rd_T35 l0 x10_1).f5), .int .u32 ((rd_T35 l0 x10_1).f6), .int .u32 ((rd_T35 l0 x10_1).f7), .string (⟨#[]⟩ : ByteArray), .string (⟨#[]⟩ : ByteArray), .int .i64 0, .bool false, .bool false]) ?_ 10 _ rfl; (with_reducible repeat (first | refine blk_drewN ?_ _ | refine blk_drew ?_ | refine blk_alloc ?_ _)); refine blk_put (cs := #[.int .i64 ((rd_T35 l0 x10_1).f0.f0), .int .i64 ((rd_T35 l0 x10_1).f0.f1), .int .i64 ((rd_T35 l0 x10_1).f1.f0), .int .i64 ((rd_T35 l0 x10_1).f1.f1), .int .u32 ((rd_T35 l0 x10_1).f2), .int .u32 ((rd_T35 l0 x10_1).f3), .int .u32 ((rd_T35 l0 x10_1).f4), .int .u32 ((rd_T35 l0 x10_1).f5), .int .u32 ((rd_T35 l0 x10_1).f6), .int .u32 0, .string (⟨#[]⟩ : ByteArray), .string (⟨#[]⟩ : ByteArray), .int .i64 0, .bool false, .bool false]) ?_ 9 _ rfl; (with_reducible repeat (first | refine blk_drewN ?_ _ | refine blk_drew ?_ | refine blk_alloc ?_ _)); refine blk_put (cs := #[.int .i64 ((rd_T35 l0 x10_1).f0.f0), .int .i64 ((rd_T35 l0 x10_1).f0.f1), .int .i64 ((rd_T35 l0 x10_1).f1.f0), .int .i64 ((rd_T35 l0 x10_1).f1.f1), .int .u32 ((rd_T35 l0 x10_1).f2), .int .u32 ((rd_T35 l0 x10_1).f3), .int .u32 ((rd_T35 l0 x10_1).f4), .int .u32 ((rd_T35 l0 x10_1).f5), .int .u32 0, .int .u32 0, .string (⟨#[]⟩ : ByteArray), .string (⟨#[]⟩ : ByteArray), .int .i64 0, .bool false, .bool false]) ?_ 8 _ rfl; (with_reducible repeat (first | refine blk_drewN ?_ _ | refine blk_drew ?_ | refine blk_alloc ?_ _)); refine blk_put (cs := #[.int .i64 ((rd_T35 l0 x10_1).f0.f0), .int .i64 ((rd_T35 l0 x10_1).f0.f1), .int .i64 ((rd_T35 l0 x10_1).f1.f0), .int .i64 ((rd_T35 l0 x10_1).f1.f1), .int .u32 ((rd_T35 l0 x10_1).f2), .int .u32 ((rd_T35 l0 x10_1).f3), .int .u32 ((rd_T35 l0 x10_1).f4), .int .u32 0, .int .u32 0, .int .u32 0, .string (⟨#[]⟩ : ByteArray), .string (⟨#[]⟩ : ByteArray), .int .i64 0, .bool false, .bool false]) ?_ 7 _ rfl; (with_reducible repeat (first | refine blk_drewN ?_ _ | refine blk_drew ?_ | refine blk_alloc ?_ _)); refine blk_put (cs := #[.int .i64 ((rd_T35 l0 x10_1).f0.f0), .int .i64 ((rd_T35 l0 x10_1).f0.f1), .int .i64 ((rd_T35 l0 x10_1).f1.f0), .int .i64 ((rd_T35 l0 x10_1).f1.f1), .int .u32 ((rd_T35 l0 x10_1).f2), .int .u32 ((rd_T35 l0 x10_1).f3), .int .u32 0, .int .u32 0, .int .u32 0, .int .u32 0, .string (⟨#[]⟩ : ByteArray), .string (⟨#[]⟩ : ByteArray), .int .i64 0, .bool false, .bool false]) ?_ 6 _ rfl; (with_reducible repeat (first | refine blk_drewN ?_ _ | refine blk_drew ?_ | refine blk_alloc ?_ _)); refine blk_put (cs := #[.int .i64 ((rd_T35 l0 x10_1).f0.f0), .int .i64 ((rd_T35 l0 x10_1).f0.f1), .int .i64 ((rd_T35 l0 x10_1).f1.f0), .int .i64 ((rd_T35 l0 x10_1).f1.f1), .int .u32 ((rd_T35 l0 x10_1).f2), .int .u32 0, .int .u32 0, .int .u32 0, .int .u32 0, .int .u32 0, .string (⟨#[]⟩ : ByteArray), .string (⟨#[]⟩ : ByteArray), .int .i64 0, .bool false, .bool false]) ?_ 5 _ rfl; (with_reducible repeat (first | refine blk_drewN ?_ _ | refine blk_drew ?_ | refine blk_alloc ?_ _)); refine blk_put (cs := #[.int .i64 ((rd_T35 l0 x10_1).f0.f0), .int .i64 ((rd_T35 l0 x10_1).f0.f1), .int .i64 ((rd_T35 l0 x10_1).f1.f0), .int .i64 ((rd_T35 l0 x10_1).f1.f1), .int .u32 0, .int .u32 0, .int .u32 0, .int .u32 0, .int .u32 0, .int .u32 0, .string (⟨#[]⟩ : ByteArray), .string (⟨#[]⟩ : ByteArray), .int .i64 0, .bool false, .bool false]) ?_ 4 _ rfl; (with_reducible repeat (first | refine blk_drewN ?_ _ | refine blk_drew ?_ | refine blk_alloc ?_ _)); refine blk_put (cs := #[.int .i64 ((rd_T35 l0 x10_1).f0.f0), .int .i64 ((rd_T35 l0 x10_1).f0.f1), .int .i64 ((rd_T35 l0 x10_1).f1.f0), .int .i64 0, .int .u32 0, .int .u32 0, .int .u32 0, .int .u32 0, .int .u32 0, .int .u32 0, .string (⟨#[]⟩ : ByteArray), .string (⟨#[]⟩ : ByteArray), .int .i64 0, .bool false, .bool false]) ?_ 3 _ rfl; (with_reducible repeat (first | refine blk_drewN ?_ _ | refine blk_drew ?_ | refine blk_alloc ?_ _)); refine blk_put (cs := #[.int .i64 ((rd_T35 l0 x10_1).f0.f0), .int .i64 ((rd_T35 l0 x10_1).f0.f1), .int .i64 0, .int .i64 0, .int .u32 0, .int .u32 0, .int .u32 0, .int .u32 0, .int .u32 0, .int .u32 0, .string (⟨#[]⟩ : ByteArray), .string (⟨#[]⟩ : ByteArray), .int .i64 0, .bool false, .bool false]) ?_ 2 _ rfl; (with_reducible repeat (first | refine blk_drewN ?_ _ | refine blk_drew ?_ | refine blk_alloc ?_ _)); refine blk_put (cs := #[.int .i64 ((rd_T35 l0 x10_1).f0.f0), .int .i64 0, .int .i64 0, .int .i64 0, .int .u32 0, .int .u32 0, .int .u32 0, .int .u32 0, .int .u32 0, .int .u32 0, .string (⟨#[]⟩ : ByteArray), .string (⟨#[]⟩ : ByteArray), .int .i64 0, .bool false, .bool false]) ?_ 1 _ rfl; (with_reducible repeat (first | refine blk_drewN ?_ _ | refine blk_drew ?_ | refine blk_alloc ?_ _)); refine blk_put (cs := #[.int .i64 0, .int .i64 0, .int .i64 0, .int .i64 0, .int .u32 0, .int .u32 0, .int .u32 0, .int .u32 0, .int .u32 0, .int .u32 0, .string (⟨#[]⟩ : ByteArray), .string (⟨#[]⟩ : ByteArray), .int .i64 0, .bool false, .bool false]) ?_ 0 _ rfl; (with_reducible repeat (first | refine blk_drewN ?_ _ | refine blk_drew ?_ | refine blk_alloc ?_ _)); exact BK103.out) hb); have n1_ := Aside0.mk (below_step (by repeat (first | (with_reducible first | exact HB.out | apply below_alloc | apply pw_below_drewN | apply below_drew1 | refine below_set ?_ GE103.out) | exact HB.out)) hb); clear BK103; clear HB; have BK103 := n0_; have HB := n1_; clear n0_ n1_; (try clear hb); (try clear hb2); (try clear hk); (try clear hi)))
                go_roundg k1
                case measure => have := HK1.out; omega
                case rel => exact ⟨(wrap64 (x10_1 + 1)), (by first | rfl | (simp; done) | (simp [*]; done)), H', ⟨by have := HK1.out; omega⟩, ⟨by repeat (first | (with_reducible first | exact HB.out | apply below_alloc | apply pw_below_drewN | apply below_drew1 | refine below_set ?_ GE103.out) | exact HB.out)⟩⟩
              · replace c7 := Bool.eq_false_iff.mpr c7
                subst c7
                have H1 : (some false) = some r := by rw [if_neg (show ¬ (false = true) by decide)] at H; exact H
                clear H
                have H := H1
                clear H1
                obtain rfl := Option.some.inj H
                have p102 : 0 ≤ (x10_1 : Int) := of_decide_eq_true (by first | (with_reducible assumption) | assumption)
                have q102 : x10_1 < (l0.length : Int) := of_decide_eq_true (by first | (with_reducible assumption) | assumption)
                obtain ⟨ad102, e102, hx102_0, hx102_1, hx102_2, hx102_3, hx102_4, hx102_5, hx102_6, hx102_7, hx102_8, hx102_9, hx102_10, hx102_11, hx102_12, hx102_13, hx102_14⟩ := at_T35 HR0.out x10_1 p102 q102
                cases e102
                replace hx102_0 := (HB.out.cell (World.block_lt_of_cell? w _ hx102_0)).trans hx102_0
                replace hx102_1 := (HB.out.cell (World.block_lt_of_cell? w _ hx102_1)).trans hx102_1
                replace hx102_2 := (HB.out.cell (World.block_lt_of_cell? w _ hx102_2)).trans hx102_2
                replace hx102_3 := (HB.out.cell (World.block_lt_of_cell? w _ hx102_3)).trans hx102_3
                replace hx102_4 := (HB.out.cell (World.block_lt_of_cell? w _ hx102_4)).trans hx102_4
                replace hx102_5 := (HB.out.cell (World.block_lt_of_cell? w _ hx102_5)).trans hx102_5
                replace hx102_6 := (HB.out.cell (World.block_lt_of_cell? w _ hx102_6)).trans hx102_6
                replace hx102_7 := (HB.out.cell (World.block_lt_of_cell? w _ hx102_7)).trans hx102_7
                replace hx102_8 := (HB.out.cell (World.block_lt_of_cell? w _ hx102_8)).trans hx102_8
                replace hx102_9 := (HB.out.cell (World.block_lt_of_cell? w _ hx102_9)).trans hx102_9
                replace hx102_10 := (HB.out.cell (World.block_lt_of_cell? w _ hx102_10)).trans hx102_10
                replace hx102_11 := (HB.out.cell (World.block_lt_of_cell? w _ hx102_11)).trans hx102_11
                replace hx102_12 := (HB.out.cell (World.block_lt_of_cell? w _ hx102_12)).trans hx102_12
                replace hx102_13 := (HB.out.cell (World.block_lt_of_cell? w _ hx102_13)).trans hx102_13
                replace hx102_14 := (HB.out.cell (World.block_lt_of_cell? w _ hx102_14)).trans hx102_14
                replace p102 := eq_true p102
                replace q102 := eq_true q102
                go_wp2_with (first | ((with_reducible refine gate_dst (N := 4) rfl ?_); refine box_event ?hg (N := 4) ?hd (cs := #[.int .i64 0, .int .i64 0, .int .i64 0, .int .i64 0, .int .u32 0, .int .u32 0, .int .u32 0, .int .u32 0, .int .u32 0, .int .u32 0, .string (⟨#[]⟩ : ByteArray), .string (⟨#[]⟩ : ByteArray), .int .i64 0, .bool false, .bool false]) (t := 35) ?hr ?_; (case hd => rfl); (case hg => rfl); (case hr => first | (go_simp; done) | (go_simp; rfl)); intro gb103 hg w11 hbox hb; have n0_ := Aside0.mk (below_step (by repeat (first | (with_reducible first | exact HB.out | apply below_alloc | apply pw_below_drewN | apply below_drew1) | exact HB.out)) hb); have n1_ := Aside0.mk (hbox); have n2_ := Aside0.mk ((by rw [hg]; exact (below_size (by repeat (first | (with_reducible first | exact HB.out | apply below_alloc | apply pw_below_drewN | apply below_drew1) | exact HB.out))) : w.heap.size ≤ gb103)); have n3_ := Aside0.mk ((by rw [hg]; exact (below_size (by repeat (first | (with_reducible first | exact HB.out | apply below_alloc | apply pw_below_drewN | apply below_drew1) | exact HB.out))) : w.heap.size ≤ gb103)); clear HB; have HB := n0_; have BK103 := n1_; have GW103 := n2_; have GE103 := n3_; clear n0_ n1_ n2_ n3_; clear hb hbox hg; have hcz12_0 : w11.cell? ⟨gb103, 0, none⟩ = some (.int .i64 0) := (blk_cell BK103.out 0).trans rfl; have hcz12_1 : w11.cell? ⟨gb103, 1, none⟩ = some (.int .i64 0) := (blk_cell BK103.out 1).trans rfl; have hcz12_2 : w11.cell? ⟨gb103, 2, none⟩ = some (.int .i64 0) := (blk_cell BK103.out 2).trans rfl; have hcz12_3 : w11.cell? ⟨gb103, 3, none⟩ = some (.int .i64 0) := (blk_cell BK103.out 3).trans rfl; have hcz12_4 : w11.cell? ⟨gb103, 4, none⟩ = some (.int .u32 0) := (blk_cell BK103.out 4).trans rfl; have hcz12_5 : w11.cell? ⟨gb103, 5, none⟩ = some (.int .u32 0) := (blk_cell BK103.out 5).trans rfl; have hcz12_6 : w11.cell? ⟨gb103, 6, none⟩ = some (.int .u32 0) := (blk_cell BK103.out 6).trans rfl; have hcz12_7 : w11.cell? ⟨gb103, 7, none⟩ = some (.int .u32 0) := (blk_cell BK103.out 7).trans rfl; have hcz12_8 : w11.cell? ⟨gb103, 8, none⟩ = some (.int .u32 0) := (blk_cell BK103.out 8).trans rfl; have hcz12_9 : w11.cell? ⟨gb103, 9, none⟩ = some (.int .u32 0) := (blk_cell BK103.out 9).trans rfl; have hcz12_10 : w11.cell? ⟨gb103, 10, none⟩ = some (.string (⟨#[]⟩ : ByteArray)) := (blk_cell BK103.out 10).trans rfl; have hcz12_11 : w11.cell? ⟨gb103, 11, none⟩ = some (.string (⟨#[]⟩ : ByteArray)) := (blk_cell BK103.out 11).trans rfl; have hcz12_12 : w11.cell? ⟨gb103, 12, none⟩ = some (.int .i64 0) := (blk_cell BK103.out 12).trans rfl; have hcz12_13 : w11.cell? ⟨gb103, 13, none⟩ = some (.bool false) := (blk_cell BK103.out 13).trans rfl; have hcz12_14 : w11.cell? ⟨gb103, 14, none⟩ = some (.bool false) := (blk_cell BK103.out 14).trans rfl; have hfz12_0 := blk_frozen BK103.out 0; have hfz12_1 := blk_frozen BK103.out 1; have hfz12_2 := blk_frozen BK103.out 2; have hfz12_3 := blk_frozen BK103.out 3; have hfz12_4 := blk_frozen BK103.out 4; have hfz12_5 := blk_frozen BK103.out 5; have hfz12_6 := blk_frozen BK103.out 6; have hfz12_7 := blk_frozen BK103.out 7; have hfz12_8 := blk_frozen BK103.out 8; have hfz12_9 := blk_frozen BK103.out 9; have hfz12_10 := blk_frozen BK103.out 10; have hfz12_11 := blk_frozen BK103.out 11; have hfz12_12 := blk_frozen BK103.out 12; have hfz12_13 := blk_frozen BK103.out 13; have hfz12_14 := blk_frozen BK103.out 14) | ((with_reducible refine gate_callee (f := 10) rfl ?_); refine goesL_ (some 15) rfl rfl Tryz.func10 (by kernel_rfl) rfl #[.agg #[.int .i64 ((rd_T35 l0 x10_1).f0.f0), .int .i64 ((rd_T35 l0 x10_1).f0.f1), .int .i64 ((rd_T35 l0 x10_1).f1.f0), .int .i64 ((rd_T35 l0 x10_1).f1.f1), .int .u32 ((rd_T35 l0 x10_1).f2), .int .u32 ((rd_T35 l0 x10_1).f3), .int .u32 ((rd_T35 l0 x10_1).f4), .int .u32 ((rd_T35 l0 x10_1).f5), .int .u32 ((rd_T35 l0 x10_1).f6), .int .u32 ((rd_T35 l0 x10_1).f7), .string ((rd_T35 l0 x10_1).f8), .string ((rd_T35 l0 x10_1).f9), .int .i64 ((rd_T35 l0 x10_1).f10), .bool ((rd_T35 l0 x10_1).f11), .bool ((rd_T35 l0 x10_1).f12)]] rfl (by (try simp only [List.map_toArray, List.map_cons, List.map_nil]); first | done | rfl | (simp only [List.length_drop, List.length_take]; rfl)) ?_; (with_reducible refine (laws_zzFits18.calls ((rd_T35 l0 x10_1).f0.f0) ((rd_T35 l0 x10_1).f0.f1) ((rd_T35 l0 x10_1).f1.f0) ((rd_T35 l0 x10_1).f1.f1) ((rd_T35 l0 x10_1).f2) ((rd_T35 l0 x10_1).f3) ((rd_T35 l0 x10_1).f4) ((rd_T35 l0 x10_1).f5) ((rd_T35 l0 x10_1).f6) ((rd_T35 l0 x10_1).f7) ((rd_T35 l0 x10_1).f8) ((rd_T35 l0 x10_1).f9) ((rd_T35 l0 x10_1).f10) ((rd_T35 l0 x10_1).f11) ((rd_T35 l0 x10_1).f12) false _ A6.out).mono ?_); rintro e w13 ⟨rfl, hb⟩; refine ⟨_, rfl, ?_⟩; have n0_ := Aside0.mk (blk_below (g := gb103) (o := .cells #[.int .i64 ((rd_T35 l0 x10_1).f0.f0), .int .i64 ((rd_T35 l0 x10_1).f0.f1), .int .i64 ((rd_T35 l0 x10_1).f1.f0), .int .i64 ((rd_T35 l0 x10_1).f1.f1), .int .u32 ((rd_T35 l0 x10_1).f2), .int .u32 ((rd_T35 l0 x10_1).f3), .int .u32 ((rd_T35 l0 x10_1).f4), .int .u32 ((rd_T35 l0 x10_1).f5), .int .u32 ((rd_T35 l0 x10_1).f6), .int .u32 ((rd_T35 l0 x10_1).f7), .string ((rd_T35 l0 x10_1).f8), .string ((rd_T35 l0 x10_1).f9), .int .i64 ((rd_T35 l0 x10_1).f10), .bool ((rd_T35 l0 x10_1).f11), .bool ((rd_T35 l0 x10_1).f12)] 35 (0, 0)) (by (with_reducible repeat (first | refine blk_drewN ?_ _ | refine blk_drew ?_ | refine blk_alloc ?_ _)); refine blk_put (cs := #[.int .i64 ((rd_T35 l0 x10_1).f0.f0), .int .i64 ((rd_T35 l0 x10_1).f0.f1), .int .i64 ((rd_T35 l0 x10_1).f1.f0), .int .i64 ((rd_T35 l0 x10_1).f1.f1), .int .u32 ((rd_T35 l0 x10_1).f2), .int .u32 ((rd_T35 l0 x10_1).f3), .int .u32 ((rd_T35 l0 x10_1).f4), .int .u32 ((rd_T35 l0 x10_1).f5), .int .u32 ((rd_T35 l0 x10_1).f6), .int .u32 ((rd_T35 l0 x10_1).f7), .string ((rd_T35 l0 x10_1).f8), .string ((rd_T35 l0 x10_1).f9), .int .i64 ((rd_T35 l0 x10_1).f10), .bool ((rd_T35 l0 x10_1).f11), .bool false]) ?_ 14 _ rfl; (with_reducible repeat (first | refine blk_drewN ?_ _ | refine blk_drew ?_ | refine blk_alloc ?_ _)); refine blk_put (cs := #[.int .i64 ((rd_T35 l0 x10_1).f0.f0), .int .i64 ((rd_T35 l0 x10_1).f0.f1), .int .i64 ((rd_T35 l0 x10_1).f1.f0), .int .i64 ((rd_T35 l0 x10_1).f1.f1), .int .u32 ((rd_T35 l0 x10_1).f2), .int .u32 ((rd_T35 l0 x10_1).f3), .int .u32 ((rd_T35 l0 x10_1).f4), .int .u32 ((rd_T35 l0 x10_1).f5), .int .u32 ((rd_T35 l0 x10_1).f6), .int .u32 ((rd_T35 l0 x10_1).f7), .string ((rd_T35 l0 x10_1).f8), .string ((rd_T35 l0 x10_1).f9), .int .i64 ((rd_T35 l0 x10_1).f10), .bool false, .bool false]) ?_ 13 _ rfl; (with_reducible repeat (first | refine blk_drewN ?_ _ | refine blk_drew ?_ | refine blk_alloc ?_ _)); refine blk_put (cs := #[.int .i64 ((rd_T35 l0 x10_1).f0.f0), .int .i64 ((rd_T35 l0 x10_1).f0.f1), .int .i64 ((rd_T35 l0 x10_1).f1.f0), .int .i64 ((rd_T35 l0 x10_1).f1.f1), .int .u32 ((rd_T35 l0 x10_1).f2), .int .u32 ((rd_T35 l0 x10_1).f3), .int .u32 ((rd_T35 l0 x10_1).f4), .int .u32 ((rd_T35 l0 x10_1).f5), .int .u32 ((rd_T35 l0 x10_1).f6), .int .u32 ((rd_T35 l0 x10_1).f7), .string ((rd_T35 l0 x10_1).f8), .string ((rd_T35 l0 x10_1).f9), .int .i64 0, .bool false, .bool false]) ?_ 12 _ rfl; (with_reducible repeat (first | refine blk_drewN ?_ _ | refine blk_drew ?_ | refine blk_alloc ?_ _)); refine blk_put (cs := #[.int .i64 ((rd_T35 l0 x10_1).f0.f0), .int .i64 ((rd_T35 l0 x10_1).f0.f1), .int .i64 ((rd_T35 l0 x10_1).f1.f0), .int .i64 ((rd_T35 l0 x10_1).f1.f1), .int .u32 ((rd_T35 l0 x10_1).f2), .int .u32 ((rd_T35 l0 x10_1).f3), .int .u32 ((rd_T35 l0 x10_1).f4), .int .u32 ((rd_T35 l0 x10_1).f5), .int .u32 ((rd_T35 l0 x10_1).f6), .int .u32 ((rd_T35 l0 x10_1).f7), .string ((rd_T35 l0 x10_1).f8), .string (⟨#[]⟩ : ByteArray), .int .i64 0, .bool false, .bool false]) ?_ 11 _ rfl; (with_reducible repeat (first | refine blk_drewN ?_ _ | refine blk_drew ?_ | refine blk_alloc ?_ _)); refine blk_put (cs := #[.int .i64 ((rd_T35 l0 x10_1).f0.f0), .int .i64 ((rd_T35 l0 x10_1).f0.f1), .int .i64 ((rd_T35 l0 x10_1).f1.f0), .int .i64 ((rd_T35 l0 x10_1).f1.f1), .int .u32 ((rd_T35 l0 x10_1).f2), .int .u32 ((rd_T35 l0 x10_1).f3), .int .u32 ((rd_T35 l0 x10_1).f4), .int .u32 ((rd_T35 l0 x10_1).f5), .int .u32 ((rd_T35 l0 x10_1).f6), .int .u32 ((rd_T35 l0 x10_1).f7), .string (⟨#[]⟩ : ByteArray), .string (⟨#[]⟩ : ByteArray), .int .i64 0, .bool false, .bool false]) ?_ 10 _ rfl; (with_reducible repeat (first | refine blk_drewN ?_ _ | refine blk_drew ?_ | refine blk_alloc ?_ _)); refine blk_put (cs := #[.int .i64 ((rd_T35 l0 x10_1).f0.f0), .int .i64 ((rd_T35 l0 x10_1).f0.f1), .int .i64 ((rd_T35 l0 x10_1).f1.f0), .int .i64 ((rd_T35 l0 x10_1).f1.f1), .int .u32 ((rd_T35 l0 x10_1).f2), .int .u32 ((rd_T35 l0 x10_1).f3), .int .u32 ((rd_T35 l0 x10_1).f4), .int .u32 ((rd_T35 l0 x10_1).f5), .int .u32 ((rd_T35 l0 x10_1).f6), .int .u32 0, .string (⟨#[]⟩ : ByteArray), .string (⟨#[]⟩ : ByteArray), .int .i64 0, .bool false, .bool false]) ?_ 9 _ rfl; (with_reducible repeat (first | refine blk_drewN ?_ _ | refine blk_drew ?_ | refine blk_alloc ?_ _)); refine blk_put (cs := #[.int .i64 ((rd_T35 l0 x10_1).f0.f0), .int .i64 ((rd_T35 l0 x10_1).f0.f1), .int .i64 ((rd_T35 l0 x10_1).f1.f0), .int .i64 ((rd_T35 l0 x10_1).f1.f1), .int .u32 ((rd_T35 l0 x10_1).f2), .int .u32 ((rd_T35 l0 x10_1).f3), .int .u32 ((rd_T35 l0 x10_1).f4), .int .u32 ((rd_T35 l0 x10_1).f5), .int .u32 0, .int .u32 0, .string (⟨#[]⟩ : ByteArray), .string (⟨#[]⟩ : ByteArray), .int .i64 0, .bool false, .bool false]) ?_ 8 _ rfl; (with_reducible repeat (first | refine blk_drewN ?_ _ | refine blk_drew ?_ | refine blk_alloc ?_ _)); refine blk_put (cs := #[.int .i64 ((rd_T35 l0 x10_1).f0.f0), .int .i64 ((rd_T35 l0 x10_1).f0.f1), .int .i64 ((rd_T35 l0 x10_1).f1.f0), .int .i64 ((rd_T35 l0 x10_1).f1.f1), .int .u32 ((rd_T35 l0 x10_1).f2), .int .u32 ((rd_T35 l0 x10_1).f3), .int .u32 ((rd_T35 l0 x10_1).f4), .int .u32 0, .int .u32 0, .int .u32 0, .string (⟨#[]⟩ : ByteArray), .string (⟨#[]⟩ : ByteArray), .int .i64 0, .bool false, .bool false]) ?_ 7 _ rfl; (with_reducible repeat (first | refine blk_drewN ?_ _ | refine blk_drew ?_ | refine blk_alloc ?_ _)); refine blk_put (cs := #[.int .i64 ((rd_T35 l0 x10_1).f0.f0), .int .i64 ((rd_T35 l0 x10_1).f0.f1), .int .i64 ((rd_T35 l0 x10_1).f1.f0), .int .i64 ((rd_T35 l0 x10_1).f1.f1), .int .u32 ((rd_T35 l0 x10_1).f2), .int .u32 ((rd_T35 l0 x10_1).f3), .int .u32 0, .int .u32 0, .int .u32 0, .int .u32 0, .string (⟨#[]⟩ : ByteArray), .string (⟨#[]⟩ : ByteArray), .int .i64 0, .bool false, .bool false]) ?_ 6 _ rfl; (with_reducible repeat (first | refine blk_drewN ?_ _ | refine blk_drew ?_ | refine blk_alloc ?_ _)); refine blk_put (cs := #[.int .i64 ((rd_T35 l0 x10_1).f0.f0), .int .i64 ((rd_T35 l0 x10_1).f0.f1), .int .i64 ((rd_T35 l0 x10_1).f1.f0), .int .i64 ((rd_T35 l0 x10_1).f1.f1), .int .u32 ((rd_T35 l0 x10_1).f2), .int .u32 0, .int .u32 0, .int .u32 0, .int .u32 0, .int .u32 0, .string (⟨#[]⟩ : ByteArray), .string (⟨#[]⟩ : ByteArray), .int .i64 0, .bool false, .bool false]) ?_ 5 _ rfl; (with_reducible repeat (first | refine blk_drewN ?_ _ | refine blk_drew ?_ | refine blk_alloc ?_ _)); refine blk_put (cs := #[.int .i64 ((rd_T35 l0 x10_1).f0.f0), .int .i64 ((rd_T35 l0 x10_1).f0.f1), .int .i64 ((rd_T35 l0 x10_1).f1.f0), .int .i64 ((rd_T35 l0 x10_1).f1.f1), .int .u32 0, .int .u32 0, .int .u32 0, .int .u32 0, .int .u32 0, .int .u32 0, .string (⟨#[]⟩ : ByteArray), .string (⟨#[]⟩ : ByteArray), .int .i64 0, .bool false, .bool false]) ?_ 4 _ rfl; (with_reducible repeat (first | refine blk_drewN ?_ _ | refine blk_drew ?_ | refine blk_alloc ?_ _)); refine blk_put (cs := #[.int .i64 ((rd_T35 l0 x10_1).f0.f0), .int .i64 ((rd_T35 l0 x10_1).f0.f1), .int .i64 ((rd_T35 l0 x10_1).f1.f0), .int .i64 0, .int .u32 0, .int .u32 0, .int .u32 0, .int .u32 0, .int .u32 0, .int .u32 0, .string (⟨#[]⟩ : ByteArray), .string (⟨#[]⟩ : ByteArray), .int .i64 0, .bool false, .bool false]) ?_ 3 _ rfl; (with_reducible repeat (first | refine blk_drewN ?_ _ | refine blk_drew ?_ | refine blk_alloc ?_ _)); refine blk_put (cs := #[.int .i64 ((rd_T35 l0 x10_1).f0.f0), .int .i64 ((rd_T35 l0 x10_1).f0.f1), .int .i64 0, .int .i64 0, .int .u32 0, .int .u32 0, .int .u32 0, .int .u32 0, .int .u32 0, .int .u32 0, .string (⟨#[]⟩ : ByteArray), .string (⟨#[]⟩ : ByteArray), .int .i64 0, .bool false, .bool false]) ?_ 2 _ rfl; (with_reducible repeat (first | refine blk_drewN ?_ _ | refine blk_drew ?_ | refine blk_alloc ?_ _)); refine blk_put (cs := #[.int .i64 ((rd_T35 l0 x10_1).f0.f0), .int .i64 0, .int .i64 0, .int .i64 0, .int .u32 0, .int .u32 0, .int .u32 0, .int .u32 0, .int .u32 0, .int .u32 0, .string (⟨#[]⟩ : ByteArray), .string (⟨#[]⟩ : ByteArray), .int .i64 0, .bool false, .bool false]) ?_ 1 _ rfl; (with_reducible repeat (first | refine blk_drewN ?_ _ | refine blk_drew ?_ | refine blk_alloc ?_ _)); refine blk_put (cs := #[.int .i64 0, .int .i64 0, .int .i64 0, .int .i64 0, .int .u32 0, .int .u32 0, .int .u32 0, .int .u32 0, .int .u32 0, .int .u32 0, .string (⟨#[]⟩ : ByteArray), .string (⟨#[]⟩ : ByteArray), .int .i64 0, .bool false, .bool false]) ?_ 0 _ rfl; (with_reducible repeat (first | refine blk_drewN ?_ _ | refine blk_drew ?_ | refine blk_alloc ?_ _)); exact BK103.out) hb); have n1_ := Aside0.mk (below_step (by repeat (first | (with_reducible first | exact HB.out | apply below_alloc | apply pw_below_drewN | apply below_drew1 | refine below_set ?_ GE103.out) | exact HB.out)) hb); clear BK103; clear HB; have BK103 := n0_; have HB := n1_; clear n0_ n1_; (try clear hb); (try clear hb2); (try clear hk); (try clear hi)))
                go_ret
                exact ⟨by first | rfl | (simp [errW_none, errW_some] <;> rfl) | (simp [*, errW_none, errW_some] <;> rfl), by repeat (first | (with_reducible first | exact HB.out | apply below_alloc | apply pw_below_drewN | apply below_drew1 | refine below_set ?_ GE103.out) | exact HB.out)⟩
            · rw [if_neg c5] at H
              exact absurd H (by simp)
          · rw [if_neg c4] at H
            exact absurd H (by simp)
        · rw [if_neg c3] at H
          have c3b0 : decide (x10_1 < (l0.length : Int)) = false := decide_eq_false c3
          clear c3
          obtain rfl := Option.some.inj H
          go_wp2
          go_ret
          exact ⟨by first | rfl | (simp [errW_none, errW_some] <;> rfl) | (simp [*, errW_none, errW_some] <;> rfl), by repeat (first | (with_reducible first | exact HB.out | apply below_alloc | apply pw_below_drewN | apply below_drew1) | exact HB.out)⟩

/-! ### spec_Small: function 50 -/
def spec_Small.l0 : Nat → ByteArray → Int → Int → Option (Bool)
  | 0, _, _, _ => none
  | k + 1, x0, x6, x7 => if x7 < x6 then (if 0 ≤ x7 then (if x7 < (x0.size : Int) then (if (bt x0 x7) ≥ 97 then (if (bt x0 x7) ≤ 122 then (spec_Small.l0 k x0 x6 (wrap64 (x7 + 1))) else (if (bt x0 x7) ≥ 65 then (if (bt x0 x7) ≤ 90 then (spec_Small.l0 k x0 x6 (wrap64 (x7 + 1))) else (if (bt x0 x7) ≥ 48 then (if ((bt x0 x7) ≤ 57) then (spec_Small.l0 k x0 x6 (wrap64 (x7 + 1))) else (some false)) else (some false))) else (if (bt x0 x7) ≥ 48 then (if ((bt x0 x7) ≤ 57) then (spec_Small.l0 k x0 x6 (wrap64 (x7 + 1))) else (some false)) else (some false)))) else (if (bt x0 x7) ≥ 65 then (if (bt x0 x7) ≤ 90 then (spec_Small.l0 k x0 x6 (wrap64 (x7 + 1))) else (if (bt x0 x7) ≥ 48 then (if ((bt x0 x7) ≤ 57) then (spec_Small.l0 k x0 x6 (wrap64 (x7 + 1))) else (some false)) else (some false))) else (if (bt x0 x7) ≥ 48 then (if ((bt x0 x7) ≤ 57) then (spec_Small.l0 k x0 x6 (wrap64 (x7 + 1))) else (some false)) else (some false)))) else (none)) else (none)) else (some (x0.toList != ([] : List UInt8)))
def spec_Small.f (k : Nat) (a0 : ByteArray) : Option (Bool) := spec_Small.l0 k a0 (a0.size : Int) 0
set_option maxHeartbeats 8000000 in
set_option maxRecDepth 100000 in
theorem spec_Small.calls (k : Nat) (a0 : ByteArray) (r : Bool) (w : World) (h : spec_Small.f k a0 = some r) :
    Calls Tryz.prog 50 #[.string a0] w fun e w' => e = .returned (.bool r) ∧ Drawn0 w w' := by
  have H : (spec_Small.l0 k a0 (a0.size : Int) 0) = some r := h
  clear h
  have H' := Aside0.mk H
  clear H
  go_enter Tryz.func50, Tryz.ntmps50
  go_wp2
  go_loopg [7] k (fun kq v7 w' => ∃ (x7_1 : Int), v7 = .int .i64 x7_1 ∧ Aside0 (spec_Small.l0 kq a0 (a0.size : Int) x7_1 = some r) ∧ Aside0 (kq ≤ k) ∧ Drawn0 w w')
  case atStart => exact ⟨(0), (by first | rfl | (simp; done) | (simp [*]; done)), H', ⟨Nat.le_refl _⟩, by repeat (first | exact Drawn0.refl _ | apply Drawn0.step)⟩
  case round =>
    clear H'
    obtain ⟨x7_1, rfl, HA, HK1, ⟨m1, rfl⟩⟩ := hrel
    cases gk with
    | zero => exact absurd HA.out (by simp [spec_Small.l0])
    | succ k1 =>
      have H := HA.out
      clear HA
      simp only [spec_Small.l0] at H
      by_cases c2 : x7_1 < (a0.size : Int)
      · rw [if_pos c2] at H
        have c2b0 : decide (x7_1 < (a0.size : Int)) = true := decide_eq_true c2
        clear c2
        by_cases c3 : 0 ≤ x7_1
        · rw [if_pos c3] at H
          have c3b0 : decide (0 ≤ x7_1) = true := decide_eq_true c3
          clear c3
          by_cases c4 : x7_1 < (a0.size : Int)
          · rw [if_pos c4] at H
            have c4b0 : decide (x7_1 < (a0.size : Int)) = true := decide_eq_true c4
            clear c4
            by_cases c6 : (bt a0 x7_1) ≥ 97
            · rw [if_pos c6] at H
              have c6b0 : decide (97 ≤ (bt a0 x7_1)) = true := decide_eq_true c6
              clear c6
              by_cases c7 : (bt a0 x7_1) ≤ 122
              · rw [if_pos c7] at H
                have c7b0 : decide ((bt a0 x7_1) ≤ 122) = true := decide_eq_true c7
                clear c7
                have H' := Aside0.mk H
                clear H
                have p5 : 0 ≤ (x7_1 : Int) := of_decide_eq_true (by first | (with_reducible assumption) | assumption)
                have q5 : x7_1 < (a0.size : Int) := of_decide_eq_true (by first | (with_reducible assumption) | assumption)
                have hx5 := bt_at a0 x7_1
                replace p5 := eq_true p5
                replace q5 := eq_true q5
                go_wp2
                go_roundg k1
                case measure => have := HK1.out; omega
                case rel => exact ⟨(wrap64 (x7_1 + 1)), (by first | rfl | (simp; done) | (simp [*]; done)), H', ⟨by have := HK1.out; omega⟩, by repeat (first | exact Drawn0.refl _ | apply Drawn0.step)⟩
              · rw [if_neg c7] at H
                have c7b0 : decide ((bt a0 x7_1) ≤ 122) = false := decide_eq_false c7
                clear c7
                by_cases c8 : (bt a0 x7_1) ≥ 65
                · rw [if_pos c8] at H
                  have c8b0 : decide (65 ≤ (bt a0 x7_1)) = true := decide_eq_true c8
                  clear c8
                  by_cases c9 : (bt a0 x7_1) ≤ 90
                  · rw [if_pos c9] at H
                    have c9b0 : decide ((bt a0 x7_1) ≤ 90) = true := decide_eq_true c9
                    clear c9
                    have H' := Aside0.mk H
                    clear H
                    have p5 : 0 ≤ (x7_1 : Int) := of_decide_eq_true (by first | (with_reducible assumption) | assumption)
                    have q5 : x7_1 < (a0.size : Int) := of_decide_eq_true (by first | (with_reducible assumption) | assumption)
                    have hx5 := bt_at a0 x7_1
                    replace p5 := eq_true p5
                    replace q5 := eq_true q5
                    go_wp2
                    go_roundg k1
                    case measure => have := HK1.out; omega
                    case rel => exact ⟨(wrap64 (x7_1 + 1)), (by first | rfl | (simp; done) | (simp [*]; done)), H', ⟨by have := HK1.out; omega⟩, by repeat (first | exact Drawn0.refl _ | apply Drawn0.step)⟩
                  · rw [if_neg c9] at H
                    have c9b0 : decide ((bt a0 x7_1) ≤ 90) = false := decide_eq_false c9
                    clear c9
                    by_cases c10 : (bt a0 x7_1) ≥ 48
                    · rw [if_pos c10] at H
                      have c10b0 : decide (48 ≤ (bt a0 x7_1)) = true := decide_eq_true c10
                      clear c10
                      by_cases c11 : ((bt a0 x7_1) ≤ 57)
                      · rw [if_pos c11] at H
                        have c11b0 : decide ((bt a0 x7_1) ≤ 57) = true := decide_eq_true c11
                        clear c11
                        have H' := Aside0.mk H
                        clear H
                        have p5 : 0 ≤ (x7_1 : Int) := of_decide_eq_true (by first | (with_reducible assumption) | assumption)
                        have q5 : x7_1 < (a0.size : Int) := of_decide_eq_true (by first | (with_reducible assumption) | assumption)
                        have hx5 := bt_at a0 x7_1
                        replace p5 := eq_true p5
                        replace q5 := eq_true q5
                        go_wp2
                        go_roundg k1
                        case measure => have := HK1.out; omega
                        case rel => exact ⟨(wrap64 (x7_1 + 1)), (by first | rfl | (simp; done) | (simp [*]; done)), H', ⟨by have := HK1.out; omega⟩, by repeat (first | exact Drawn0.refl _ | apply Drawn0.step)⟩
                      · rw [if_neg c11] at H
                        have c11b0 : decide ((bt a0 x7_1) ≤ 57) = false := decide_eq_false c11
                        clear c11
                        obtain rfl := Option.some.inj H
                        have p5 : 0 ≤ (x7_1 : Int) := of_decide_eq_true (by first | (with_reducible assumption) | assumption)
                        have q5 : x7_1 < (a0.size : Int) := of_decide_eq_true (by first | (with_reducible assumption) | assumption)
                        have hx5 := bt_at a0 x7_1
                        replace p5 := eq_true p5
                        replace q5 := eq_true q5
                        go_wp2
                        go_ret
                        exact ⟨by first | rfl | (simp; done) | (simp [*]; done), by repeat (first | exact Drawn0.refl _ | apply Drawn0.step)⟩
                    · rw [if_neg c10] at H
                      have c10b0 : decide (48 ≤ (bt a0 x7_1)) = false := decide_eq_false c10
                      clear c10
                      obtain rfl := Option.some.inj H
                      have p5 : 0 ≤ (x7_1 : Int) := of_decide_eq_true (by first | (with_reducible assumption) | assumption)
                      have q5 : x7_1 < (a0.size : Int) := of_decide_eq_true (by first | (with_reducible assumption) | assumption)
                      have hx5 := bt_at a0 x7_1
                      replace p5 := eq_true p5
                      replace q5 := eq_true q5
                      go_wp2
                      go_ret
                      exact ⟨by first | rfl | (simp; done) | (simp [*]; done), by repeat (first | exact Drawn0.refl _ | apply Drawn0.step)⟩
                · rw [if_neg c8] at H
                  have c8b0 : decide (65 ≤ (bt a0 x7_1)) = false := decide_eq_false c8
                  clear c8
                  by_cases c12 : (bt a0 x7_1) ≥ 48
                  · rw [if_pos c12] at H
                    have c12b0 : decide (48 ≤ (bt a0 x7_1)) = true := decide_eq_true c12
                    clear c12
                    by_cases c13 : ((bt a0 x7_1) ≤ 57)
                    · rw [if_pos c13] at H
                      have c13b0 : decide ((bt a0 x7_1) ≤ 57) = true := decide_eq_true c13
                      clear c13
                      have H' := Aside0.mk H
                      clear H
                      have p5 : 0 ≤ (x7_1 : Int) := of_decide_eq_true (by first | (with_reducible assumption) | assumption)
                      have q5 : x7_1 < (a0.size : Int) := of_decide_eq_true (by first | (with_reducible assumption) | assumption)
                      have hx5 := bt_at a0 x7_1
                      replace p5 := eq_true p5
                      replace q5 := eq_true q5
                      go_wp2
                      go_roundg k1
                      case measure => have := HK1.out; omega
                      case rel => exact ⟨(wrap64 (x7_1 + 1)), (by first | rfl | (simp; done) | (simp [*]; done)), H', ⟨by have := HK1.out; omega⟩, by repeat (first | exact Drawn0.refl _ | apply Drawn0.step)⟩
                    · rw [if_neg c13] at H
                      have c13b0 : decide ((bt a0 x7_1) ≤ 57) = false := decide_eq_false c13
                      clear c13
                      obtain rfl := Option.some.inj H
                      have p5 : 0 ≤ (x7_1 : Int) := of_decide_eq_true (by first | (with_reducible assumption) | assumption)
                      have q5 : x7_1 < (a0.size : Int) := of_decide_eq_true (by first | (with_reducible assumption) | assumption)
                      have hx5 := bt_at a0 x7_1
                      replace p5 := eq_true p5
                      replace q5 := eq_true q5
                      go_wp2
                      go_ret
                      exact ⟨by first | rfl | (simp; done) | (simp [*]; done), by repeat (first | exact Drawn0.refl _ | apply Drawn0.step)⟩
                  · rw [if_neg c12] at H
                    have c12b0 : decide (48 ≤ (bt a0 x7_1)) = false := decide_eq_false c12
                    clear c12
                    obtain rfl := Option.some.inj H
                    have p5 : 0 ≤ (x7_1 : Int) := of_decide_eq_true (by first | (with_reducible assumption) | assumption)
                    have q5 : x7_1 < (a0.size : Int) := of_decide_eq_true (by first | (with_reducible assumption) | assumption)
                    have hx5 := bt_at a0 x7_1
                    replace p5 := eq_true p5
                    replace q5 := eq_true q5
                    go_wp2
                    go_ret
                    exact ⟨by first | rfl | (simp; done) | (simp [*]; done), by repeat (first | exact Drawn0.refl _ | apply Drawn0.step)⟩
            · rw [if_neg c6] at H
              have c6b0 : decide (97 ≤ (bt a0 x7_1)) = false := decide_eq_false c6
              clear c6
              by_cases c14 : (bt a0 x7_1) ≥ 65
              · rw [if_pos c14] at H
                have c14b0 : decide (65 ≤ (bt a0 x7_1)) = true := decide_eq_true c14
                clear c14
                by_cases c15 : (bt a0 x7_1) ≤ 90
                · rw [if_pos c15] at H
                  have c15b0 : decide ((bt a0 x7_1) ≤ 90) = true := decide_eq_true c15
                  clear c15
                  have H' := Aside0.mk H
                  clear H
                  have p5 : 0 ≤ (x7_1 : Int) := of_decide_eq_true (by first | (with_reducible assumption) | assumption)
                  have q5 : x7_1 < (a0.size : Int) := of_decide_eq_true (by first | (with_reducible assumption) | assumption)
                  have hx5 := bt_at a0 x7_1
                  replace p5 := eq_true p5
                  replace q5 := eq_true q5
                  go_wp2
                  go_roundg k1
                  case measure => have := HK1.out; omega
                  case rel => exact ⟨(wrap64 (x7_1 + 1)), (by first | rfl | (simp; done) | (simp [*]; done)), H', ⟨by have := HK1.out; omega⟩, by repeat (first | exact Drawn0.refl _ | apply Drawn0.step)⟩
                · rw [if_neg c15] at H
                  have c15b0 : decide ((bt a0 x7_1) ≤ 90) = false := decide_eq_false c15
                  clear c15
                  by_cases c16 : (bt a0 x7_1) ≥ 48
                  · rw [if_pos c16] at H
                    have c16b0 : decide (48 ≤ (bt a0 x7_1)) = true := decide_eq_true c16
                    clear c16
                    by_cases c17 : ((bt a0 x7_1) ≤ 57)
                    · rw [if_pos c17] at H
                      have c17b0 : decide ((bt a0 x7_1) ≤ 57) = true := decide_eq_true c17
                      clear c17
                      have H' := Aside0.mk H
                      clear H
                      have p5 : 0 ≤ (x7_1 : Int) := of_decide_eq_true (by first | (with_reducible assumption) | assumption)
                      have q5 : x7_1 < (a0.size : Int) := of_decide_eq_true (by first | (with_reducible assumption) | assumption)
                      have hx5 := bt_at a0 x7_1
                      replace p5 := eq_true p5
                      replace q5 := eq_true q5
                      go_wp2
                      go_roundg k1
                      case measure => have := HK1.out; omega
                      case rel => exact ⟨(wrap64 (x7_1 + 1)), (by first | rfl | (simp; done) | (simp [*]; done)), H', ⟨by have := HK1.out; omega⟩, by repeat (first | exact Drawn0.refl _ | apply Drawn0.step)⟩
                    · rw [if_neg c17] at H
                      have c17b0 : decide ((bt a0 x7_1) ≤ 57) = false := decide_eq_false c17
                      clear c17
                      obtain rfl := Option.some.inj H
                      have p5 : 0 ≤ (x7_1 : Int) := of_decide_eq_true (by first | (with_reducible assumption) | assumption)
                      have q5 : x7_1 < (a0.size : Int) := of_decide_eq_true (by first | (with_reducible assumption) | assumption)
                      have hx5 := bt_at a0 x7_1
                      replace p5 := eq_true p5
                      replace q5 := eq_true q5
                      go_wp2
                      go_ret
                      exact ⟨by first | rfl | (simp; done) | (simp [*]; done), by repeat (first | exact Drawn0.refl _ | apply Drawn0.step)⟩
                  · rw [if_neg c16] at H
                    have c16b0 : decide (48 ≤ (bt a0 x7_1)) = false := decide_eq_false c16
                    clear c16
                    obtain rfl := Option.some.inj H
                    have p5 : 0 ≤ (x7_1 : Int) := of_decide_eq_true (by first | (with_reducible assumption) | assumption)
                    have q5 : x7_1 < (a0.size : Int) := of_decide_eq_true (by first | (with_reducible assumption) | assumption)
                    have hx5 := bt_at a0 x7_1
                    replace p5 := eq_true p5
                    replace q5 := eq_true q5
                    go_wp2
                    go_ret
                    exact ⟨by first | rfl | (simp; done) | (simp [*]; done), by repeat (first | exact Drawn0.refl _ | apply Drawn0.step)⟩
              · rw [if_neg c14] at H
                have c14b0 : decide (65 ≤ (bt a0 x7_1)) = false := decide_eq_false c14
                clear c14
                by_cases c18 : (bt a0 x7_1) ≥ 48
                · rw [if_pos c18] at H
                  have c18b0 : decide (48 ≤ (bt a0 x7_1)) = true := decide_eq_true c18
                  clear c18
                  by_cases c19 : ((bt a0 x7_1) ≤ 57)
                  · rw [if_pos c19] at H
                    have c19b0 : decide ((bt a0 x7_1) ≤ 57) = true := decide_eq_true c19
                    clear c19
                    have H' := Aside0.mk H
                    clear H
                    have p5 : 0 ≤ (x7_1 : Int) := of_decide_eq_true (by first | (with_reducible assumption) | assumption)
                    have q5 : x7_1 < (a0.size : Int) := of_decide_eq_true (by first | (with_reducible assumption) | assumption)
                    have hx5 := bt_at a0 x7_1
                    replace p5 := eq_true p5
                    replace q5 := eq_true q5
                    go_wp2
                    go_roundg k1
                    case measure => have := HK1.out; omega
                    case rel => exact ⟨(wrap64 (x7_1 + 1)), (by first | rfl | (simp; done) | (simp [*]; done)), H', ⟨by have := HK1.out; omega⟩, by repeat (first | exact Drawn0.refl _ | apply Drawn0.step)⟩
                  · rw [if_neg c19] at H
                    have c19b0 : decide ((bt a0 x7_1) ≤ 57) = false := decide_eq_false c19
                    clear c19
                    obtain rfl := Option.some.inj H
                    have p5 : 0 ≤ (x7_1 : Int) := of_decide_eq_true (by first | (with_reducible assumption) | assumption)
                    have q5 : x7_1 < (a0.size : Int) := of_decide_eq_true (by first | (with_reducible assumption) | assumption)
                    have hx5 := bt_at a0 x7_1
                    replace p5 := eq_true p5
                    replace q5 := eq_true q5
                    go_wp2
                    go_ret
                    exact ⟨by first | rfl | (simp; done) | (simp [*]; done), by repeat (first | exact Drawn0.refl _ | apply Drawn0.step)⟩
                · rw [if_neg c18] at H
                  have c18b0 : decide (48 ≤ (bt a0 x7_1)) = false := decide_eq_false c18
                  clear c18
                  obtain rfl := Option.some.inj H
                  have p5 : 0 ≤ (x7_1 : Int) := of_decide_eq_true (by first | (with_reducible assumption) | assumption)
                  have q5 : x7_1 < (a0.size : Int) := of_decide_eq_true (by first | (with_reducible assumption) | assumption)
                  have hx5 := bt_at a0 x7_1
                  replace p5 := eq_true p5
                  replace q5 := eq_true q5
                  go_wp2
                  go_ret
                  exact ⟨by first | rfl | (simp; done) | (simp [*]; done), by repeat (first | exact Drawn0.refl _ | apply Drawn0.step)⟩
          · rw [if_neg c4] at H
            exact absurd H (by simp)
        · rw [if_neg c3] at H
          exact absurd H (by simp)
      · rw [if_neg c2] at H
        have c2b0 : decide (x7_1 < (a0.size : Int)) = false := decide_eq_false c2
        clear c2
        obtain rfl := Option.some.inj H
        go_wp2
        go_ret
        exact ⟨by first | rfl | (simp; done) | (simp [*]; done) | (refine congrArg (fun b => Ending.returned (.bool b)) ?_; generalize a0.toList = l; cases l <;> rfl), by repeat (first | exact Drawn0.refl _ | apply Drawn0.step)⟩

/-! ### spec_IsFileName: function 35 -/
def spec_IsFileName.l0 : Nat → ByteArray → Int → Int → Option (Bool)
  | 0, _, _, _ => none
  | k + 1, x0, x6, x7 => if x7 < x6 then (if 0 ≤ x7 then (if x7 < (x0.size : Int) then (if (bt x0 x7) = 47 then (if x7 = 0 then (some false) else (if x7 = (wrap64 ((x0.size : Int) - 1)) then (some false) else (if 0 ≤ (wrap64 (x7 - 1)) then (if (wrap64 (x7 - 1)) < (x0.size : Int) then (if (bt x0 (wrap64 (x7 - 1))) = 47 then (some false) else (spec_IsFileName.l0 k x0 x6 (wrap64 (x7 + 1)))) else (none)) else (none)))) else (if x7 ≤ (wrap64 (x7 + 1)) then (if (wrap64 (x7 + 1)) ≤ (x0.size : Int) then ((spec_Small.f k (x0.extract (x7 : Int).toNat ((wrap64 (x7 + 1)) : Int).toNat)).bind fun t105 => (if t105 = true then (spec_IsFileName.l0 k x0 x6 (wrap64 (x7 + 1))) else (if (bt x0 x7) = 45 then (spec_IsFileName.l0 k x0 x6 (wrap64 (x7 + 1))) else (if (bt x0 x7) = 95 then (spec_IsFileName.l0 k x0 x6 (wrap64 (x7 + 1))) else (some false))))) else (none)) else (none))) else (none)) else (none)) else (if x0.toList = ([] : List UInt8) then (some false) else (some (decide ((x0.size : Int) < 4000))))
def spec_IsFileName.f (k : Nat) (a0 : ByteArray) : Option (Bool) := spec_IsFileName.l0 k a0 (a0.size : Int) 0
set_option maxHeartbeats 8000000 in
set_option maxRecDepth 100000 in
theorem spec_IsFileName.calls (k : Nat) (a0 : ByteArray) (r : Bool) (w : World) (h : spec_IsFileName.f k a0 = some r) :
    Calls Tryz.prog 35 #[.string a0] w fun e w' => e = .returned (.bool r) ∧ Drawn0 w w' := by
  have H : (spec_IsFileName.l0 k a0 (a0.size : Int) 0) = some r := h
  clear h
  have H' := Aside0.mk H
  clear H
  go_enter Tryz.func35, Tryz.ntmps35
  go_wp2
  go_loopg [7] k (fun kq v7 w' => ∃ (x7_1 : Int), v7 = .int .i64 x7_1 ∧ Aside0 (spec_IsFileName.l0 kq a0 (a0.size : Int) x7_1 = some r) ∧ Aside0 (kq ≤ k) ∧ Drawn0 w w')
  case atStart => exact ⟨(0), (by first | rfl | (simp; done) | (simp [*]; done)), H', ⟨Nat.le_refl _⟩, by repeat (first | exact Drawn0.refl _ | apply Drawn0.step)⟩
  case round =>
    clear H'
    obtain ⟨x7_1, rfl, HA, HK1, ⟨m1, rfl⟩⟩ := hrel
    cases gk with
    | zero => exact absurd HA.out (by simp [spec_IsFileName.l0])
    | succ k1 =>
      have H := HA.out
      clear HA
      simp only [spec_IsFileName.l0] at H
      by_cases c2 : x7_1 < (a0.size : Int)
      · rw [if_pos c2] at H
        have c2b0 : decide (x7_1 < (a0.size : Int)) = true := decide_eq_true c2
        clear c2
        by_cases c3 : 0 ≤ x7_1
        · rw [if_pos c3] at H
          have c3b0 : decide (0 ≤ x7_1) = true := decide_eq_true c3
          clear c3
          by_cases c4 : x7_1 < (a0.size : Int)
          · rw [if_pos c4] at H
            have c4b0 : decide (x7_1 < (a0.size : Int)) = true := decide_eq_true c4
            clear c4
            by_cases c6 : (bt a0 x7_1) = 47
            · rw [if_pos c6] at H
              have c6b0 : ((bt a0 x7_1) == 47) = true := beq_iff_eq.mpr c6
              have c6b1 : ((bt a0 x7_1) != 47) = false := bne_eq_false_iff_eq.mpr c6
              clear c6
              by_cases c7 : x7_1 = 0
              · rw [if_pos c7] at H
                have c7b0 : (x7_1 == 0) = true := beq_iff_eq.mpr c7
                have c7b1 : (x7_1 != 0) = false := bne_eq_false_iff_eq.mpr c7
                clear c7
                obtain rfl := Option.some.inj H
                have p5 : 0 ≤ (x7_1 : Int) := of_decide_eq_true (by first | (with_reducible assumption) | assumption)
                have q5 : x7_1 < (a0.size : Int) := of_decide_eq_true (by first | (with_reducible assumption) | assumption)
                have hx5 := bt_at a0 x7_1
                replace p5 := eq_true p5
                replace q5 := eq_true q5
                go_wp2
                go_ret
                exact ⟨by first | rfl | (simp; done) | (simp [*]; done), by repeat (first | exact Drawn0.refl _ | apply Drawn0.step)⟩
              · rw [if_neg c7] at H
                have c7b0 : (x7_1 == 0) = false := beq_eq_false_iff_ne.mpr c7
                have c7b1 : (x7_1 != 0) = true := bne_iff_ne.mpr c7
                by_cases c8 : x7_1 = (wrap64 ((a0.size : Int) - 1))
                · rw [if_pos c8] at H
                  have c8b0 : (x7_1 == (wrap64 ((a0.size : Int) - 1))) = true := beq_iff_eq.mpr c8
                  have c8b1 : (x7_1 != (wrap64 ((a0.size : Int) - 1))) = false := bne_eq_false_iff_eq.mpr c8
                  clear c8
                  obtain rfl := Option.some.inj H
                  have p5 : 0 ≤ (x7_1 : Int) := of_decide_eq_true (by first | (with_reducible assumption) | assumption)
                  have q5 : x7_1 < (a0.size : Int) := of_decide_eq_true (by first | (with_reducible assumption) | assumption)
                  have hx5 := bt_at a0 x7_1
                  replace p5 := eq_true p5
                  replace q5 := eq_true q5
                  go_wp2
                  go_ret
                  exact ⟨by first | rfl | (simp; done) | (simp [*]; done), by repeat (first | exact Drawn0.refl _ | apply Drawn0.step)⟩
                · rw [if_neg c8] at H
                  have c8b0 : (x7_1 == (wrap64 ((a0.size : Int) - 1))) = false := beq_eq_false_iff_ne.mpr c8
                  have c8b1 : (x7_1 != (wrap64 ((a0.size : Int) - 1))) = true := bne_iff_ne.mpr c8
                  obtain ⟨ji9, hji9⟩ : ∃ j_ : Int, (wrap64 (x7_1 - 1)) = j_ := ⟨_, rfl⟩
                  replace H : (if 0 ≤ (ji9) then (if (ji9) < (a0.size : Int) then (if (bt a0 (ji9)) = 47 then (some false) else (spec_IsFileName.l0 k1 a0 (a0.size : Int) (wrap64 (x7_1 + 1)))) else (none)) else (none)) = some r := by first | (rw [hji9] at H; exact H) | (simp only [hji9] at H ⊢; exact H)
                  have hji9w : (IntKind.i64.wrap (x7_1 - 1)) = ji9 := (i64_w _).trans hji9
                  by_cases c10 : 0 ≤ (ji9)
                  · rw [if_pos c10] at H
                    have c10b0 : decide (0 ≤ (ji9)) = true := decide_eq_true c10
                    clear c10
                    by_cases c11 : (ji9) < (a0.size : Int)
                    · rw [if_pos c11] at H
                      have c11b0 : decide ((ji9) < (a0.size : Int)) = true := decide_eq_true c11
                      clear c11
                      by_cases c13 : (bt a0 (ji9)) = 47
                      · rw [if_pos c13] at H
                        have c13b0 : ((bt a0 (ji9)) == 47) = true := beq_iff_eq.mpr c13
                        have c13b1 : ((bt a0 (ji9)) != 47) = false := bne_eq_false_iff_eq.mpr c13
                        clear c13
                        obtain rfl := Option.some.inj H
                        have p5 : 0 ≤ (x7_1 : Int) := of_decide_eq_true (by first | (with_reducible assumption) | assumption)
                        have q5 : x7_1 < (a0.size : Int) := of_decide_eq_true (by first | (with_reducible assumption) | assumption)
                        have hx5 := bt_at a0 x7_1
                        replace p5 := eq_true p5
                        replace q5 := eq_true q5
                        have p12 : 0 ≤ ((ji9) : Int) := of_decide_eq_true (by first | (with_reducible assumption) | assumption)
                        have q12 : (ji9) < (a0.size : Int) := of_decide_eq_true (by first | (with_reducible assumption) | assumption)
                        have hx12 := bt_at a0 (ji9)
                        replace p12 := eq_true p12
                        replace q12 := eq_true q12
                        go_wp2
                        go_ret
                        exact ⟨by first | rfl | (simp; done) | (simp only [← hji9] <;> (first | rfl | simp)) | (simp [*]; done), by repeat (first | exact Drawn0.refl _ | apply Drawn0.step)⟩
                      · rw [if_neg c13] at H
                        have c13b0 : ((bt a0 (ji9)) == 47) = false := beq_eq_false_iff_ne.mpr c13
                        have c13b1 : ((bt a0 (ji9)) != 47) = true := bne_iff_ne.mpr c13
                        have H' := Aside0.mk H
                        clear H
                        have p5 : 0 ≤ (x7_1 : Int) := of_decide_eq_true (by first | (with_reducible assumption) | assumption)
                        have q5 : x7_1 < (a0.size : Int) := of_decide_eq_true (by first | (with_reducible assumption) | assumption)
                        have hx5 := bt_at a0 x7_1
                        replace p5 := eq_true p5
                        replace q5 := eq_true q5
                        have p12 : 0 ≤ ((ji9) : Int) := of_decide_eq_true (by first | (with_reducible assumption) | assumption)
                        have q12 : (ji9) < (a0.size : Int) := of_decide_eq_true (by first | (with_reducible assumption) | assumption)
                        have hx12 := bt_at a0 (ji9)
                        replace p12 := eq_true p12
                        replace q12 := eq_true q12
                        go_wp2
                        go_roundg k1
                        case measure => have := HK1.out; omega
                        case rel => exact ⟨(wrap64 (x7_1 + 1)), (by first | rfl | (simp; done) | (simp [*]; done)), H', ⟨by have := HK1.out; omega⟩, by repeat (first | exact Drawn0.refl _ | apply Drawn0.step)⟩
                    · rw [if_neg c11] at H
                      exact absurd H (by simp)
                  · rw [if_neg c10] at H
                    exact absurd H (by simp)
            · rw [if_neg c6] at H
              have c6b0 : ((bt a0 x7_1) == 47) = false := beq_eq_false_iff_ne.mpr c6
              have c6b1 : ((bt a0 x7_1) != 47) = true := bne_iff_ne.mpr c6
              have c14b0 := eq_true (of_decide_eq_true (by first | (with_reducible assumption) | assumption) : 0 ≤ x7_1)
              by_cases c15 : x7_1 ≤ (wrap64 (x7_1 + 1))
              · rw [if_pos c15] at H
                have c15b0 := eq_true c15
                have c15b1 : decide (x7_1 ≤ (wrap64 (x7_1 + 1))) = true := decide_eq_true c15
                by_cases c16 : (wrap64 (x7_1 + 1)) ≤ (a0.size : Int)
                · rw [if_pos c16] at H
                  have c16b0 := eq_true c16
                  have c16b1 : decide ((wrap64 (x7_1 + 1)) ≤ (a0.size : Int)) = true := decide_eq_true c16
                  replace H := Option.bind_eq_some_iff.mp H
                  obtain ⟨t105, A170, H⟩ := H
                  replace H : (if t105 = true then (spec_IsFileName.l0 k1 a0 (a0.size : Int) (wrap64 (x7_1 + 1))) else (if (bt a0 x7_1) = 45 then (spec_IsFileName.l0 k1 a0 (a0.size : Int) (wrap64 (x7_1 + 1))) else (if (bt a0 x7_1) = 95 then (spec_IsFileName.l0 k1 a0 (a0.size : Int) (wrap64 (x7_1 + 1))) else (some false)))) = some r := H
                  have A17 := Aside0.mk A170
                  clear A170
                  by_cases c18 : t105 = true
                  · subst c18
                    have H1 : (spec_IsFileName.l0 k1 a0 (a0.size : Int) (wrap64 (x7_1 + 1))) = some r := by rw [if_pos rfl] at H; exact H
                    clear H
                    have H := H1
                    clear H1
                    have H' := Aside0.mk H
                    clear H
                    have p5 : 0 ≤ (x7_1 : Int) := of_decide_eq_true (by first | (with_reducible assumption) | assumption)
                    have q5 : x7_1 < (a0.size : Int) := of_decide_eq_true (by first | (with_reducible assumption) | assumption)
                    have hx5 := bt_at a0 x7_1
                    replace p5 := eq_true p5
                    replace q5 := eq_true q5
                    go_wp2_with (first | ((with_reducible refine gate_callee (f := 50) rfl ?_); refine goesL_ (some 36) rfl rfl Tryz.func50 (by kernel_rfl) rfl #[.string (a0.extract (x7_1 : Int).toNat ((wrap64 (x7_1 + 1)) : Int).toNat)] rfl (by (try simp only [List.map_toArray, List.map_cons, List.map_nil]); first | done | rfl | (simp only [List.length_drop, List.length_take]; rfl)) ?_; (with_reducible refine (spec_Small.calls k1 (a0.extract (x7_1 : Int).toNat ((wrap64 (x7_1 + 1)) : Int).toNat) true _ A17.out).mono ?_); rintro e w' ⟨rfl, ⟨nd, rfl⟩⟩; refine ⟨_, rfl, ?_⟩))
                    go_roundg k1
                    case measure => have := HK1.out; omega
                    case rel => exact ⟨(wrap64 (x7_1 + 1)), (by first | rfl | (simp; done) | (simp [*]; done)), H', ⟨by have := HK1.out; omega⟩, by repeat (first | exact Drawn0.refl _ | apply Drawn0.step)⟩
                  · replace c18 := Bool.eq_false_iff.mpr c18
                    subst c18
                    have H1 : (if (bt a0 x7_1) = 45 then (spec_IsFileName.l0 k1 a0 (a0.size : Int) (wrap64 (x7_1 + 1))) else (if (bt a0 x7_1) = 95 then (spec_IsFileName.l0 k1 a0 (a0.size : Int) (wrap64 (x7_1 + 1))) else (some false))) = some r := by rw [if_neg (show ¬ (false = true) by decide)] at H; exact H
                    clear H
                    have H := H1
                    clear H1
                    by_cases c19 : (bt a0 x7_1) = 45
                    · rw [if_pos c19] at H
                      have c19b0 : ((bt a0 x7_1) == 45) = true := beq_iff_eq.mpr c19
                      have c19b1 : ((bt a0 x7_1) != 45) = false := bne_eq_false_iff_eq.mpr c19
                      clear c19
                      have H' := Aside0.mk H
                      clear H
                      have p5 : 0 ≤ (x7_1 : Int) := of_decide_eq_true (by first | (with_reducible assumption) | assumption)
                      have q5 : x7_1 < (a0.size : Int) := of_decide_eq_true (by first | (with_reducible assumption) | assumption)
                      have hx5 := bt_at a0 x7_1
                      replace p5 := eq_true p5
                      replace q5 := eq_true q5
                      go_wp2_with (first | ((with_reducible refine gate_callee (f := 50) rfl ?_); refine goesL_ (some 36) rfl rfl Tryz.func50 (by kernel_rfl) rfl #[.string (a0.extract (x7_1 : Int).toNat ((wrap64 (x7_1 + 1)) : Int).toNat)] rfl (by (try simp only [List.map_toArray, List.map_cons, List.map_nil]); first | done | rfl | (simp only [List.length_drop, List.length_take]; rfl)) ?_; (with_reducible refine (spec_Small.calls k1 (a0.extract (x7_1 : Int).toNat ((wrap64 (x7_1 + 1)) : Int).toNat) false _ A17.out).mono ?_); rintro e w' ⟨rfl, ⟨nd, rfl⟩⟩; refine ⟨_, rfl, ?_⟩))
                      go_roundg k1
                      case measure => have := HK1.out; omega
                      case rel => exact ⟨(wrap64 (x7_1 + 1)), (by first | rfl | (simp; done) | (simp [*]; done)), H', ⟨by have := HK1.out; omega⟩, by repeat (first | exact Drawn0.refl _ | apply Drawn0.step)⟩
                    · rw [if_neg c19] at H
                      have c19b0 : ((bt a0 x7_1) == 45) = false := beq_eq_false_iff_ne.mpr c19
                      have c19b1 : ((bt a0 x7_1) != 45) = true := bne_iff_ne.mpr c19
                      by_cases c20 : (bt a0 x7_1) = 95
                      · rw [if_pos c20] at H
                        have c20b0 : ((bt a0 x7_1) == 95) = true := beq_iff_eq.mpr c20
                        have c20b1 : ((bt a0 x7_1) != 95) = false := bne_eq_false_iff_eq.mpr c20
                        clear c20
                        have H' := Aside0.mk H
                        clear H
                        have p5 : 0 ≤ (x7_1 : Int) := of_decide_eq_true (by first | (with_reducible assumption) | assumption)
                        have q5 : x7_1 < (a0.size : Int) := of_decide_eq_true (by first | (with_reducible assumption) | assumption)
                        have hx5 := bt_at a0 x7_1
                        replace p5 := eq_true p5
                        replace q5 := eq_true q5
                        go_wp2_with (first | ((with_reducible refine gate_callee (f := 50) rfl ?_); refine goesL_ (some 36) rfl rfl Tryz.func50 (by kernel_rfl) rfl #[.string (a0.extract (x7_1 : Int).toNat ((wrap64 (x7_1 + 1)) : Int).toNat)] rfl (by (try simp only [List.map_toArray, List.map_cons, List.map_nil]); first | done | rfl | (simp only [List.length_drop, List.length_take]; rfl)) ?_; (with_reducible refine (spec_Small.calls k1 (a0.extract (x7_1 : Int).toNat ((wrap64 (x7_1 + 1)) : Int).toNat) false _ A17.out).mono ?_); rintro e w' ⟨rfl, ⟨nd, rfl⟩⟩; refine ⟨_, rfl, ?_⟩))
                        go_roundg k1
                        case measure => have := HK1.out; omega
                        case rel => exact ⟨(wrap64 (x7_1 + 1)), (by first | rfl | (simp; done) | (simp [*]; done)), H', ⟨by have := HK1.out; omega⟩, by repeat (first | exact Drawn0.refl _ | apply Drawn0.step)⟩
                      · rw [if_neg c20] at H
                        have c20b0 : ((bt a0 x7_1) == 95) = false := beq_eq_false_iff_ne.mpr c20
                        have c20b1 : ((bt a0 x7_1) != 95) = true := bne_iff_ne.mpr c20
                        obtain rfl := Option.some.inj H
                        have p5 : 0 ≤ (x7_1 : Int) := of_decide_eq_true (by first | (with_reducible assumption) | assumption)
                        have q5 : x7_1 < (a0.size : Int) := of_decide_eq_true (by first | (with_reducible assumption) | assumption)
                        have hx5 := bt_at a0 x7_1
                        replace p5 := eq_true p5
                        replace q5 := eq_true q5
                        go_wp2_with (first | ((with_reducible refine gate_callee (f := 50) rfl ?_); refine goesL_ (some 36) rfl rfl Tryz.func50 (by kernel_rfl) rfl #[.string (a0.extract (x7_1 : Int).toNat ((wrap64 (x7_1 + 1)) : Int).toNat)] rfl (by (try simp only [List.map_toArray, List.map_cons, List.map_nil]); first | done | rfl | (simp only [List.length_drop, List.length_take]; rfl)) ?_; (with_reducible refine (spec_Small.calls k1 (a0.extract (x7_1 : Int).toNat ((wrap64 (x7_1 + 1)) : Int).toNat) false _ A17.out).mono ?_); rintro e w' ⟨rfl, ⟨nd, rfl⟩⟩; refine ⟨_, rfl, ?_⟩))
                        go_ret
                        exact ⟨by first | rfl | (simp; done) | (simp [*]; done), by repeat (first | exact Drawn0.refl _ | apply Drawn0.step)⟩
                · rw [if_neg c16] at H
                  exact absurd H (by simp)
              · rw [if_neg c15] at H
                exact absurd H (by simp)
          · rw [if_neg c4] at H
            exact absurd H (by simp)
        · rw [if_neg c3] at H
          exact absurd H (by simp)
      · rw [if_neg c2] at H
        have c2b0 : decide (x7_1 < (a0.size : Int)) = false := decide_eq_false c2
        clear c2
        by_cases c21 : a0.toList = ([] : List UInt8)
        · rw [if_pos c21] at H
          have c21b0 : (a0.toList == ([] : List UInt8)) = true := beq_iff_eq.mpr c21
          have c21b1 : (a0.toList != ([] : List UInt8)) = false := bne_eq_false_iff_eq.mpr c21
          clear c21
          obtain rfl := Option.some.inj H
          go_wp2
          go_ret
          exact ⟨by first | rfl | (simp; done) | (simp [*]; done), by repeat (first | exact Drawn0.refl _ | apply Drawn0.step)⟩
        · rw [if_neg c21] at H
          have c21b0 : (a0.toList == ([] : List UInt8)) = false := beq_eq_false_iff_ne.mpr c21
          have c21b1 : (a0.toList != ([] : List UInt8)) = true := bne_iff_ne.mpr c21
          obtain rfl := Option.some.inj H
          go_wp2
          go_ret
          exact ⟨by first | rfl | (simp; done) | (simp [*]; done), by repeat (first | exact Drawn0.refl _ | apply Drawn0.step)⟩

end Go.Proofs.YtllikhbafaohgaaGreatDoor.PFnIdxSum
