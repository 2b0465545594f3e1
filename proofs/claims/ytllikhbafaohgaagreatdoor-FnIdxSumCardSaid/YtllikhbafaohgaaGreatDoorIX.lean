/- The printed functions that serve: times, hexadecimal texts (cut of a printed text). -/
import Derived.Test.YtllikhbafaohgaaGreatDoorPFnIdxSumx0
namespace Go.Proofs.YtllikhbafaohgaaGreatDoor.PFnIdxSum
open Go.RowKit Go.Proofs.YtllikhbafaohgaaGreatDoorW.PrintWords Go.Proofs.YtllikhbafaohgaaGreatDoorW.PrintLast Go.Proofs.YtllikhbafaohgaaGreatDoorW.PrintMore
attribute [local go_sem] max2_int min2_int max_two min_two max_three min_three max_four min_four   -- for this text's walks alone
set_option linter.unusedVariables false
set_option linter.unusedSimpArgs false

/-! ### zztime_Time_IsZero: function 70 -/
def zztime_Time_IsZero.f (a0_0 : Int) (a0_1 : Int) (a0_2 : Int) : Option (Bool) := if a0_0 = 0 then (some (a0_1 == 0)) else (some false)
set_option maxHeartbeats 8000000 in
set_option maxRecDepth 100000 in
theorem zztime_Time_IsZero.calls (a0_0 : Int) (a0_1 : Int) (a0_2 : Int) (r : Bool) (w : World) (h : zztime_Time_IsZero.f a0_0 a0_1 a0_2 = some r) :
    Calls Tryz.prog 70 #[.agg #[.int .i64 a0_0, .int .i64 a0_1, .int .i64 a0_2]] w fun e w' => e = .returned (.bool r) ∧ Below w.heap.size w w' := by
  have hu45 := Tryz.underlying45
  have HB := Aside0.mk (Below.refl w.heap.size w)
  have H : (if a0_0 = 0 then (some (a0_1 == 0)) else (some false)) = some r := h
  clear h
  by_cases c2 : a0_0 = 0
  · rw [if_pos c2] at H
    have c2b0 : (a0_0 == 0) = true := beq_iff_eq.mpr c2
    have c2b1 : (a0_0 != 0) = false := bne_eq_false_iff_eq.mpr c2
    clear c2
    obtain rfl := Option.some.inj H
    go_enter Tryz.func70, Tryz.ntmps70
    go_wp2_with (first | ((with_reducible refine gate_dst (N := 1) rfl ?_); refine box_event ?hg (N := 1) ?hd (cs := #[.int .i64 a0_0, .int .i64 a0_1, .int .i64 a0_2]) (t := 45) ?hr ?_; (case hd => rfl); (case hg => rfl); (case hr => first | (go_simp; done) | (go_simp; rfl)); intro gb268 hg w3 hbox hb; have n0_ := Aside0.mk (below_step (by repeat (first | (with_reducible first | exact HB.out | apply below_alloc | apply pw_below_drewN | apply below_drew1) | exact HB.out)) hb); have n1_ := Aside0.mk (hbox); have n2_ := Aside0.mk ((by rw [hg]; exact (below_size (by repeat (first | (with_reducible first | exact HB.out | apply below_alloc | apply pw_below_drewN | apply below_drew1) | exact HB.out))) : w.heap.size ≤ gb268)); have n3_ := Aside0.mk ((by rw [hg]; exact (below_size (by repeat (first | (with_reducible first | exact HB.out | apply below_alloc | apply pw_below_drewN | apply below_drew1) | exact HB.out))) : w.heap.size ≤ gb268)); clear HB; have HB := n0_; have BK268 := n1_; have GW268 := n2_; have GE268 := n3_; clear n0_ n1_ n2_ n3_; clear hb hbox hg; have hcz4_0 : w3.cell? ⟨gb268, 0, none⟩ = some (.int .i64 a0_0) := (blk_cell BK268.out 0).trans rfl; have hcz4_1 : w3.cell? ⟨gb268, 1, none⟩ = some (.int .i64 a0_1) := (blk_cell BK268.out 1).trans rfl; have hcz4_2 : w3.cell? ⟨gb268, 2, none⟩ = some (.int .i64 a0_2) := (blk_cell BK268.out 2).trans rfl; have hfz4_0 := blk_frozen BK268.out 0; have hfz4_1 := blk_frozen BK268.out 1; have hfz4_2 := blk_frozen BK268.out 2))
    go_ret
    exact ⟨by first | rfl | (simp [errW_none, errW_some] <;> rfl) | (simp [*, errW_none, errW_some] <;> rfl), by repeat (first | (with_reducible first | exact HB.out | apply below_alloc | apply pw_below_drewN | apply below_drew1 | refine below_set ?_ GE268.out) | exact HB.out)⟩
  · rw [if_neg c2] at H
    have c2b0 : (a0_0 == 0) = false := beq_eq_false_iff_ne.mpr c2
    have c2b1 : (a0_0 != 0) = true := bne_iff_ne.mpr c2
    obtain rfl := Option.some.inj H
    go_enter Tryz.func70, Tryz.ntmps70
    go_wp2_with (first | ((with_reducible refine gate_dst (N := 1) rfl ?_); refine box_event ?hg (N := 1) ?hd (cs := #[.int .i64 a0_0, .int .i64 a0_1, .int .i64 a0_2]) (t := 45) ?hr ?_; (case hd => rfl); (case hg => rfl); (case hr => first | (go_simp; done) | (go_simp; rfl)); intro gb268 hg w5 hbox hb; have n0_ := Aside0.mk (below_step (by repeat (first | (with_reducible first | exact HB.out | apply below_alloc | apply pw_below_drewN | apply below_drew1) | exact HB.out)) hb); have n1_ := Aside0.mk (hbox); have n2_ := Aside0.mk ((by rw [hg]; exact (below_size (by repeat (first | (with_reducible first | exact HB.out | apply below_alloc | apply pw_below_drewN | apply below_drew1) | exact HB.out))) : w.heap.size ≤ gb268)); have n3_ := Aside0.mk ((by rw [hg]; exact (below_size (by repeat (first | (with_reducible first | exact HB.out | apply below_alloc | apply pw_below_drewN | apply below_drew1) | exact HB.out))) : w.heap.size ≤ gb268)); clear HB; have HB := n0_; have BK268 := n1_; have GW268 := n2_; have GE268 := n3_; clear n0_ n1_ n2_ n3_; clear hb hbox hg; have hcz6_0 : w5.cell? ⟨gb268, 0, none⟩ = some (.int .i64 a0_0) := (blk_cell BK268.out 0).trans rfl; have hcz6_1 : w5.cell? ⟨gb268, 1, none⟩ = some (.int .i64 a0_1) := (blk_cell BK268.out 1).trans rfl; have hcz6_2 : w5.cell? ⟨gb268, 2, none⟩ = some (.int .i64 a0_2) := (blk_cell BK268.out 2).trans rfl; have hfz6_0 := blk_frozen BK268.out 0; have hfz6_1 := blk_frozen BK268.out 1; have hfz6_2 := blk_frozen BK268.out 2))
    go_ret
    exact ⟨by first | rfl | (simp [errW_none, errW_some] <;> rfl) | (simp [*, errW_none, errW_some] <;> rfl), by repeat (first | (with_reducible first | exact HB.out | apply below_alloc | apply pw_below_drewN | apply below_drew1 | refine below_set ?_ GE268.out) | exact HB.out)⟩

/-! ### zztime_Time_Unix: function 71 -/
def zztime_Time_Unix.f (a0_0 : Int) (a0_1 : Int) (a0_2 : Int) : Option (Int) := some (wrap64 (a0_0 - 62135596800))
set_option maxHeartbeats 8000000 in
set_option maxRecDepth 100000 in
theorem zztime_Time_Unix.calls (a0_0 : Int) (a0_1 : Int) (a0_2 : Int) (r : Int) (w : World) (h : zztime_Time_Unix.f a0_0 a0_1 a0_2 = some r) :
    Calls Tryz.prog 71 #[.agg #[.int .i64 a0_0, .int .i64 a0_1, .int .i64 a0_2]] w fun e w' => e = .returned (.int .i64 r) ∧ Below w.heap.size w w' := by
  have hu45 := Tryz.underlying45
  have HB := Aside0.mk (Below.refl w.heap.size w)
  have H : (some (wrap64 (a0_0 - 62135596800))) = some r := h
  clear h
  obtain rfl := Option.some.inj H
  go_enter Tryz.func71, Tryz.ntmps71
  go_wp2_with (first | ((with_reducible refine gate_dst (N := 1) rfl ?_); refine box_event ?hg (N := 1) ?hd (cs := #[.int .i64 a0_0, .int .i64 a0_1, .int .i64 a0_2]) (t := 45) ?hr ?_; (case hd => rfl); (case hg => rfl); (case hr => first | (go_simp; done) | (go_simp; rfl)); intro gb269 hg w2 hbox hb; have n0_ := Aside0.mk (below_step (by repeat (first | (with_reducible first | exact HB.out | apply below_alloc | apply pw_below_drewN | apply below_drew1) | exact HB.out)) hb); have n1_ := Aside0.mk (hbox); have n2_ := Aside0.mk ((by rw [hg]; exact (below_size (by repeat (first | (with_reducible first | exact HB.out | apply below_alloc | apply pw_below_drewN | apply below_drew1) | exact HB.out))) : w.heap.size ≤ gb269)); have n3_ := Aside0.mk ((by rw [hg]; exact (below_size (by repeat (first | (with_reducible first | exact HB.out | apply below_alloc | apply pw_below_drewN | apply below_drew1) | exact HB.out))) : w.heap.size ≤ gb269)); clear HB; have HB := n0_; have BK269 := n1_; have GW269 := n2_; have GE269 := n3_; clear n0_ n1_ n2_ n3_; clear hb hbox hg; have hcz3_0 : w2.cell? ⟨gb269, 0, none⟩ = some (.int .i64 a0_0) := (blk_cell BK269.out 0).trans rfl; have hcz3_1 : w2.cell? ⟨gb269, 1, none⟩ = some (.int .i64 a0_1) := (blk_cell BK269.out 1).trans rfl; have hcz3_2 : w2.cell? ⟨gb269, 2, none⟩ = some (.int .i64 a0_2) := (blk_cell BK269.out 2).trans rfl; have hfz3_0 := blk_frozen BK269.out 0; have hfz3_1 := blk_frozen BK269.out 1; have hfz3_2 := blk_frozen BK269.out 2))
  go_ret
  exact ⟨by first | rfl | (simp [errW_none, errW_some] <;> rfl) | (simp [*, errW_none, errW_some] <;> rfl), by repeat (first | (with_reducible first | exact HB.out | apply below_alloc | apply pw_below_drewN | apply below_drew1 | refine below_set ?_ GE269.out) | exact HB.out)⟩

/-! ### zztime_Time_Nanosecond: function 72 -/
def zztime_Time_Nanosecond.f (a0_0 : Int) (a0_1 : Int) (a0_2 : Int) : Option (Int) := some a0_1
set_option maxHeartbeats 8000000 in
set_option maxRecDepth 100000 in
theorem zztime_Time_Nanosecond.calls (a0_0 : Int) (a0_1 : Int) (a0_2 : Int) (r : Int) (w : World) (h : zztime_Time_Nanosecond.f a0_0 a0_1 a0_2 = some r) :
    Calls Tryz.prog 72 #[.agg #[.int .i64 a0_0, .int .i64 a0_1, .int .i64 a0_2]] w fun e w' => e = .returned (.int .i64 r) ∧ Below w.heap.size w w' := by
  have hu45 := Tryz.underlying45
  have HB := Aside0.mk (Below.refl w.heap.size w)
  have H : (some a0_1) = some r := h
  clear h
  obtain rfl := Option.some.inj H
  go_enter Tryz.func72, Tryz.ntmps72
  go_wp2_with (first | ((with_reducible refine gate_dst (N := 1) rfl ?_); refine box_event ?hg (N := 1) ?hd (cs := #[.int .i64 a0_0, .int .i64 a0_1, .int .i64 a0_2]) (t := 45) ?hr ?_; (case hd => rfl); (case hg => rfl); (case hr => first | (go_simp; done) | (go_simp; rfl)); intro gb270 hg w2 hbox hb; have n0_ := Aside0.mk (below_step (by repeat (first | (with_reducible first | exact HB.out | apply below_alloc | apply pw_below_drewN | apply below_drew1) | exact HB.out)) hb); have n1_ := Aside0.mk (hbox); have n2_ := Aside0.mk ((by rw [hg]; exact (below_size (by repeat (first | (with_reducible first | exact HB.out | apply below_alloc | apply pw_below_drewN | apply below_drew1) | exact HB.out))) : w.heap.size ≤ gb270)); have n3_ := Aside0.mk ((by rw [hg]; exact (below_size (by repeat (first | (with_reducible first | exact HB.out | apply below_alloc | apply pw_below_drewN | apply below_drew1) | exact HB.out))) : w.heap.size ≤ gb270)); clear HB; have HB := n0_; have BK270 := n1_; have GW270 := n2_; have GE270 := n3_; clear n0_ n1_ n2_ n3_; clear hb hbox hg; have hcz3_0 : w2.cell? ⟨gb270, 0, none⟩ = some (.int .i64 a0_0) := (blk_cell BK270.out 0).trans rfl; have hcz3_1 : w2.cell? ⟨gb270, 1, none⟩ = some (.int .i64 a0_1) := (blk_cell BK270.out 1).trans rfl; have hcz3_2 : w2.cell? ⟨gb270, 2, none⟩ = some (.int .i64 a0_2) := (blk_cell BK270.out 2).trans rfl; have hfz3_0 := blk_frozen BK270.out 0; have hfz3_1 := blk_frozen BK270.out 1; have hfz3_2 := blk_frozen BK270.out 2))
  go_ret
  exact ⟨by first | rfl | (simp [errW_none, errW_some] <;> rfl) | (simp [*, errW_none, errW_some] <;> rfl), by repeat (first | (with_reducible first | exact HB.out | apply below_alloc | apply pw_below_drewN | apply below_drew1 | refine below_set ?_ GE270.out) | exact HB.out)⟩

/-! ### impl_stampOf: function 48 -/
def impl_stampOf.f (a0_0 : Int) (a0_1 : Int) (a0_2 : Int) : Option (Int × Int) := (zztime_Time_IsZero.f a0_0 a0_1 a0_2).bind fun t273 => (if t273 = true then (some (0, 0)) else ((zztime_Time_Unix.f a0_0 a0_1 a0_2).bind fun t274 => ((zztime_Time_Nanosecond.f a0_0 a0_1 a0_2).bind fun t275 => (some (t274, t275)))))
set_option maxHeartbeats 8000000 in
set_option maxRecDepth 100000 in
theorem impl_stampOf.calls (a0_0 : Int) (a0_1 : Int) (a0_2 : Int) (r1 : Int) (r2 : Int) (w : World) (h : impl_stampOf.f a0_0 a0_1 a0_2 = some (r1, r2)) :
    Calls Tryz.prog 48 #[.agg #[.int .i64 a0_0, .int .i64 a0_1, .int .i64 a0_2]] w fun e w' => e = .returned (.agg #[.int .i64 r1, .int .i64 r2]) ∧ Below w.heap.size w w' := by
  have hu45 := Tryz.underlying45
  have hu33 := Tryz.underlying33
  have HB := Aside0.mk (Below.refl w.heap.size w)
  have H : ((zztime_Time_IsZero.f a0_0 a0_1 a0_2).bind fun t273 => (if t273 = true then (some (0, 0)) else ((zztime_Time_Unix.f a0_0 a0_1 a0_2).bind fun t274 => ((zztime_Time_Nanosecond.f a0_0 a0_1 a0_2).bind fun t275 => (some (t274, t275)))))) = some (r1, r2) := h
  clear h
  replace H := Option.bind_eq_some_iff.mp H
  obtain ⟨t273, A20, H⟩ := H
  replace H : (if t273 = true then (some (0, 0)) else ((zztime_Time_Unix.f a0_0 a0_1 a0_2).bind fun t274 => ((zztime_Time_Nanosecond.f a0_0 a0_1 a0_2).bind fun t275 => (some (t274, t275))))) = some (r1, r2) := H
  have A2 := Aside0.mk A20
  clear A20
  by_cases c3 : t273 = true
  · subst c3
    have H1 : (some (0, 0)) = some (r1, r2) := by rw [if_pos rfl] at H; exact H
    clear H
    have H := H1
    clear H1
    simp only [Option.some.injEq, Prod.mk.injEq] at H
    obtain ⟨rfl, rfl⟩ := H
    go_enter Tryz.func48, Tryz.ntmps48
    go_wp2_with (first | ((with_reducible refine gate_dst (N := 1) rfl ?_); refine box_event ?hg (N := 1) ?hd (cs := #[.int .i64 a0_0, .int .i64 a0_1, .int .i64 a0_2]) (t := 45) ?hr ?_; (case hd => rfl); (case hg => rfl); (case hr => first | (go_simp; done) | (go_simp; rfl)); intro gb271 hg w4 hbox hb; have n0_ := Aside0.mk (below_step (by repeat (first | (with_reducible first | exact HB.out | apply below_alloc | apply pw_below_drewN | apply below_drew1) | exact HB.out)) hb); have n1_ := Aside0.mk (hbox); have n2_ := Aside0.mk ((by rw [hg]; exact (below_size (by repeat (first | (with_reducible first | exact HB.out | apply below_alloc | apply pw_below_drewN | apply below_drew1) | exact HB.out))) : w.heap.size ≤ gb271)); have n3_ := Aside0.mk ((by rw [hg]; exact (below_size (by repeat (first | (with_reducible first | exact HB.out | apply below_alloc | apply pw_below_drewN | apply below_drew1) | exact HB.out))) : w.heap.size ≤ gb271)); clear HB; have HB := n0_; have BK271 := n1_; have GW271 := n2_; have GE271 := n3_; clear n0_ n1_ n2_ n3_; clear hb hbox hg) | ((with_reducible refine gate_dst (N := 2) rfl ?_); refine box_event ?hg (N := 2) ?hd (cs := #[.int .i64 0, .int .i64 0]) (t := 33) ?hr ?_; (case hd => rfl); (case hg => rfl); (case hr => first | (go_simp; done) | (go_simp; rfl)); intro gb272 hg w5 hbox hb; have n0_ := Aside0.mk (blk_below (g := gb271) (o := .cells #[.int .i64 a0_0, .int .i64 a0_1, .int .i64 a0_2] 45 (0, 0)) (by (with_reducible repeat (first | refine blk_drewN ?_ _ | refine blk_drew ?_ | refine blk_alloc ?_ _)); exact BK271.out) hb); have n1_ := Aside0.mk (below_step (by repeat (first | (with_reducible first | exact HB.out | apply below_alloc | apply pw_below_drewN | apply below_drew1 | refine below_set ?_ GE271.out) | exact HB.out)) hb); have n2_ := Aside0.mk (hbox); have n3_ := Aside0.mk ((by rw [hg]; exact (below_size (by repeat (first | (with_reducible first | exact HB.out | apply below_alloc | apply pw_below_drewN | apply below_drew1 | refine below_set ?_ GE271.out) | exact HB.out))) : w.heap.size ≤ gb272)); have n4_ := Aside0.mk ((by rw [hg]; exact (below_size (by repeat (first | (with_reducible first | exact HB.out | apply below_alloc | apply pw_below_drewN | apply below_drew1 | refine below_set ?_ GE271.out) | exact HB.out))) : w.heap.size ≤ gb272)); have n5_ := Aside0.mk ((by rw [hg]; exact Nat.ne_of_lt (blk_lt (g := gb271) (o := .cells #[.int .i64 a0_0, .int .i64 a0_1, .int .i64 a0_2] 45 (0, 0)) (by (with_reducible repeat (first | refine blk_drewN ?_ _ | refine blk_drew ?_ | refine blk_alloc ?_ _)); exact BK271.out)) : gb271 ≠ gb272)); have n6_ := Aside0.mk ((by rw [hg]; exact Nat.ne_of_gt (blk_lt (g := gb271) (o := .cells #[.int .i64 a0_0, .int .i64 a0_1, .int .i64 a0_2] 45 (0, 0)) (by (with_reducible repeat (first | refine blk_drewN ?_ _ | refine blk_drew ?_ | refine blk_alloc ?_ _)); exact BK271.out)) : gb272 ≠ gb271)); clear BK271; clear HB; have BK271 := n0_; have HB := n1_; have BK272 := n2_; have GW272 := n3_; have GE272 := n4_; have NB271_272 := n5_; have NB272_271 := n6_; clear n0_ n1_ n2_ n3_ n4_ n5_ n6_; clear hb hbox hg; have hnb6 := NB271_272.out; have hnc6 := NB272_271.out; have hcz7_0 : w5.cell? ⟨gb271, 0, none⟩ = some (.int .i64 a0_0) := (blk_cell BK271.out 0).trans rfl; have hcz7_1 : w5.cell? ⟨gb271, 1, none⟩ = some (.int .i64 a0_1) := (blk_cell BK271.out 1).trans rfl; have hcz7_2 : w5.cell? ⟨gb271, 2, none⟩ = some (.int .i64 a0_2) := (blk_cell BK271.out 2).trans rfl; have hfz7_0 := blk_frozen BK271.out 0; have hfz7_1 := blk_frozen BK271.out 1; have hfz7_2 := blk_frozen BK271.out 2) | ((with_reducible refine gate_callee (f := 70) rfl ?_); refine goesL_ (some 4) rfl rfl Tryz.func70 (by kernel_rfl) rfl #[.agg #[.int .i64 a0_0, .int .i64 a0_1, .int .i64 a0_2]] rfl (by (try simp only [List.map_toArray, List.map_cons, List.map_nil]); first | done | rfl | (simp only [List.length_drop, List.length_take]; rfl)) ?_; (with_reducible refine (zztime_Time_IsZero.calls a0_0 a0_1 a0_2 true _ A2.out).mono ?_); rintro e w8 ⟨rfl, hb⟩; refine ⟨_, rfl, ?_⟩; have n0_ := Aside0.mk (blk_below (g := gb271) (o := .cells #[.int .i64 a0_0, .int .i64 a0_1, .int .i64 a0_2] 45 (0, 0)) (by (with_reducible repeat (first | refine blk_drewN ?_ _ | refine blk_drew ?_ | refine blk_alloc ?_ _)); exact BK271.out) hb); have n1_ := Aside0.mk (blk_below (g := gb272) (o := .cells #[.int .i64 0, .int .i64 0] 33 (0, 0)) (by (with_reducible repeat (first | refine blk_drewN ?_ _ | refine blk_drew ?_ | refine blk_alloc ?_ _)); exact BK272.out) hb); have n2_ := Aside0.mk (below_step (by repeat (first | (with_reducible first | exact HB.out | apply below_alloc | apply pw_below_drewN | apply below_drew1 | refine below_set ?_ GE271.out | refine below_set ?_ GE272.out) | exact HB.out)) hb); clear BK271; clear BK272; clear HB; have BK271 := n0_; have BK272 := n1_; have HB := n2_; clear n0_ n1_ n2_; (try clear hb); (try clear hb2); (try clear hk); (try clear hi); have hcz9_0 : w8.cell? ⟨gb272, 0, none⟩ = some (.int .i64 0) := (blk_cell BK272.out 0).trans rfl; have hcz9_1 : w8.cell? ⟨gb272, 1, none⟩ = some (.int .i64 0) := (blk_cell BK272.out 1).trans rfl; have hfz9_0 := blk_frozen BK272.out 0; have hfz9_1 := blk_frozen BK272.out 1))
    refine bodyPost_ret (results_cell_row rfl _ _ gb272 33 #[.int .i64 0, .int .i64 0] (0, 0) _ rfl (by (with_reducible repeat (first | refine blk_drewN ?_ _ | refine blk_drew ?_ | refine blk_alloc ?_ _)); refine blk_put (cs := #[.int .i64 0, .int .i64 0]) ?_ 1 _ rfl; (with_reducible repeat (first | refine blk_drewN ?_ _ | refine blk_drew ?_ | refine blk_alloc ?_ _)); refine blk_put (cs := #[.int .i64 0, .int .i64 0]) ?_ 0 _ rfl; (with_reducible repeat (first | refine blk_drewN ?_ _ | refine blk_drew ?_ | refine blk_alloc ?_ _)); exact BK272.out) Tryz.underlying33 rfl (by kernel_rfl)) rfl ?_
    exact ⟨by first | rfl | (simp [errW_none, errW_some] <;> rfl) | (simp [*, errW_none, errW_some] <;> rfl), by repeat (first | (with_reducible first | exact HB.out | apply below_alloc | apply pw_below_drewN | apply below_drew1 | refine below_set ?_ GE271.out | refine below_set ?_ GE272.out) | exact HB.out)⟩
  · replace c3 := Bool.eq_false_iff.mpr c3
    subst c3
    have H1 : ((zztime_Time_Unix.f a0_0 a0_1 a0_2).bind fun t274 => ((zztime_Time_Nanosecond.f a0_0 a0_1 a0_2).bind fun t275 => (some (t274, t275)))) = some (r1, r2) := by rw [if_neg (show ¬ (false = true) by decide)] at H; exact H
    clear H
    have H := H1
    clear H1
    replace H := Option.bind_eq_some_iff.mp H
    obtain ⟨t274, A100, H⟩ := H
    replace H : ((zztime_Time_Nanosecond.f a0_0 a0_1 a0_2).bind fun t275 => (some (t274, t275))) = some (r1, r2) := H
    have A10 := Aside0.mk A100
    clear A100
    replace H := Option.bind_eq_some_iff.mp H
    obtain ⟨t275, A110, H⟩ := H
    replace H : (some (t274, t275)) = some (r1, r2) := H
    have A11 := Aside0.mk A110
    clear A110
    simp only [Option.some.injEq, Prod.mk.injEq] at H
    obtain ⟨rfl, rfl⟩ := H
    go_enter Tryz.func48, Tryz.ntmps48
    try go_wp2_with (first | ((with_reducible refine gate_dst (N := 1) rfl ?_); refine box_event ?hg (N := 1) ?hd (cs := #[.int .i64 a0_0, .int .i64 a0_1, .int .i64 a0_2]) (t := 45) ?hr ?_; (case hd => rfl); (case hg => rfl); (case hr => first | (go_simp; done) | (go_simp; rfl)); intro gb271 hg w12 hbox hb; have n0_ := Aside0.mk (below_step (by repeat (first | (with_reducible first | exact HB.out | apply below_alloc | apply pw_below_drewN | apply below_drew1) | exact HB.out)) hb); have n1_ := Aside0.mk (hbox); have n2_ := Aside0.mk ((by rw [hg]; exact (below_size (by repeat (first | (with_reducible first | exact HB.out | apply below_alloc | apply pw_below_drewN | apply below_drew1) | exact HB.out))) : w.heap.size ≤ gb271)); have n3_ := Aside0.mk ((by rw [hg]; exact (below_size (by repeat (first | (with_reducible first | exact HB.out | apply below_alloc | apply pw_below_drewN | apply below_drew1) | exact HB.out))) : w.heap.size ≤ gb271)); clear HB; have HB := n0_; have BK271 := n1_; have GW271 := n2_; have GE271 := n3_; clear n0_ n1_ n2_ n3_; clear hb hbox hg) | ((with_reducible refine gate_dst (N := 2) rfl ?_); refine box_event ?hg (N := 2) ?hd (cs := #[.int .i64 0, .int .i64 0]) (t := 33) ?hr ?_; (case hd => rfl); (case hg => rfl); (case hr => first | (go_simp; done) | (go_simp; rfl)); intro gb272 hg w13 hbox hb; have n0_ := Aside0.mk (blk_below (g := gb271) (o := .cells #[.int .i64 a0_0, .int .i64 a0_1, .int .i64 a0_2] 45 (0, 0)) (by (with_reducible repeat (first | refine blk_drewN ?_ _ | refine blk_drew ?_ | refine blk_alloc ?_ _)); exact BK271.out) hb); have n1_ := Aside0.mk (below_step (by repeat (first | (with_reducible first | exact HB.out | apply below_alloc | apply pw_below_drewN | apply below_drew1 | refine below_set ?_ GE271.out) | exact HB.out)) hb); have n2_ := Aside0.mk (hbox); have n3_ := Aside0.mk ((by rw [hg]; exact (below_size (by repeat (first | (with_reducible first | exact HB.out | apply below_alloc | apply pw_below_drewN | apply below_drew1 | refine below_set ?_ GE271.out) | exact HB.out))) : w.heap.size ≤ gb272)); have n4_ := Aside0.mk ((by rw [hg]; exact (below_size (by repeat (first | (with_reducible first | exact HB.out | apply below_alloc | apply pw_below_drewN | apply below_drew1 | refine below_set ?_ GE271.out) | exact HB.out))) : w.heap.size ≤ gb272)); have n5_ := Aside0.mk ((by rw [hg]; exact Nat.ne_of_lt (blk_lt (g := gb271) (o := .cells #[.int .i64 a0_0, .int .i64 a0_1, .int .i64 a0_2] 45 (0, 0)) (by (with_reducible repeat (first | refine blk_drewN ?_ _ | refine blk_drew ?_ | refine blk_alloc ?_ _)); exact BK271.out)) : gb271 ≠ gb272)); have n6_ := Aside0.mk ((by rw [hg]; exact Nat.ne_of_gt (blk_lt (g := gb271) (o := .cells #[.int .i64 a0_0, .int .i64 a0_1, .int .i64 a0_2] 45 (0, 0)) (by (with_reducible repeat (first | refine blk_drewN ?_ _ | refine blk_drew ?_ | refine blk_alloc ?_ _)); exact BK271.out)) : gb272 ≠ gb271)); clear BK271; clear HB; have BK271 := n0_; have HB := n1_; have BK272 := n2_; have GW272 := n3_; have GE272 := n4_; have NB271_272 := n5_; have NB272_271 := n6_; clear n0_ n1_ n2_ n3_ n4_ n5_ n6_; clear hb hbox hg; have hnb14 := NB271_272.out; have hnc14 := NB272_271.out; have hcz15_0 : w13.cell? ⟨gb271, 0, none⟩ = some (.int .i64 a0_0) := (blk_cell BK271.out 0).trans rfl; have hcz15_1 : w13.cell? ⟨gb271, 1, none⟩ = some (.int .i64 a0_1) := (blk_cell BK271.out 1).trans rfl; have hcz15_2 : w13.cell? ⟨gb271, 2, none⟩ = some (.int .i64 a0_2) := (blk_cell BK271.out 2).trans rfl; have hfz15_0 := blk_frozen BK271.out 0; have hfz15_1 := blk_frozen BK271.out 1; have hfz15_2 := blk_frozen BK271.out 2) | ((with_reducible refine gate_callee (f := 70) rfl ?_); refine goesL_ (some 4) rfl rfl Tryz.func70 (by kernel_rfl) rfl #[.agg #[.int .i64 a0_0, .int .i64 a0_1, .int .i64 a0_2]] rfl (by (try simp only [List.map_toArray, List.map_cons, List.map_nil]); first | done | rfl | (simp only [List.length_drop, List.length_take]; rfl)) ?_; (with_reducible refine (zztime_Time_IsZero.calls a0_0 a0_1 a0_2 false _ A2.out).mono ?_); rintro e w16 ⟨rfl, hb⟩; refine ⟨_, rfl, ?_⟩; have n0_ := Aside0.mk (blk_below (g := gb271) (o := .cells #[.int .i64 a0_0, .int .i64 a0_1, .int .i64 a0_2] 45 (0, 0)) (by (with_reducible repeat (first | refine blk_drewN ?_ _ | refine blk_drew ?_ | refine blk_alloc ?_ _)); exact BK271.out) hb); have n1_ := Aside0.mk (blk_below (g := gb272) (o := .cells #[.int .i64 0, .int .i64 0] 33 (0, 0)) (by (with_reducible repeat (first | refine blk_drewN ?_ _ | refine blk_drew ?_ | refine blk_alloc ?_ _)); exact BK272.out) hb); have n2_ := Aside0.mk (below_step (by repeat (first | (with_reducible first | exact HB.out | apply below_alloc | apply pw_below_drewN | apply below_drew1 | refine below_set ?_ GE271.out | refine below_set ?_ GE272.out) | exact HB.out)) hb); clear BK271; clear BK272; clear HB; have BK271 := n0_; have BK272 := n1_; have HB := n2_; clear n0_ n1_ n2_; (try clear hb); (try clear hb2); (try clear hk); (try clear hi)))
    have n0_ := Aside0.mk (blk_drew BK271.out)
    have n1_ := Aside0.mk (blk_drew BK272.out)
    have n2_ := Aside0.mk (below_drew1 HB.out)
    clear BK271
    clear BK272
    clear HB
    have BK271 := n0_
    have BK272 := n1_
    have HB := n2_
    clear n0_ n1_ n2_
    refine start_ (n := 6) (S := fun w' => w'.cell? ⟨gb271, 0, none⟩ = some (.int .i64 a0_0) ∧ w'.cell? ⟨gb271, 1, none⟩ = some (.int .i64 a0_1) ∧ w'.cell? ⟨gb271, 2, none⟩ = some (.int .i64 a0_2)) (ds := []) #[false, false, false, false, false, false] (by kernel_rfl) rfl rfl ⟨(blk_cell BK271.out 0).trans rfl, (blk_cell BK271.out 1).trans rfl, (blk_cell BK271.out 2).trans rfl⟩ (fun hHeld => ?_)
    generalize w16.drew = w17 at BK271 BK272 HB hHeld ⊢
    refine take_ (i := 0) (N := some 6) (v := ?_) (a' := ?_) #[true, false, false, false, false, false] rfl rfl (by kernel_rfl) (fun _ _ _ h => h) (Or.inl ⟨by rfl, ?_⟩) hHeld ?_ ?_
    rotate_left
    · rintro w' ⟨s0, s1, s2⟩
      go_simp
      with_reducible rfl
    rotate_left
    · simp only [Act.put, List.setIfInBounds_toArray, List.set_cons_zero, List.set_cons_succ, i64_w, i32_w]
      rfl
    refine take_ (i := 2) (N := some 8) (v := ?_) (a' := ?_) #[true, false, true, false, false, false] rfl rfl (by kernel_rfl) (fun _ _ _ h => h) (Or.inl ⟨by rfl, ?_⟩) hHeld ?_ ?_
    rotate_left
    · rintro w' ⟨s0, s1, s2⟩
      go_simp
      with_reducible rfl
    rotate_left
    · simp only [Act.put, List.setIfInBounds_toArray, List.set_cons_zero, List.set_cons_succ, i64_w, i32_w]
      rfl
    refine one_ (i := 1) (N := some 7) #[true, true, true, false, false, false] rfl rfl (by kernel_rfl) (by decide) (fun K hK => ?_)
    refine goes_ Tryz.func71 (by kernel_rfl) rfl #[.agg #[.int .i64 a0_0, .int .i64 a0_1, .int .i64 a0_2]] (by rfl) rfl rfl (by (try simp only [List.map_toArray, List.map_cons, List.map_nil]); first | done | rfl | (simp only [List.length_drop, List.length_take]; rfl)) ?_
    with_reducible refine (zztime_Time_Unix.calls a0_0 a0_1 a0_2 t274 _ A10.out).mono ?_
    rintro e w18 ⟨rfl, hb⟩
    refine ⟨_, rfl, ?_⟩
    have n0_ := Aside0.mk (blk_below (g := gb271) (o := .cells #[.int .i64 a0_0, .int .i64 a0_1, .int .i64 a0_2] 45 (0, 0)) (by (with_reducible repeat (first | refine blk_drewN ?_ _ | refine blk_drew ?_ | refine blk_alloc ?_ _)); exact BK271.out) hb)
    have n1_ := Aside0.mk (blk_below (g := gb272) (o := .cells #[.int .i64 0, .int .i64 0] 33 (0, 0)) (by (with_reducible repeat (first | refine blk_drewN ?_ _ | refine blk_drew ?_ | refine blk_alloc ?_ _)); exact BK272.out) hb)
    have n2_ := Aside0.mk (below_step (by repeat (first | (with_reducible first | exact HB.out | apply below_alloc | apply pw_below_drewN | apply below_drew1 | refine below_set ?_ GE271.out | refine below_set ?_ GE272.out) | exact HB.out)) hb)
    clear BK271
    clear BK272
    clear HB
    have BK271 := n0_
    have BK272 := n1_
    have HB := n2_
    clear n0_ n1_ n2_
    (try clear hb)
    (try clear hb2)
    (try clear hk)
    (try clear hi)
    refine hK.out _ _ ⟨(blk_cell BK271.out 0).trans rfl, (blk_cell BK271.out 1).trans rfl, (blk_cell BK271.out 2).trans rfl⟩ (fun hHeld => ?_)
    clear hK K
    refine norm_ (a' := ?_) ?_ ?_
    rotate_left
    · show Act.put _ (some 7) _ = _
      simp only [Act.put, List.setIfInBounds_toArray, List.set_cons_zero, List.set_cons_succ, i64_w, i32_w]
      rfl
    refine one_ (i := 3) (N := some 9) #[true, true, true, true, false, false] rfl rfl (by kernel_rfl) (by decide) (fun K hK => ?_)
    refine goes_ Tryz.func72 (by kernel_rfl) rfl #[.agg #[.int .i64 a0_0, .int .i64 a0_1, .int .i64 a0_2]] (by rfl) rfl rfl (by (try simp only [List.map_toArray, List.map_cons, List.map_nil]); first | done | rfl | (simp only [List.length_drop, List.length_take]; rfl)) ?_
    with_reducible refine (zztime_Time_Nanosecond.calls a0_0 a0_1 a0_2 t275 _ A11.out).mono ?_
    rintro e w19 ⟨rfl, hb⟩
    refine ⟨_, rfl, ?_⟩
    have n0_ := Aside0.mk (blk_below (g := gb271) (o := .cells #[.int .i64 a0_0, .int .i64 a0_1, .int .i64 a0_2] 45 (0, 0)) (by (with_reducible repeat (first | refine blk_drewN ?_ _ | refine blk_drew ?_ | refine blk_alloc ?_ _)); exact BK271.out) hb)
    have n1_ := Aside0.mk (blk_below (g := gb272) (o := .cells #[.int .i64 0, .int .i64 0] 33 (0, 0)) (by (with_reducible repeat (first | refine blk_drewN ?_ _ | refine blk_drew ?_ | refine blk_alloc ?_ _)); exact BK272.out) hb)
    have n2_ := Aside0.mk (below_step (by repeat (first | (with_reducible first | exact HB.out | apply below_alloc | apply pw_below_drewN | apply below_drew1 | refine below_set ?_ GE271.out | refine below_set ?_ GE272.out) | exact HB.out)) hb)
    clear BK271
    clear BK272
    clear HB
    have BK271 := n0_
    have BK272 := n1_
    have HB := n2_
    clear n0_ n1_ n2_
    (try clear hb)
    (try clear hb2)
    (try clear hk)
    (try clear hi)
    refine hK.out _ _ ⟨(blk_cell BK271.out 0).trans rfl, (blk_cell BK271.out 1).trans rfl, (blk_cell BK271.out 2).trans rfl⟩ (fun hHeld => ?_)
    clear hK K
    refine norm_ (a' := ?_) ?_ ?_
    rotate_left
    · show Act.put _ (some 9) _ = _
      simp only [Act.put, List.setIfInBounds_toArray, List.set_cons_zero, List.set_cons_succ, i64_w, i32_w]
      rfl
    refine pure_ (i := 4) (N := some 10) (v := ?_) (a' := ?_) #[true, true, true, true, true, false] rfl rfl (by kernel_rfl) (fun _ _ _ h => h) (Or.inl ⟨by rfl, ?_⟩) ?_ ?_
    rotate_left
    · intro w'
      go_simp
      with_reducible rfl
    rotate_left
    · simp only [Act.put, List.setIfInBounds_toArray, List.set_cons_zero, List.set_cons_succ, i64_w, i32_w]
      rfl
    refine one_ (i := 5) (N := none) #[true, true, true, true, true, true] rfl rfl (by kernel_rfl) (by decide) (fun K hK => ?_)
    have hs20 : w19.cell? ⟨gb272, 0, none⟩ = some (.int .i64 0) := (blk_cell BK272.out 0).trans rfl
    have hfs20 := blk_frozen BK272.out 0
    have hns20_0 := NB271_272.out
    have hms20_0 := NB272_271.out
    have hs21 : w19.cell? ⟨gb272, 1, none⟩ = some (.int .i64 0) := (blk_cell BK272.out 1).trans rfl
    have hfs21 := blk_frozen BK272.out 1
    have hns21_0 := NB271_272.out
    have hms21_0 := NB272_271.out
    refine skip_ (w1 := ?_) (by rfl) rfl ?_ ?_
    rotate_left
    · go_simp
      rfl
    refine hK.out _ _ ⟨((cell_far (p := ⟨gb272, _, none⟩) NB271_272.out _).trans (((cell_far (p := ⟨gb272, _, none⟩) NB271_272.out _).trans (hHeld.1)))), ((cell_far (p := ⟨gb272, _, none⟩) NB271_272.out _).trans (((cell_far (p := ⟨gb272, _, none⟩) NB271_272.out _).trans (hHeld.2.1)))), ((cell_far (p := ⟨gb272, _, none⟩) NB271_272.out _).trans (((cell_far (p := ⟨gb272, _, none⟩) NB271_272.out _).trans (hHeld.2.2))))⟩ (fun hHeld => ?_)
    clear hK K
    refine done_ (by kernel_rfl) ?_
    try go_wp2
    refine bodyPost_ret (results_cell_row rfl _ _ gb272 33 #[.int .i64 t274, .int .i64 t275] (0, 0) _ rfl (by (with_reducible repeat (first | refine blk_drewN ?_ _ | refine blk_drew ?_ | refine blk_alloc ?_ _)); refine blk_put (cs := #[.int .i64 t274, .int .i64 0]) ?_ 1 _ rfl; (with_reducible repeat (first | refine blk_drewN ?_ _ | refine blk_drew ?_ | refine blk_alloc ?_ _)); refine blk_put (cs := #[.int .i64 0, .int .i64 0]) ?_ 0 _ rfl; (with_reducible repeat (first | refine blk_drewN ?_ _ | refine blk_drew ?_ | refine blk_alloc ?_ _)); exact BK272.out) Tryz.underlying33 rfl (by kernel_rfl)) rfl ?_
    exact ⟨by first | rfl | (simp [errW_none, errW_some] <;> rfl) | (simp [*, errW_none, errW_some] <;> rfl), by repeat (first | (with_reducible first | exact HB.out | apply below_alloc | apply pw_below_drewN | apply below_drew1 | refine below_set ?_ GE271.out | refine below_set ?_ GE272.out) | exact HB.out)⟩

/-! ### hex_EncodedLen: function 81 -/
def hex_EncodedLen.f (a0 : Int) : Option (Int) := some (wrap64 (a0 * 2))
set_option maxHeartbeats 8000000 in
set_option maxRecDepth 100000 in
theorem hex_EncodedLen.calls (a0 : Int) (r : Int) (w : World) (h : hex_EncodedLen.f a0 = some r) :
    Calls Tryz.prog 81 #[.int .i64 a0] w fun e w' => e = .returned (.int .i64 r) ∧ Drawn0 w w' := by
  have H : (some (wrap64 (a0 * 2))) = some r := h
  clear h
  obtain rfl := Option.some.inj H
  go_enter Tryz.func81, Tryz.ntmps81
  go_wp2
  go_ret
  exact ⟨by first | rfl | (simp; done) | (simp [*]; done), by repeat (first | exact Drawn0.refl _ | apply Drawn0.step)⟩

/-! ### hex_Encode: function 82 -/
def hex_Encode.l0 : Nat → List Int → List Int → Int → List Int → Int → Int → Option (Int × List Int)
  | 0, _, _, _, _, _, _ => none
  | k + 1, x0, x1, x5, x8, x9, x10 => if x10 < x9 then (if 0 ≤ x10 then (if x10 < (x8.length : Int) then (if 0 ≤ ((rd x8 x10) / 16) then (if ((rd x8 x10) / 16) < 16 then (if 0 ≤ x5 then (if x5 < (x0.length : Int) then (if 0 ≤ (Go.bits .and .u8 (rd x8 x10) 15) then (if (Go.bits .and .u8 (rd x8 x10) 15) < 16 then (if 0 ≤ (wrap64 (x5 + 1)) then (if (wrap64 (x5 + 1)) < (x0.length : Int) then (hex_Encode.l0 k ((x0.set (x5 : Int).toNat (bt (⟨#[48, 49, 50, 51, 52, 53, 54, 55, 56, 57, 97, 98, 99, 100, 101, 102]⟩ : ByteArray) ((rd x8 x10) / 16))).set ((wrap64 (x5 + 1)) : Int).toNat (bt (⟨#[48, 49, 50, 51, 52, 53, 54, 55, 56, 57, 97, 98, 99, 100, 101, 102]⟩ : ByteArray) (Go.bits .and .u8 (rd x8 x10) 15))) x1 (wrap64 (x5 + 2)) x8 x9 (wrap64 (x10 + 1))) else (none)) else (none)) else (none)) else (none)) else (none)) else (none)) else (none)) else (none)) else (none)) else (none)) else (some (wrap64 ((x1.length : Int) * 2), x0))
def hex_Encode.f (k : Nat) (l0 : List Int) (l1 : List Int) : Option (Int × List Int) := hex_Encode.l0 k l0 l1 0 l1 (l1.length : Int) 0
set_option maxHeartbeats 8000000 in
set_option maxRecDepth 100000 in
theorem hex_Encode.calls (k : Nat) (P0_ : Nat → Prop) (u9000_ : Value) (l0 : List Int) (A1 : Option Addr) (c1 : Nat) (l1 : List Int) (r1 : Int) (r2 : List Int) (w0 w : World) (hB : Below w0.heap.size w0 w) (ho0 : Kd.R (Kd.int .u8) 5 w w0.heap.size P0_ u9000_ l0) (hr1 : ∀ W_, Kept w W_ (fun k_ => P0_ k_) → Kd.C (Kd.int .u8) W_ A1 l1.length l1) (hc1 : l1.length ≤ c1) (h : hex_Encode.f k l0 l1 = some (r1, r2)) :
    Calls Tryz.prog 82 #[u9000_, .slice A1 l1.length c1] w fun e w' => e = .returned (.int .i64 r1) ∧ Kd.R (Kd.int .u8) 5 w' w0.heap.size (fun k_ => (P0_ k_ ∨ w.heap.size ≤ k_)) u9000_ r2 ∧ Below w0.heap.size w0 w' ∧ Kept w w' (fun k_ => P0_ k_) := by
  have HO0 := Aside0.mk (show Kd.R (Kd.int .u8) 5 w w0.heap.size (fun k_ => (P0_ k_ ∨ w.heap.size ≤ k_)) u9000_ l0 from Kd.R_mono ho0 (fun k_ hk => (.inl hk)))
  have HR1 := Aside0.mk hr1
  have HC1 := Aside0.mk hc1
  clear hr1 hc1
  have HK := Aside0.mk (Kept.refl w (fun k_ => P0_ k_))
  have HW0 := Aside0.mk hB.size
  have HB := Aside0.mk hB
  clear hB
  have H : (hex_Encode.l0 k l0 l1 0 l1 (l1.length : Int) 0) = some (r1, r2) := h
  clear h
  have H' := Aside0.mk H
  clear H
  go_enter Tryz.func82, Tryz.ntmps82
  go_wp2
  go_loopg [5, 10] k (fun kq v5 v10 w' => ∃ (x0_1 : List Int) (x5_1 : Int) (x10_1 : Int), v5 = .int .i64 x5_1 ∧ v10 = .int .i64 x10_1 ∧ Aside0 (hex_Encode.l0 kq x0_1 l1 x5_1 l1 (l1.length : Int) x10_1 = some (r1, r2)) ∧ Aside0 (kq ≤ k) ∧ Aside0 (Kd.R (Kd.int .u8) 5 w' w0.heap.size (fun k_ => (P0_ k_ ∨ w.heap.size ≤ k_)) u9000_ x0_1) ∧ Aside0 (Kept w w' (fun k_ => P0_ k_)) ∧ Aside0 (Below w0.heap.size w0 w'))
  case atStart => exact ⟨(l0), (0), (0), (by first | rfl | (simp; done) | (simp [*]; done)), (by first | rfl | (simp; done) | (simp [*]; done)), H', ⟨Nat.le_refl _⟩, ⟨by (with_reducible repeat (first | apply Kd.R_alloc | apply Kd.R_drewN | apply Kd.R_drew)); exact HO0.out⟩, ⟨by repeat (first | (with_reducible first | exact HK.out | apply Kept.alloc | apply Kept.drewN | apply Kept.drew) | exact HK.out)⟩, ⟨by repeat (first | (with_reducible first | exact HB.out | apply below_alloc | apply pw_below_drewN | apply below_drew1) | exact HB.out)⟩⟩
  case round =>
    clear H'
    try clear c1
    try clear p2
    obtain ⟨x0_1, x5_1, x10_1, rfl, rfl, HA, HK1, HO_0, HK, HB⟩ := hrel
    cases gk with
    | zero => exact absurd HA.out (by simp [hex_Encode.l0])
    | succ k1 =>
      have H := HA.out
      clear HA
      simp only [hex_Encode.l0] at H
      by_cases c3 : x10_1 < (l1.length : Int)
      · rw [if_pos c3] at H
        have c3b0 : decide (x10_1 < (l1.length : Int)) = true := decide_eq_true c3
        clear c3
        by_cases c4 : 0 ≤ x10_1
        · rw [if_pos c4] at H
          have c4b0 : decide (0 ≤ x10_1) = true := decide_eq_true c4
          clear c4
          by_cases c5 : x10_1 < (l1.length : Int)
          · rw [if_pos c5] at H
            have c5b0 : decide (x10_1 < (l1.length : Int)) = true := decide_eq_true c5
            clear c5
            obtain ⟨ji6, hji6⟩ : ∃ j_ : Int, ((rd l1 x10_1) / 16) = j_ := ⟨_, rfl⟩
            replace H : (if 0 ≤ (ji6) then (if (ji6) < 16 then (if 0 ≤ x5_1 then (if x5_1 < (x0_1.length : Int) then (if 0 ≤ (Go.bits .and .u8 (rd l1 x10_1) 15) then (if (Go.bits .and .u8 (rd l1 x10_1) 15) < 16 then (if 0 ≤ (wrap64 (x5_1 + 1)) then (if (wrap64 (x5_1 + 1)) < (x0_1.length : Int) then (hex_Encode.l0 k1 ((x0_1.set (x5_1 : Int).toNat (bt (⟨#[48, 49, 50, 51, 52, 53, 54, 55, 56, 57, 97, 98, 99, 100, 101, 102]⟩ : ByteArray) (ji6))).set ((wrap64 (x5_1 + 1)) : Int).toNat (bt (⟨#[48, 49, 50, 51, 52, 53, 54, 55, 56, 57, 97, 98, 99, 100, 101, 102]⟩ : ByteArray) (Go.bits .and .u8 (rd l1 x10_1) 15))) l1 (wrap64 (x5_1 + 2)) l1 (l1.length : Int) (wrap64 (x10_1 + 1))) else (none)) else (none)) else (none)) else (none)) else (none)) else (none)) else (none)) else (none)) = some (r1, r2) := by first | (rw [hji6] at H; exact H) | (simp only [hji6] at H ⊢; exact H)
            by_cases c7 : 0 ≤ (ji6)
            · rw [if_pos c7] at H
              have c7b0 : decide (0 ≤ (ji6)) = true := decide_eq_true c7
              clear c7
              by_cases c8 : (ji6) < 16
              · rw [if_pos c8] at H
                have c8b0 : decide ((ji6) < 16) = true := decide_eq_true c8
                clear c8
                by_cases c10 : 0 ≤ x5_1
                · rw [if_pos c10] at H
                  have c10b0 : decide (0 ≤ x5_1) = true := decide_eq_true c10
                  clear c10
                  by_cases c11 : x5_1 < (x0_1.length : Int)
                  · rw [if_pos c11] at H
                    have c11b0 : decide (x5_1 < (x0_1.length : Int)) = true := decide_eq_true c11
                    clear c11
                    obtain ⟨y277, hy277⟩ : ∃ y_ : List Int, y_ = (x0_1.set (x5_1 : Int).toNat (bt (⟨#[48, 49, 50, 51, 52, 53, 54, 55, 56, 57, 97, 98, 99, 100, 101, 102]⟩ : ByteArray) (ji6))) := ⟨_, rfl⟩
                    replace H : (if 0 ≤ (Go.bits .and .u8 (rd l1 x10_1) 15) then (if (Go.bits .and .u8 (rd l1 x10_1) 15) < 16 then (if 0 ≤ (wrap64 (x5_1 + 1)) then (if (wrap64 (x5_1 + 1)) < (x0_1.length : Int) then (hex_Encode.l0 k1 (y277.set ((wrap64 (x5_1 + 1)) : Int).toNat (bt (⟨#[48, 49, 50, 51, 52, 53, 54, 55, 56, 57, 97, 98, 99, 100, 101, 102]⟩ : ByteArray) (Go.bits .and .u8 (rd l1 x10_1) 15))) l1 (wrap64 (x5_1 + 2)) l1 (l1.length : Int) (wrap64 (x10_1 + 1))) else (none)) else (none)) else (none)) else (none)) = some (r1, r2) := by first | (rw [hy277]; with_reducible exact H) | (have H2_ := (Option.bind_some _ _).symm.trans H; rw [hy277]; with_reducible exact H2_) | (have H2_ := (Option.bind_some _ _).symm.trans H; with_reducible exact H2_) | with_reducible exact H | (rw [hy277]; exact H) | exact H
                    have Ny277 := Aside0.mk hy277
                    clear hy277
                    by_cases c13 : 0 ≤ (Go.bits .and .u8 (rd l1 x10_1) 15)
                    · rw [if_pos c13] at H
                      have c13b0 : decide (0 ≤ (Go.bits .and .u8 (rd l1 x10_1) 15)) = true := decide_eq_true c13
                      clear c13
                      by_cases c14 : (Go.bits .and .u8 (rd l1 x10_1) 15) < 16
                      · rw [if_pos c14] at H
                        have c14b0 : decide ((Go.bits .and .u8 (rd l1 x10_1) 15) < 16) = true := decide_eq_true c14
                        clear c14
                        obtain ⟨ji16, hji16⟩ : ∃ j_ : Int, (wrap64 (x5_1 + 1)) = j_ := ⟨_, rfl⟩
                        replace H : (if 0 ≤ (ji16) then (if (ji16) < (x0_1.length : Int) then (hex_Encode.l0 k1 (y277.set ((ji16) : Int).toNat (bt (⟨#[48, 49, 50, 51, 52, 53, 54, 55, 56, 57, 97, 98, 99, 100, 101, 102]⟩ : ByteArray) (Go.bits .and .u8 (rd l1 x10_1) 15))) l1 (wrap64 (x5_1 + 2)) l1 (l1.length : Int) (wrap64 (x10_1 + 1))) else (none)) else (none)) = some (r1, r2) := by first | (rw [hji16] at H; exact H) | (simp only [hji16] at H ⊢; exact H)
                        have hji16w : (IntKind.i64.wrap (x5_1 + 1)) = ji16 := (i64_w _).trans hji16
                        by_cases c17 : 0 ≤ (ji16)
                        · rw [if_pos c17] at H
                          have c17b0 : decide (0 ≤ (ji16)) = true := decide_eq_true c17
                          clear c17
                          by_cases c18 : (ji16) < (x0_1.length : Int)
                          · rw [if_pos c18] at H
                            have c18b0 : decide ((ji16) < (x0_1.length : Int)) = true := decide_eq_true c18
                            clear c18
                            obtain ⟨y278, hy278⟩ : ∃ y_ : List Int, y_ = (y277.set ((ji16) : Int).toNat (bt (⟨#[48, 49, 50, 51, 52, 53, 54, 55, 56, 57, 97, 98, 99, 100, 101, 102]⟩ : ByteArray) (Go.bits .and .u8 (rd l1 x10_1) 15))) := ⟨_, rfl⟩
                            replace H : (hex_Encode.l0 k1 y278 l1 (wrap64 (x5_1 + 2)) l1 (l1.length : Int) (wrap64 (x10_1 + 1))) = some (r1, r2) := by first | (rw [hy278]; with_reducible exact H) | (have H2_ := (Option.bind_some _ _).symm.trans H; rw [hy278]; with_reducible exact H2_) | (have H2_ := (Option.bind_some _ _).symm.trans H; with_reducible exact H2_) | with_reducible exact H | (rw [hy278]; exact H) | exact H
                            have Ny278 := Aside0.mk hy278
                            clear hy278
                            have H' := Aside0.mk H
                            clear H
                            have p276 : 0 ≤ (x10_1 : Int) := of_decide_eq_true (by first | (with_reducible assumption) | assumption)
                            have q276 : x10_1 < (l1.length : Int) := of_decide_eq_true (by first | (with_reducible assumption) | assumption)
                            obtain ⟨ad276, e276, hx276_0⟩ := Kd.at_int (Kd.C_kept_now HR1.out HK.out) x10_1 p276 q276
                            cases e276
                            replace p276 := eq_true p276
                            replace q276 := eq_true q276
                            have p9 : 0 ≤ ((ji6) : Int) := of_decide_eq_true (by first | (with_reducible assumption) | assumption)
                            have q9 : (ji6) < (16 : Int) := of_decide_eq_true (by first | (with_reducible assumption) | assumption)
                            have hx9 := bt_at (⟨#[48, 49, 50, 51, 52, 53, 54, 55, 56, 57, 97, 98, 99, 100, 101, 102]⟩ : ByteArray) (ji6)
                            replace p9 := eq_true p9
                            replace q9 := eq_true q9
                            have p12 : 0 ≤ (x5_1 : Int) := of_decide_eq_true (by first | (with_reducible assumption) | assumption)
                            have q12 : (x5_1 : Int) < ((x0_1.length : Int) : Int) := of_decide_eq_true (by first | (with_reducible assumption) | assumption)
                            obtain ⟨go12, co12, eo12, gb12, gl12, cl12, HG12⟩ := Kd.R_form HO_0.out (by omega)
                            (first | cases eo12 | (injection eo12 with ea_ en_ ec_; (first | subst ea_ | (injection ea_ with ea_; subst ea_)); subst ec_; clear en_))
                            have GB12 := Aside0.mk gb12
                            have GG12 := Aside0.mk HG12
                            clear gb12 gl12 HG12
                            have HMgo12 := Aside0.mk (show (P0_ go12 ∨ w.heap.size ≤ go12) from (HO_0.out.1 _ rfl))
                            obtain ⟨hx12_0, hf12_0⟩ := Kd.R_celln 0 HO_0.out (x5_1 : Int) p12 q12
                            replace p12 := eq_true p12
                            replace q12 := eq_true q12
                            have HP20 := Kd.R_putg HO_0.out (x5_1 : Int) (bt (⟨#[48, 49, 50, 51, 52, 53, 54, 55, 56, 57, 97, 98, 99, 100, 101, 102]⟩ : ByteArray) (ji6))
                            go_wp2_with (first | ((with_reducible refine gate_store (t := 5) (p := 19) rfl ?_); refine store_event (t := 5) (p := 19) (v := ?vo_w21) (w1 := (wr.setCell ⟨go12, (x5_1 : Int).toNat, none⟩ (.int .u8 (bt (⟨#[48, 49, 50, 51, 52, 53, 54, 55, 56, 57, 97, 98, 99, 100, 101, 102]⟩ : ByteArray) (ji6))))) ?hg ?ho ?hn ?hr ?_; (case ho => rfl); (case hg => rfl); (case hn => rfl); (case hr => first | (go_simp; done) | (go_simp; rfl)); intro w21 hw; have hg : wr.grownBy w21 (some go12) := (by rw [hw]; exact HP20.2); have hp_ : Kd.R (Kd.int .u8) 5 w21 w0.heap.size (fun k_ => (P0_ k_ ∨ w.heap.size ≤ k_)) (.slice (some ⟨go12, 0, none⟩) x0_1.length co12) y277 := (by rw [hw, Ny277.out]; exact HP20.1); clear HP20; have n0_ := Aside0.mk (hp_); have n1_ := Aside0.mk ((by rw [hw]; exact below_set (HB.out) GB12.out : Below w0.heap.size w0 w21)); have n2_ := Aside0.mk (Kept.of_grown (S := (fun k_ => P0_ k_)) hg (by repeat (first | (with_reducible first | exact HK.out | apply Kept.alloc | apply Kept.drewN | apply Kept.drew) | exact HK.out)) (fun k_ e_ => (HO_0.out.1 k_ e_))); clear HO_0; clear HB; clear HK; have HO_0 := n0_; have HB := n1_; have HK := n2_; clear n0_ n1_ n2_; clear hg hw hp_; have p15 : 0 ≤ ((Go.bits .and .u8 (rd l1 x10_1) 15) : Int) := of_decide_eq_true (by first | (with_reducible assumption) | assumption); have q15 : (Go.bits .and .u8 (rd l1 x10_1) 15) < (16 : Int) := of_decide_eq_true (by first | (with_reducible assumption) | assumption); have hx15 := bt_at (⟨#[48, 49, 50, 51, 52, 53, 54, 55, 56, 57, 97, 98, 99, 100, 101, 102]⟩ : ByteArray) (Go.bits .and .u8 (rd l1 x10_1) 15); replace p15 := eq_true p15; replace q15 := eq_true q15; have p19 : 0 ≤ ((ji16) : Int) := of_decide_eq_true (by first | (with_reducible assumption) | assumption); have q19 : ((ji16) : Int) < ((x0_1.length : Int) : Int) := of_decide_eq_true (by first | (with_reducible assumption) | assumption); obtain ⟨hx19_0, hf19_0⟩ := Kd.R_celln 0 HO_0.out ((ji16) : Int) p19 q19; replace p19 := eq_true p19; replace q19 := eq_true q19; obtain ⟨hy22_, hz22_⟩ := Kd.R_celln 0 HO_0.out ((ji16) : Int) (of_decide_eq_true (by first | (with_reducible assumption) | assumption)) (of_decide_eq_true (by first | (with_reducible assumption) | assumption)); have HP22 := Kd.R_putg HO_0.out ((ji16) : Int) (bt (⟨#[48, 49, 50, 51, 52, 53, 54, 55, 56, 57, 97, 98, 99, 100, 101, 102]⟩ : ByteArray) (Go.bits .and .u8 (rd l1 x10_1) 15))) | ((with_reducible refine gate_store (t := 5) (p := 26) rfl ?_); refine store_event (t := 5) (p := 26) (v := ?vo_w23) (w1 := (w21.setCell ⟨go12, ((ji16) : Int).toNat, none⟩ (.int .u8 (bt (⟨#[48, 49, 50, 51, 52, 53, 54, 55, 56, 57, 97, 98, 99, 100, 101, 102]⟩ : ByteArray) (Go.bits .and .u8 (rd l1 x10_1) 15))))) ?hg ?ho ?hn ?hr ?_; (case ho => rfl); (case hg => rfl); (case hn => rfl); (case hr => first | (go_simp; done) | (go_simp; rfl)); intro w23 hw; have hg : w21.grownBy w23 (some go12) := (by rw [hw]; exact HP22.2); have hp_ : Kd.R (Kd.int .u8) 5 w23 w0.heap.size (fun k_ => (P0_ k_ ∨ w.heap.size ≤ k_)) (.slice (some ⟨go12, 0, none⟩) x0_1.length co12) y278 := (by rw [hw, Ny278.out]; exact HP22.1); clear HP22; have n0_ := Aside0.mk (hp_); have n1_ := Aside0.mk ((by rw [hw]; exact below_set (HB.out) GB12.out : Below w0.heap.size w0 w23)); have n2_ := Aside0.mk (Kept.of_grown (S := (fun k_ => P0_ k_)) hg (by repeat (first | (with_reducible first | exact HK.out | apply Kept.alloc | apply Kept.drewN | apply Kept.drew) | exact HK.out)) (fun k_ e_ => (HO_0.out.1 k_ e_))); clear HO_0; clear HB; clear HK; have HO_0 := n0_; have HB := n1_; have HK := n2_; clear n0_ n1_ n2_; clear hg hw hp_))
                            go_roundg k1
                            case measure => have := HK1.out; omega
                            case rel => exact ⟨(y278), (wrap64 (x5_1 + 2)), (wrap64 (x10_1 + 1)), (by first | rfl | (simp; done) | (simp [*]; done)), (by first | rfl | (simp; done) | (simp [*]; done)), H', ⟨by have := HK1.out; omega⟩, ⟨by (with_reducible repeat (first | apply Kd.R_alloc | apply Kd.R_drewN | apply Kd.R_drew)); exact HO_0.out⟩, ⟨by repeat (first | (with_reducible first | exact HK.out | apply Kept.alloc | apply Kept.drewN | apply Kept.drew) | exact HK.out)⟩, ⟨by repeat (first | (with_reducible first | exact HB.out | apply below_alloc | apply pw_below_drewN | apply below_drew1) | exact HB.out)⟩⟩
                          · rw [if_neg c18] at H
                            exact absurd H (by simp)
                        · rw [if_neg c17] at H
                          exact absurd H (by simp)
                      · rw [if_neg c14] at H
                        exact absurd H (by simp)
                    · rw [if_neg c13] at H
                      exact absurd H (by simp)
                  · rw [if_neg c11] at H
                    exact absurd H (by simp)
                · rw [if_neg c10] at H
                  exact absurd H (by simp)
              · rw [if_neg c8] at H
                exact absurd H (by simp)
            · rw [if_neg c7] at H
              exact absurd H (by simp)
          · rw [if_neg c5] at H
            exact absurd H (by simp)
        · rw [if_neg c4] at H
          exact absurd H (by simp)
      · rw [if_neg c3] at H
        have c3b0 : decide (x10_1 < (l1.length : Int)) = false := decide_eq_false c3
        clear c3
        simp only [Option.some.injEq, Prod.mk.injEq] at H
        obtain ⟨rfl, rfl⟩ := H
        go_wp2
        go_ret
        exact ⟨by first | rfl | (simp [errW_none, errW_some] <;> rfl) | (simp [*, errW_none, errW_some] <;> rfl), by (with_reducible repeat (first | apply Kd.R_alloc | apply Kd.R_drewN | apply Kd.R_drew)); exact HO_0.out, by repeat (first | (with_reducible first | exact HB.out | apply below_alloc | apply pw_below_drewN | apply below_drew1) | exact HB.out), by repeat (first | (with_reducible first | exact HK.out | apply Kept.alloc | apply Kept.drewN | apply Kept.drew) | exact HK.out)⟩

/-! ### hex_EncodeToString: function 73 -/
def hex_EncodeToString.f (k : Nat) (l0 : List Int) : Option (ByteArray) := (hex_EncodedLen.f (l0.length : Int)).bind fun t279 => (if 0 ≤ t279 then (if (t279 : Int).toNat ≤ 281474976710656 then ((hex_Encode.f k (List.replicate (t279 : Int).toNat 0) l0).bind fun bt283 => (some (strOfNums bt283.2))) else (none)) else (none))
set_option maxHeartbeats 8000000 in
set_option maxRecDepth 100000 in
theorem hex_EncodeToString.calls (k : Nat) (A0 : Option Addr) (c0 : Nat) (l0 : List Int) (r : ByteArray) (w : World) (hr0 : Kd.C (Kd.int .u8) w A0 l0.length l0) (hc0 : l0.length ≤ c0) (h : hex_EncodeToString.f k l0 = some r) :
    Calls Tryz.prog 73 #[.slice A0 l0.length c0] w fun e w' => e = .returned (.string r) ∧ Below w.heap.size w w' := by
  have HR0 := Aside0.mk hr0
  have HC0 := Aside0.mk hc0
  clear hr0 hc0
  have HB := Aside0.mk (Below.refl w.heap.size w)
  have H : ((hex_EncodedLen.f (l0.length : Int)).bind fun t279 => (if 0 ≤ t279 then (if (t279 : Int).toNat ≤ 281474976710656 then ((hex_Encode.f k (List.replicate (t279 : Int).toNat 0) l0).bind fun bt283 => (some (strOfNums bt283.2))) else (none)) else (none))) = some r := h
  clear h
  replace H := Option.bind_eq_some_iff.mp H
  obtain ⟨t279, A20, H⟩ := H
  replace H : (if 0 ≤ t279 then (if (t279 : Int).toNat ≤ 281474976710656 then ((hex_Encode.f k (List.replicate (t279 : Int).toNat 0) l0).bind fun bt283 => (some (strOfNums bt283.2))) else (none)) else (none)) = some r := H
  have A2 := Aside0.mk A20
  clear A20
  by_cases c3 : 0 ≤ t279
  · rw [if_pos c3] at H
    have c3b0 := eq_true c3
    have c3b1 : decide (0 ≤ t279) = true := decide_eq_true c3
    clear c3
    by_cases c4 : (t279 : Int).toNat ≤ 281474976710656
    · rw [if_pos c4] at H
      have c4b0 := eq_true c4
      have c4b1 : decide ((t279 : Int).toNat ≤ 281474976710656) = true := decide_eq_true c4
      clear c4
      obtain ⟨y280, hy280⟩ : ∃ y_ : List Int, y_ = (List.replicate (t279 : Int).toNat 0) := ⟨_, rfl⟩
      replace H : ((hex_Encode.f k y280 l0).bind fun bt283 => (some (strOfNums bt283.2))) = some r := by first | (rw [hy280]; with_reducible exact H) | (have H2_ := (Option.bind_some _ _).symm.trans H; rw [hy280]; with_reducible exact H2_) | (have H2_ := (Option.bind_some _ _).symm.trans H; with_reducible exact H2_) | with_reducible exact H | (rw [hy280]; exact H) | exact H
      have Ny280 := Aside0.mk hy280
      clear hy280
      replace H := Option.bind_eq_some_iff.mp H
      obtain ⟨⟨t283, t284⟩, A50, H⟩ := H
      replace H : (some (strOfNums t284)) = some r := H
      have A5 := Aside0.mk A50
      clear A50
      obtain rfl := Option.some.inj H
      go_enter Tryz.func73, Tryz.ntmps73
      go_wp2_with (first | ((with_reducible refine gate_callee (f := 81) rfl ?_); refine goesL_ (some 6) rfl rfl Tryz.func81 (by kernel_rfl) rfl #[.int .i64 (l0.length : Int)] rfl (by (try simp only [List.map_toArray, List.map_cons, List.map_nil]); first | done | rfl | (simp only [List.length_drop, List.length_take]; rfl)) ?_; (with_reducible refine (hex_EncodedLen.calls (l0.length : Int) t279 _ A2.out).mono ?_); rintro e w' ⟨rfl, ⟨nd, rfl⟩⟩; refine ⟨_, rfl, ?_⟩) | ((with_reducible refine gate_dst (N := 7) rfl ?_); refine Kd.R_make (Kd.int .u8) _ 5 rfl (N := 7) rfl 24 _ _ rfl t279 rfl rfl Tryz.underlying24 (.int .u8 0) 1 info5 rfl (by decide) (by omega) 0 (ok := fun _ => True) (okp := fun _ => True) rfl (fun _ hk => hk) trivial (of_decide_eq_true (by first | (with_reducible assumption) | assumption)) (Nat.le_trans (Nat.mul_le_mul_right _ (of_decide_eq_true (by first | (with_reducible assumption) | assumption) : t279.toNat ≤ 281474976710656)) (by omega)) (Below.refl _ _) (Nat.le_refl _) ?_; intro v281 w6 ho7 hb hg_ hnew_; clear hg_ hnew_; (first | rw [← Ny280.out] at ho7 | (simp only [Int.reduceToNat] at ho7; rw [← Ny280.out] at ho7)); have n0_ := Aside0.mk (Kd.R_lower ho7 (below_size (by repeat (first | (with_reducible first | exact HB.out | apply below_alloc | apply pw_below_drewN | apply below_drew1) | exact HB.out)))); have n1_ := Aside0.mk (below_step (by repeat (first | (with_reducible first | exact HB.out | apply below_alloc | apply pw_below_drewN | apply below_drew1) | exact HB.out)) hb); clear HB; have HO282 := n0_; have HB := n1_; clear n0_ n1_; clear hb ho7; obtain ⟨Ao8, co8, eo8⟩ := Kd.R_slice HO282.out; subst eo8) | ((with_reducible refine gate_callee (f := 82) rfl ?_); refine goesL_ (some 10) rfl rfl Tryz.func82 (by kernel_rfl) rfl #[.slice Ao8 y280.length co8, .slice A0 l0.length c0] rfl (by (try simp only [List.map_toArray, List.map_cons, List.map_nil]); first | done | rfl | (simp only [List.length_drop, List.length_take]; rfl)) ?_; (with_reducible refine (hex_Encode.calls k (fun k_ => some k_ = (.slice Ao8 y280.length co8 : Value).ownBlock) (.slice Ao8 y280.length co8) y280 _ _ l0 t283 t284 w _ ?side1 ?side2 ?side3 ?side4 A5.out).mono ?_); (case side1 => repeat (first | (with_reducible first | exact HB.out | apply below_alloc | apply pw_below_drewN | apply below_drew1) | exact HB.out)); (case side2 => exact Kd.R_tight rfl HO282.out); (case side3 => exact Kd.C_kept_came (Kd.heap_int .u8) HR0.out (by repeat (first | (with_reducible first | exact HB.out | apply below_alloc | apply pw_below_drewN | apply below_drew1) | exact HB.out)) (fun k_ hs_ => (fun e_ => Kd.R_base HO282.out k_ e_.symm) hs_)); (case side4 => exact HC0.out); rintro e w9 ⟨rfl, hy0, hb, hkp⟩; refine ⟨_, rfl, ?_⟩; have n0_ := Aside0.mk (Kd.R_reok rfl hy0 (fun k_ e_ => HO282.out.1 k_ e_)); have n1_ := Aside0.mk (hb); clear HO282; clear HB; have HO282 := n0_; have HB := n1_; clear n0_ n1_; (try clear hb); (try clear hkp); (try clear hy0); have hcv10 := own_string (P := Tryz.prog) Tryz.underlying24 Tryz.underlying5 Tryz.underlying9 (Kd.own_of_R HO282.out)))
      go_ret
      exact ⟨by first | rfl | (simp [errW_none, errW_some] <;> rfl) | (simp [*, errW_none, errW_some] <;> rfl), by repeat (first | (with_reducible first | exact HB.out | apply below_alloc | apply pw_below_drewN | apply below_drew1) | exact HB.out)⟩
    · rw [if_neg c4] at H
      exact absurd H (by simp)
  · rw [if_neg c3] at H
    exact absurd H (by simp)

end Go.Proofs.YtllikhbafaohgaaGreatDoor.PFnIdxSum
