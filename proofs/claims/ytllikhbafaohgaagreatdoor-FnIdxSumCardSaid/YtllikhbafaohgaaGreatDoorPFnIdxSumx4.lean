-- PRINTED BY print.sh 35421559b90ae4d0a3588c463048766b98c2df88dd9212a6774a882060cdf62d: not written by this session
import Derived.Test.YtllikhbafaohgaaGreatDoorPFnIdxSumx0
namespace Go.Proofs.YtllikhbafaohgaaGreatDoor.PFnIdxSum
open Go.RowKit Go.Proofs.YtllikhbafaohgaaGreatDoorW.PrintWords Go.Proofs.YtllikhbafaohgaaGreatDoorW.PrintLast Go.Proofs.YtllikhbafaohgaaGreatDoorW.PrintMore
attribute [local go_sem] max2_int min2_int max_two min_two max_three min_three max_four min_four   -- for this text's walks alone
set_option linter.unusedVariables false
set_option linter.unusedSimpArgs false

/-! ### spec_Put32: function 12 -/
def spec_Put32.f (a0 : Int) : Option (List Int) := some (([(a0 / 16777216) % 256, (a0 / 65536) % 256, (a0 / 256) % 256, (a0) % 256] : List Int))
set_option maxHeartbeats 8000000 in
set_option maxRecDepth 100000 in
theorem spec_Put32.calls (a0 : Int) (r : List Int) (w : World) (h : spec_Put32.f a0 = some r) :
    Calls Tryz.prog 12 #[.int .u32 a0] w fun e w' => ∃ v0_ : Value, e = .returned (v0_) ∧ Kd.R (Kd.int .u8) 5 w' w.heap.size (fun _ => True) v0_ r ∧ Below w.heap.size w w' := by
  have HB := Aside0.mk (Below.refl w.heap.size w)
  have H : (some (([(a0 / 16777216) % 256, (a0 / 65536) % 256, (a0 / 256) % 256, (a0) % 256] : List Int))) = some r := h
  clear h
  obtain ⟨y120, hy120⟩ : ∃ y_ : List Int, y_ = (([(a0 / 16777216) % 256, (a0 / 65536) % 256, (a0 / 256) % 256, (a0) % 256] : List Int)) := ⟨_, rfl⟩
  replace H : (some y120) = some r := by first | (rw [hy120]; with_reducible exact H) | (have H2_ := (Option.bind_some _ _).symm.trans H; rw [hy120]; with_reducible exact H2_) | (have H2_ := (Option.bind_some _ _).symm.trans H; with_reducible exact H2_) | with_reducible exact H | (rw [hy120]; exact H) | exact H
  have Ny120 := Aside0.mk hy120
  clear hy120
  obtain rfl := Option.some.inj H
  go_enter Tryz.func12, Tryz.ntmps12
  go_wp2_with (first | ((with_reducible refine gate_dst (N := 14) rfl ?_); refine Kd.R_lit (Kd.int .u8) _ 5 ?hg (N := 14) ?hd (xs := ([(a0 / 16777216) % 256, (a0 / 65536) % 256, (a0 / 256) % 256, (a0) % 256] : List Int)) (inner := [.int .u8 ((a0 / 16777216) % 256), .int .u8 ((a0 / 65536) % 256), .int .u8 ((a0 / 256) % 256), .int .u8 ((a0) % 256)]) (ok := fun _ => True) (okp := fun _ => True) ?hr ?hp (fun _ hk => hk) trivial (Below.refl _ _) (Nat.le_refl _) (by simp) ?_; (case hd => rfl); (case hg => rfl); (case hr => first | (go_simp; done) | (go_simp; rfl)); (case hp => exact (Reps.one (show Kd.M (Kd.int .u8) _ _ _ ((a0 / 16777216) % 256) [.int .u8 ((a0 / 16777216) % 256)] from rfl) (Reps.one (show Kd.M (Kd.int .u8) _ _ _ ((a0 / 65536) % 256) [.int .u8 ((a0 / 65536) % 256)] from rfl) (Reps.one (show Kd.M (Kd.int .u8) _ _ _ ((a0 / 256) % 256) [.int .u8 ((a0 / 256) % 256)] from rfl) (Reps.one (show Kd.M (Kd.int .u8) _ _ _ ((a0) % 256) [.int .u8 ((a0) % 256)] from rfl) (Reps.none _ _)))))); intro v121 w2 ho3 hb hg_ hnew_; clear hg_ hnew_; (first | rw [← Ny120.out] at ho3 | (simp only [Int.reduceToNat] at ho3; rw [← Ny120.out] at ho3)); have n0_ := Aside0.mk (Kd.R_lower ho3 (below_size (by repeat (first | (with_reducible first | exact HB.out | apply below_alloc | apply pw_below_drewN | apply below_drew1) | exact HB.out)))); have n1_ := Aside0.mk (below_step (by repeat (first | (with_reducible first | exact HB.out | apply below_alloc | apply pw_below_drewN | apply below_drew1) | exact HB.out)) hb); clear HB; have HO122 := n0_; have HB := n1_; clear n0_ n1_; clear hb ho3))
  go_ret
  exact ⟨_, by first | rfl | (simp [errW_none, errW_some] <;> rfl) | (simp [*, errW_none, errW_some] <;> rfl), by (with_reducible repeat (first | apply Kd.R_alloc | apply Kd.R_drewN | apply Kd.R_drew)); exact HO122.out, by repeat (first | (with_reducible first | exact HB.out | apply below_alloc | apply pw_below_drewN | apply below_drew1) | exact HB.out)⟩

/-! ### spec_Big32: function 19 -/
/-! ### spec_turn: function 20 -/

/-! ### spec_stampBytes: function 22 -/
def spec_stampBytes.f (a0_0 : Int) (a0_1 : Int) : Option (List Int) := (spec_Put32.f ((a0_0) % 4294967296)).bind fun t143 => ((spec_Put32.f ((a0_1) % 4294967296)).bind fun t146 => (if t143.length + t146.length < 140737488355328 then (some (t143 ++ t146)) else (none)))
def spec_stampBytes.T1 : Bool × List (List Nat × List Nat) := (true, [([], []), ([0], [0]), ([1], [1]), ([2], [2]), ([], []), ([4], [4]), ([5], [5]), ([6, 3], [6]), ([3, 7, 7], [3, 7]), ([8, 8, 0, 1, 2, 3, 4, 5, 6, 7, 8], [8])])
def spec_stampBytes.B1 : List Nat := [0, 1, 3, 7, 0, 16, 48, 127, 255, 511]
theorem spec_stampBytes.tab1 : rtab .any (opsOf Tryz.f22 1) = spec_stampBytes.T1 := by kernel_rfl
theorem spec_stampBytes.bits1 : waitsOk spec_stampBytes.T1.2 spec_stampBytes.B1 = true := by kernel_rfl
set_option maxHeartbeats 8000000 in
set_option maxRecDepth 100000 in
theorem spec_stampBytes.calls (a0_0 : Int) (a0_1 : Int) (r : List Int) (w : World) (h : spec_stampBytes.f a0_0 a0_1 = some r) :
    Calls Tryz.prog 22 #[.agg #[.int .i64 a0_0, .int .i64 a0_1]] w fun e w' => ∃ v0_ : Value, e = .returned (v0_) ∧ Kd.R (Kd.int .u8) 5 w' w.heap.size (fun _ => True) v0_ r ∧ Below w.heap.size w w' := by
  have hu33 := Tryz.underlying33
  have HB := Aside0.mk (Below.refl w.heap.size w)
  have H : ((spec_Put32.f ((a0_0) % 4294967296)).bind fun t143 => ((spec_Put32.f ((a0_1) % 4294967296)).bind fun t146 => (if t143.length + t146.length < 140737488355328 then (some (t143 ++ t146)) else (none)))) = some r := h
  clear h
  replace H := Option.bind_eq_some_iff.mp H
  obtain ⟨t143, A20, H⟩ := H
  replace H : ((spec_Put32.f ((a0_1) % 4294967296)).bind fun t146 => (if t143.length + t146.length < 140737488355328 then (some (t143 ++ t146)) else (none))) = some r := H
  have A2 := Aside0.mk A20
  clear A20
  replace H := Option.bind_eq_some_iff.mp H
  obtain ⟨t146, A30, H⟩ := H
  replace H : (if t143.length + t146.length < 140737488355328 then (some (t143 ++ t146)) else (none)) = some r := H
  have A3 := Aside0.mk A30
  clear A30
  by_cases c4 : t143.length + t146.length < 140737488355328
  · rw [if_pos c4] at H
    have LMc4 := Aside0.mk c4
    clear c4
    obtain ⟨y149, hy149⟩ : ∃ y_ : List Int, y_ = (t143 ++ t146) := ⟨_, rfl⟩
    replace H : (some y149) = some r := by first | (rw [hy149]; with_reducible exact H) | (have H2_ := (Option.bind_some _ _).symm.trans H; rw [hy149]; with_reducible exact H2_) | (have H2_ := (Option.bind_some _ _).symm.trans H; with_reducible exact H2_) | with_reducible exact H | (rw [hy149]; exact H) | exact H
    have Ny149 := Aside0.mk hy149
    clear hy149
    obtain rfl := Option.some.inj H
    go_enter Tryz.func22, Tryz.ntmps22
    try go_wp2_with (first | ((with_reducible refine gate_dst (N := 1) rfl ?_); refine box_event ?hg (N := 1) ?hd (cs := #[.int .i64 a0_0, .int .i64 a0_1]) (t := 33) ?hr ?_; (case hd => rfl); (case hg => rfl); (case hr => first | (go_simp; done) | (go_simp; rfl)); intro gb142 hg w5 hbox hb; have n0_ := Aside0.mk (below_step (by repeat (first | (with_reducible first | exact HB.out | apply below_alloc | apply pw_below_drewN | apply below_drew1) | exact HB.out)) hb); have n1_ := Aside0.mk (hbox); have n2_ := Aside0.mk ((by rw [hg]; exact (below_size (by repeat (first | (with_reducible first | exact HB.out | apply below_alloc | apply pw_below_drewN | apply below_drew1) | exact HB.out))) : w.heap.size ≤ gb142)); have n3_ := Aside0.mk ((by rw [hg]; exact (below_size (by repeat (first | (with_reducible first | exact HB.out | apply below_alloc | apply pw_below_drewN | apply below_drew1) | exact HB.out))) : w.heap.size ≤ gb142)); clear HB; have HB := n0_; have BK142 := n1_; have GW142 := n2_; have GE142 := n3_; clear n0_ n1_ n2_ n3_; clear hb hbox hg))
    have n0_ := Aside0.mk (blk_drew BK142.out)
    have n1_ := Aside0.mk (below_drew1 HB.out)
    clear BK142
    clear HB
    have BK142 := n0_
    have HB := n1_
    clear n0_ n1_
    refine start_ (n := 10) (S := fun w' => w'.cell? ⟨gb142, 0, none⟩ = some (.int .i64 a0_0) ∧ w'.cell? ⟨gb142, 1, none⟩ = some (.int .i64 a0_1)) (ds := []) #[false, false, false, false, false, false, false, false, false, false] (by kernel_rfl) rfl rfl ⟨(blk_cell BK142.out 0).trans rfl, (blk_cell BK142.out 1).trans rfl⟩ (fun hHeld => ?_); refine with_tabW spec_stampBytes.tab1 spec_stampBytes.bits1 (fun HT_ HW_ => ?_)
    generalize w5.drew = w6 at BK142 HB hHeld ⊢
    refine pure_ (i := 0) (N := some 3) (v := ?_) (a' := ?_) #[true, false, false, false, false, false, false, false, false, false] rfl rfl (any_of HT_.out (by kernel_rfl)) (fun _ _ _ h => h) (Or.inl ⟨by rfl, ?_⟩) ?_ ?_
    rotate_left
    · intro w'
      go_simp
      with_reducible rfl
    rotate_left
    · simp only [Act.put, List.setIfInBounds_toArray, List.set_cons_zero, List.set_cons_succ, i64_w, i32_w]
      rfl
    refine pure_ (i := 4) (N := some 7) (v := ?_) (a' := ?_) #[true, false, false, false, true, false, false, false, false, false] rfl rfl (any_of HT_.out (by kernel_rfl)) (fun _ _ _ h => h) (Or.inl ⟨by rfl, ?_⟩) ?_ ?_
    rotate_left
    · intro w'
      go_simp
      with_reducible rfl
    rotate_left
    · simp only [Act.put, List.setIfInBounds_toArray, List.set_cons_zero, List.set_cons_succ, i64_w, i32_w]
      rfl
    refine take_ (i := 1) (N := some 4) (v := ?_) (a' := ?_) #[true, true, false, false, true, false, false, false, false, false] rfl rfl (take_ofW HT_.out HW_.out (by kernel_rfl)) (fun _ _ _ h => h) (Or.inl ⟨by rfl, ?_⟩) hHeld ?_ ?_
    rotate_left
    · rintro w' ⟨s0, s1⟩
      go_simp
      with_reducible rfl
    rotate_left
    · simp only [Act.put, List.setIfInBounds_toArray, List.set_cons_zero, List.set_cons_succ, i64_w, i32_w]
      rfl
    refine pure_ (i := 2) (N := some 5) (v := ?_) (a' := ?_) #[true, true, true, false, true, false, false, false, false, false] rfl rfl (any_of HT_.out (by kernel_rfl)) (fun _ _ _ h => h) (Or.inl ⟨by rfl, ?_⟩) ?_ ?_
    rotate_left
    · intro w'
      go_simp
      with_reducible rfl
    rotate_left
    · simp only [Act.put, List.setIfInBounds_toArray, List.set_cons_zero, List.set_cons_succ, i64_w, i32_w]
      rfl
    refine take_ (i := 5) (N := some 8) (v := ?_) (a' := ?_) #[true, true, true, false, true, true, false, false, false, false] rfl rfl (take_ofW HT_.out HW_.out (by kernel_rfl)) (fun _ _ _ h => h) (Or.inl ⟨by rfl, ?_⟩) hHeld ?_ ?_
    rotate_left
    · rintro w' ⟨s0, s1⟩
      go_simp
      with_reducible rfl
    rotate_left
    · simp only [Act.put, List.setIfInBounds_toArray, List.set_cons_zero, List.set_cons_succ, i64_w, i32_w]
      rfl
    refine pure_ (i := 6) (N := some 9) (v := ?_) (a' := ?_) #[true, true, true, false, true, true, true, false, false, false] rfl rfl (any_of HT_.out (by kernel_rfl)) (fun _ _ _ h => h) (Or.inl ⟨by rfl, ?_⟩) ?_ ?_
    rotate_left
    · intro w'
      go_simp
      with_reducible rfl
    rotate_left
    · simp only [Act.put, List.setIfInBounds_toArray, List.set_cons_zero, List.set_cons_succ, i64_w, i32_w]
      rfl
    refine one_ (i := 3) (N := some 6) #[true, true, true, true, true, true, true, false, false, false] rfl rfl (one_of HT_.out (by kernel_rfl)) (by decide) (fun K hK => ?_)
    refine goes_ Tryz.func12 (by kernel_rfl) rfl #[.int .u32 ((a0_0) % 4294967296)] (by rfl) rfl rfl (by (try simp only [List.map_toArray, List.map_cons, List.map_nil]); first | done | rfl | (simp only [List.length_drop, List.length_take]; rfl)) ?_
    with_reducible refine (spec_Put32.calls ((a0_0) % 4294967296) t143 _ A2.out).mono ?_
    rintro e w7 ⟨v144, rfl, ho0, hb⟩
    refine ⟨_, rfl, ?_⟩
    have n0_ := Aside0.mk (Kd.R_lower ho0 (below_size (by repeat (first | (with_reducible first | exact HB.out | apply below_alloc | apply pw_below_drewN | apply below_drew1 | refine below_set ?_ GE142.out) | exact HB.out))))
    have n1_ := Aside0.mk (blk_below (g := gb142) (o := .cells #[.int .i64 a0_0, .int .i64 a0_1] 33 (0, 0)) (by (with_reducible repeat (first | refine blk_drewN ?_ _ | refine blk_drew ?_ | refine blk_alloc ?_ _)); exact BK142.out) hb)
    have n2_ := Aside0.mk (below_step (by repeat (first | (with_reducible first | exact HB.out | apply below_alloc | apply pw_below_drewN | apply below_drew1 | refine below_set ?_ GE142.out) | exact HB.out)) hb)
    clear BK142
    clear HB
    have HO145 := n0_
    have BK142 := n1_
    have HB := n2_
    clear n0_ n1_ n2_
    (try clear hb)
    (try clear hb2)
    (try clear hk)
    (try clear hi)
    (try clear ho0)
    refine hK.out _ _ ⟨(blk_cell BK142.out 0).trans rfl, (blk_cell BK142.out 1).trans rfl⟩ (fun hHeld => ?_)
    clear hK K
    refine norm_ (a' := ?_) ?_ ?_
    rotate_left
    · show Act.put _ (some 6) _ = _
      simp only [Act.put, List.setIfInBounds_toArray, List.set_cons_zero, List.set_cons_succ, i64_w, i32_w]
      rfl
    refine one_ (i := 7) (N := some 10) #[true, true, true, true, true, true, true, true, false, false] rfl rfl (one_of HT_.out (by kernel_rfl)) (by decide) (fun K hK => ?_)
    refine goes_ Tryz.func12 (by kernel_rfl) rfl #[.int .u32 ((a0_1) % 4294967296)] (by rfl) rfl rfl (by (try simp only [List.map_toArray, List.map_cons, List.map_nil]); first | done | rfl | (simp only [List.length_drop, List.length_take]; rfl)) ?_
    with_reducible refine (spec_Put32.calls ((a0_1) % 4294967296) t146 _ A3.out).mono ?_
    rintro e w8 ⟨v147, rfl, ho0, hb⟩
    refine ⟨_, rfl, ?_⟩
    have n0_ := Aside0.mk (Kd.R_elder' (by (with_reducible repeat (first | apply Kd.R_alloc | apply Kd.R_drewN | apply Kd.R_drew)); exact HO145.out) (Kd.R_base ho0) hb)
    have n1_ := Aside0.mk (Kd.R_lower (Kd.R_new' ho0 (Kd.R_lt (by (with_reducible repeat (first | apply Kd.R_alloc | apply Kd.R_drewN | apply Kd.R_drew)); exact HO145.out))) (below_size (by repeat (first | (with_reducible first | exact HB.out | apply below_alloc | apply pw_below_drewN | apply below_drew1 | refine below_set ?_ GE142.out) | exact HB.out))))
    have n2_ := Aside0.mk (blk_below (g := gb142) (o := .cells #[.int .i64 a0_0, .int .i64 a0_1] 33 (0, 0)) (by (with_reducible repeat (first | refine blk_drewN ?_ _ | refine blk_drew ?_ | refine blk_alloc ?_ _)); exact BK142.out) hb)
    have n3_ := Aside0.mk (below_step (by repeat (first | (with_reducible first | exact HB.out | apply below_alloc | apply pw_below_drewN | apply below_drew1 | refine below_set ?_ GE142.out) | exact HB.out)) hb)
    clear HO145
    clear BK142
    clear HB
    have HO145 := n0_
    have HO148 := n1_
    have BK142 := n2_
    have HB := n3_
    clear n0_ n1_ n2_ n3_
    (try clear hb)
    (try clear hb2)
    (try clear hk)
    (try clear hi)
    (try clear ho0)
    obtain ⟨Ao10, co10, eo10⟩ := Kd.R_slice HO148.out
    (first | subst eo10 | (injection eo10 with f1_ f2_ f3_; have f4_ := f1_.symm; have f5_ := f3_.symm; clear f1_ f2_ f3_; subst f4_; subst f5_))
    refine hK.out _ _ ⟨(blk_cell BK142.out 0).trans rfl, (blk_cell BK142.out 1).trans rfl⟩ (fun hHeld => ?_)
    clear hK K
    refine norm_ (a' := ?_) ?_ ?_
    rotate_left
    · show Act.put _ (some 10) _ = _
      simp only [Act.put, List.setIfInBounds_toArray, List.set_cons_zero, List.set_cons_succ, i64_w, i32_w]
      rfl
    refine one_ (i := 8) (N := some 11) #[true, true, true, true, true, true, true, true, true, false] rfl rfl (one_of HT_.out (by kernel_rfl)) (by decide) (fun K hK => ?_)
    refine Kd.R_append_rows_step (Kd.int .u8) (w0 := w) w.heap.size (by rfl) (.tmp 6) (.tmp 10) 24 5 (.int .u8 0) 1 rfl Tryz.underlying24 info5 rfl (by decide) (by omega) v144 t143 t146 _ _ _ (fun k_ => some k_ ≠ (.slice Ao10 t146.length co10 : Value).ownBlock) (fun _ => False) rfl rfl ?aO ?aR (fun _ _ h => h) (fun _ h => h.elim) ?aF ?aB ?aS ?aL ?_
    (case aR => repeat (first | exact (Kd.R_reads' HO148.out).2.2 | (with_reducible refine Kd.C_alloc ?_ _) | (with_reducible refine Kd.C_drewN ?_ _) | (with_reducible refine Kd.C_drew ?_)))
    (case aB => exact (by repeat (first | (with_reducible first | exact HB.out | apply below_alloc | apply pw_below_drewN | apply below_drew1 | refine below_set ?_ GE142.out) | exact HB.out)))
    (case aF => exact (fun k_ hk => Kd.fresh' (Kd.R_lt (by (with_reducible repeat (first | apply Kd.R_alloc | apply Kd.R_drewN | apply Kd.R_drew)); exact HO148.out)) k_ hk))
    (case aO => exact (by (with_reducible repeat (first | apply Kd.R_alloc | apply Kd.R_drewN | apply Kd.R_drew)); exact Kd.R_mono HO145.out (fun _ hk => hk.2)))
    (case aS => exact (below_size (by repeat (first | (with_reducible first | exact HB.out | apply below_alloc | apply pw_below_drewN | apply below_drew1 | refine below_set ?_ GE142.out) | exact HB.out))))
    (case aL => have := LMc4.out; omega)
    intro v150 w9 ho hb hg hat
    rw [← Ny149.out] at ho
    have n0_ := Aside0.mk (blk_grown (g := gb142) (o := .cells #[.int .i64 a0_0, .int .i64 a0_1] 33 (0, 0)) (by (with_reducible repeat (first | refine blk_drewN ?_ _ | refine blk_drew ?_ | refine blk_alloc ?_ _)); exact BK142.out) hg (Kd.R_ne HO145.out BK142.out (by decide)))
    have n1_ := Aside0.mk (Kd.R_after (ok := (fun _ => True)) (by (with_reducible repeat (first | apply Kd.R_alloc | apply Kd.R_drewN | apply Kd.R_drew)); exact HO148.out) hg hat)
    have n2_ := Aside0.mk (hb)
    have n3_ := Aside0.mk (ho)
    clear BK142
    clear HO148
    clear HB
    clear HO145
    have BK142 := n0_
    have HO148 := n1_
    have HB := n2_
    have HO151 := n3_
    clear n0_ n1_ n2_ n3_
    clear ho hb hg hat
    refine hK.out _ _ ⟨(blk_cell BK142.out 0).trans rfl, (blk_cell BK142.out 1).trans rfl⟩ (fun hHeld => ?_)
    clear hK K
    refine norm_ (a' := ?_) ?_ ?_
    rotate_left
    · show Act.put _ (some 11) _ = _
      simp only [Act.put, List.setIfInBounds_toArray, List.set_cons_zero, List.set_cons_succ, i64_w, i32_w]
      rfl
    refine pure_ (i := 9) (N := some 2) (v := ?_) (a' := ?_) #[true, true, true, true, true, true, true, true, true, true] rfl rfl (any_of HT_.out (by kernel_rfl)) (fun _ _ _ h => h) (Or.inl ⟨by rfl, ?_⟩) ?_ ?_
    rotate_left
    · intro w'
      go_simp
      with_reducible rfl
    rotate_left
    · simp only [Act.put, List.setIfInBounds_toArray, List.set_cons_zero, List.set_cons_succ, i64_w, i32_w]
      rfl
    refine done_ (done_of HT_.out (by kernel_rfl)) ?_
    try go_wp2
    go_ret
    exact ⟨_, by first | rfl | (simp [errW_none, errW_some] <;> rfl) | (simp [*, errW_none, errW_some] <;> rfl), by (with_reducible repeat (first | apply Kd.R_alloc | apply Kd.R_drewN | apply Kd.R_drew)); exact Kd.R_mono HO151.out (fun _ hk => trivial), by repeat (first | (with_reducible first | exact HB.out | apply below_alloc | apply pw_below_drewN | apply below_drew1 | refine below_set ?_ GE142.out) | exact HB.out)⟩
  · rw [if_neg c4] at H
    exact absurd H (by simp)

/-! ### spec_digit: function 37 -/
def spec_digit.f (a0 : Int) : Option (Int) := if a0 ≥ 97 then (some ((((a0 - 97) % 256) + 10) % 256)) else (some ((a0 - 48) % 256))
set_option maxHeartbeats 8000000 in
set_option maxRecDepth 100000 in
theorem spec_digit.calls (a0 : Int) (r : Int) (w : World) (h : spec_digit.f a0 = some r) :
    Calls Tryz.prog 37 #[.int .u8 a0] w fun e w' => e = .returned (.int .u8 r) ∧ Drawn0 w w' := by
  have H : (if a0 ≥ 97 then (some ((((a0 - 97) % 256) + 10) % 256)) else (some ((a0 - 48) % 256))) = some r := h
  clear h
  by_cases c2 : a0 ≥ 97
  · rw [if_pos c2] at H
    have c2b0 : decide (97 ≤ a0) = true := decide_eq_true c2
    clear c2
    obtain rfl := Option.some.inj H
    go_enter Tryz.func37, Tryz.ntmps37
    go_wp2
    go_ret
    exact ⟨by first | rfl | (simp; done) | (simp [*]; done), by repeat (first | exact Drawn0.refl _ | apply Drawn0.step)⟩
  · rw [if_neg c2] at H
    have c2b0 : decide (97 ≤ a0) = false := decide_eq_false c2
    clear c2
    obtain rfl := Option.some.inj H
    go_enter Tryz.func37, Tryz.ntmps37
    go_wp2
    go_ret
    exact ⟨by first | rfl | (simp; done) | (simp [*]; done), by repeat (first | exact Drawn0.refl _ | apply Drawn0.step)⟩

/-! ### spec_Unhex: function 23 -/
def spec_Unhex.l0 : Nat → ByteArray → List Int → Int → Option (List Int)
  | 0, _, _, _ => none
  | k + 1, x0, x3, x4 => if (wrap64 (x4 + 1)) < (x0.size : Int) then (if 0 ≤ x4 then (if x4 < (x0.size : Int) then ((spec_digit.f (bt x0 x4)).bind fun t152 => (if 0 ≤ (wrap64 (x4 + 1)) then ((spec_digit.f (bt x0 (wrap64 (x4 + 1)))).bind fun t153 => (if x3.length < 140737488355328 then (spec_Unhex.l0 k x0 (x3 ++ [Go.bits .or .u8 ((t152 * 16) % 256) t153]) (wrap64 (x4 + 2))) else (none))) else (none))) else (none)) else (none)) else (some x3)
def spec_Unhex.f (k : Nat) (a0 : ByteArray) : Option (List Int) := spec_Unhex.l0 k a0 ([] : List Int) 0
def spec_Unhex.T5 : Bool × List (List Nat × List Nat) := (true, [([], []), ([], []), ([], []), ([1, 2], [1, 2]), ([3], [3]), ([4], [4]), ([], []), ([], []), ([7], [7]), ([6, 8], [6, 8]), ([9, 4], [9]), ([5, 10], [5, 10]), ([11], [11]), ([0, 12, 10], [0, 12]), ([13, 13, 0, 1, 2, 3, 4, 5, 6, 7, 8, 9, 10, 11, 12, 13], [0, 13])])
def spec_Unhex.B5 : List Nat := [0, 0, 0, 6, 14, 30, 0, 0, 128, 448, 990, 2046, 4094, 8191, 16383]
theorem spec_Unhex.tab5 : rtab .any (opsOf Tryz.f23 5) = spec_Unhex.T5 := by kernel_rfl
theorem spec_Unhex.bits5 : waitsOk spec_Unhex.T5.2 spec_Unhex.B5 = true := by kernel_rfl
set_option maxHeartbeats 8000000 in
set_option maxRecDepth 100000 in
theorem spec_Unhex.calls (k : Nat) (a0 : ByteArray) (r : List Int) (w : World) (h : spec_Unhex.f k a0 = some r) :
    Calls Tryz.prog 23 #[.string a0] w fun e w' => ∃ v0_ : Value, e = .returned (v0_) ∧ Kd.R (Kd.int .u8) 5 w' w.heap.size (fun _ => True) v0_ r ∧ Below w.heap.size w w' := by
  have HB := Aside0.mk (Below.refl w.heap.size w)
  have H : (spec_Unhex.l0 k a0 ([] : List Int) 0) = some r := h
  clear h
  have H' := Aside0.mk H
  clear H
  go_enter Tryz.func23, Tryz.ntmps23
  go_wp2
  go_loopg [3, 4] k (fun kq v3 v4 w' => ∃ (x3_1 : List Int) (x4_1 : Int), v4 = .int .i64 x4_1 ∧ Aside0 (spec_Unhex.l0 kq a0 x3_1 x4_1 = some r) ∧ Aside0 (kq ≤ k) ∧ Aside0 (Kd.R (Kd.int .u8) 5 w' w.heap.size (fun _ => True) v3 x3_1) ∧ Aside0 (Below w.heap.size w w'))
  case atStart => exact ⟨(([] : List Int)), (0), (by first | rfl | (simp; done) | (simp [*]; done)), H', ⟨Nat.le_refl _⟩, ⟨by first | exact Kd.R_nil _ _ _ _ _ | exact Kd.N_nil _ _ _ _ _ | exact Kd.V_nil _ _ _ _ _ | exact Kd.Q_nil _ _ _ _ _ | exact Kd.S_nil _ _ _ _ _⟩, ⟨by repeat (first | (with_reducible first | exact HB.out | apply below_alloc | apply pw_below_drewN | apply below_drew1) | exact HB.out)⟩⟩
  case round =>
    clear H'
    obtain ⟨x3_1, x4_1, rfl, HA, HK1, HO_3, HB⟩ := hrel
    cases gk with
    | zero => exact absurd HA.out (by simp [spec_Unhex.l0])
    | succ k1 =>
      have H := HA.out
      clear HA
      simp only [spec_Unhex.l0] at H
      by_cases c2 : (wrap64 (x4_1 + 1)) < (a0.size : Int)
      · rw [if_pos c2] at H
        have c2b0 : decide ((wrap64 (x4_1 + 1)) < (a0.size : Int)) = true := decide_eq_true c2
        clear c2
        by_cases c3 : 0 ≤ x4_1
        · rw [if_pos c3] at H
          have c3b0 : decide (0 ≤ x4_1) = true := decide_eq_true c3
          clear c3
          by_cases c4 : x4_1 < (a0.size : Int)
          · rw [if_pos c4] at H
            have c4b0 : decide (x4_1 < (a0.size : Int)) = true := decide_eq_true c4
            clear c4
            replace H := Option.bind_eq_some_iff.mp H
            obtain ⟨t152, A60, H⟩ := H
            replace H : (if 0 ≤ (wrap64 (x4_1 + 1)) then ((spec_digit.f (bt a0 (wrap64 (x4_1 + 1)))).bind fun t153 => (if x3_1.length < 140737488355328 then (spec_Unhex.l0 k1 a0 (x3_1 ++ [Go.bits .or .u8 ((t152 * 16) % 256) t153]) (wrap64 (x4_1 + 2))) else (none))) else (none)) = some r := H
            have A6 := Aside0.mk A60
            clear A60
            obtain ⟨ji7, hji7⟩ : ∃ j_ : Int, (wrap64 (x4_1 + 1)) = j_ := ⟨_, rfl⟩
            replace H : (if 0 ≤ (ji7) then ((spec_digit.f (bt a0 (ji7))).bind fun t153 => (if x3_1.length < 140737488355328 then (spec_Unhex.l0 k1 a0 (x3_1 ++ [Go.bits .or .u8 ((t152 * 16) % 256) t153]) (wrap64 (x4_1 + 2))) else (none))) else (none)) = some r := by first | (rw [hji7] at H; exact H) | (simp only [hji7] at H ⊢; exact H)
            (try rw [hji7] at c2b0)
            (try rw [hji7] at A6)
            have hji7w : (IntKind.i64.wrap (x4_1 + 1)) = ji7 := (i64_w _).trans hji7
            by_cases c8 : 0 ≤ (ji7)
            · rw [if_pos c8] at H
              have c8b0 : decide (0 ≤ (ji7)) = true := decide_eq_true c8
              clear c8
              replace H := Option.bind_eq_some_iff.mp H
              obtain ⟨t153, A100, H⟩ := H
              replace H : (if x3_1.length < 140737488355328 then (spec_Unhex.l0 k1 a0 (x3_1 ++ [Go.bits .or .u8 ((t152 * 16) % 256) t153]) (wrap64 (x4_1 + 2))) else (none)) = some r := H
              have A10 := Aside0.mk A100
              clear A100
              by_cases c11 : x3_1.length < 140737488355328
              · rw [if_pos c11] at H
                have LMc11 := Aside0.mk c11
                clear c11
                obtain ⟨y154, hy154⟩ : ∃ y_ : List Int, y_ = (x3_1 ++ [Go.bits .or .u8 ((t152 * 16) % 256) t153]) := ⟨_, rfl⟩
                replace H : (spec_Unhex.l0 k1 a0 y154 (wrap64 (x4_1 + 2))) = some r := by first | (rw [hy154]; with_reducible exact H) | (have H2_ := (Option.bind_some _ _).symm.trans H; rw [hy154]; with_reducible exact H2_) | (have H2_ := (Option.bind_some _ _).symm.trans H; with_reducible exact H2_) | with_reducible exact H | (rw [hy154]; exact H) | exact H
                have Ny154 := Aside0.mk hy154
                clear hy154
                have H' := Aside0.mk H
                clear H
                try go_wp2
                have n0_ := Aside0.mk (Kd.R_drew HO_3.out)
                have n1_ := Aside0.mk (below_drew1 HB.out)
                clear HO_3
                clear HB
                have HO_3 := n0_
                have HB := n1_
                clear n0_ n1_
                have p5 : 0 ≤ (x4_1 : Int) := of_decide_eq_true (by first | (with_reducible assumption) | assumption)
                have q5 : x4_1 < (a0.size : Int) := of_decide_eq_true (by first | (with_reducible assumption) | assumption)
                have hx5 := bt_at a0 x4_1
                replace p5 := eq_true p5
                replace q5 := eq_true q5
                have p9 : 0 ≤ ((ji7) : Int) := of_decide_eq_true (by first | (with_reducible assumption) | assumption)
                have q9 : (ji7) < (a0.size : Int) := of_decide_eq_true (by first | (with_reducible assumption) | assumption)
                have hx9 := bt_at a0 (ji7)
                replace p9 := eq_true p9
                replace q9 := eq_true q9
                refine start_ (n := 15) (S := fun w' => True) (ds := []) #[false, false, false, false, false, false, false, false, false, false, false, false, false, false, false] (by kernel_rfl) rfl rfl trivial (fun hHeld => ?_); refine with_tabW spec_Unhex.tab5 spec_Unhex.bits5 (fun HT_ HW_ => ?_)
                generalize wr.drew = w12 at HO_3 HB hHeld ⊢
                refine pure_ (i := 0) (N := some 12) (v := ?_) (a' := ?_) #[true, false, false, false, false, false, false, false, false, false, false, false, false, false, false] rfl rfl (any_of HT_.out (by kernel_rfl)) (fun _ _ _ h => h) (Or.inl ⟨by rfl, ?_⟩) ?_ ?_
                rotate_left
                · intro w'
                  go_simp
                  with_reducible rfl
                rotate_left
                · simp only [Act.put, List.setIfInBounds_toArray, List.set_cons_zero, List.set_cons_succ, i64_w, i32_w]
                  rfl
                refine pure_ (i := 1) (N := some 13) (v := ?_) (a' := ?_) #[true, true, false, false, false, false, false, false, false, false, false, false, false, false, false] rfl rfl (any_of HT_.out (by kernel_rfl)) (fun _ _ _ h => h) (Or.inl ⟨by rfl, ?_⟩) ?_ ?_
                rotate_left
                · intro w'
                  go_simp
                  with_reducible rfl
                rotate_left
                · simp only [Act.put, List.setIfInBounds_toArray, List.set_cons_zero, List.set_cons_succ, i64_w, i32_w]
                  rfl
                refine pure_ (i := 2) (N := some 14) (v := ?_) (a' := ?_) #[true, true, true, false, false, false, false, false, false, false, false, false, false, false, false] rfl rfl (any_of HT_.out (by kernel_rfl)) (fun _ _ _ h => h) (Or.inl ⟨by rfl, ?_⟩) ?_ ?_
                rotate_left
                · intro w'
                  go_simp
                  with_reducible rfl
                rotate_left
                · simp only [Act.put, List.setIfInBounds_toArray, List.set_cons_zero, List.set_cons_succ, i64_w, i32_w]
                  rfl
                refine pure_ (i := 6) (N := some 18) (v := ?_) (a' := ?_) #[true, true, true, false, false, false, true, false, false, false, false, false, false, false, false] rfl rfl (any_of HT_.out (by kernel_rfl)) (fun _ _ _ h => h) (Or.inl ⟨by rfl, ?_⟩) ?_ ?_
                rotate_left
                · intro w'
                  go_simp
                  with_reducible rfl
                rotate_left
                · simp only [Act.put, List.setIfInBounds_toArray, List.set_cons_zero, List.set_cons_succ, i64_w, i32_w]
                  rfl
                refine pure_ (i := 7) (N := some 19) (v := ?_) (a' := ?_) #[true, true, true, false, false, false, true, true, false, false, false, false, false, false, false] rfl rfl (any_of HT_.out (by kernel_rfl)) (fun _ _ _ h => h) (Or.inl ⟨by rfl, ?_⟩) ?_ ?_
                rotate_left
                · intro w'
                  go_simp
                  with_reducible rfl
                rotate_left
                · simp only [Act.put, List.setIfInBounds_toArray, List.set_cons_zero, List.set_cons_succ, i64_w, i32_w]
                  rfl
                refine pure_ (i := 8) (N := some 20) (v := ?_) (a' := ?_) #[true, true, true, false, false, false, true, true, true, false, false, false, false, false, false] rfl rfl (any_of HT_.out (by kernel_rfl)) (fun _ _ _ h => h) (Or.inl ⟨by rfl, ?_⟩) ?_ ?_
                rotate_left
                · intro w'
                  go_simp
                  with_reducible rfl
                rotate_left
                · simp only [Act.put, List.setIfInBounds_toArray, List.set_cons_zero, List.set_cons_succ, i64_w, i32_w]
                  rfl
                refine take_ (i := 3) (N := some 15) (v := ?_) (a' := ?_) #[true, true, true, true, false, false, true, true, true, false, false, false, false, false, false] rfl rfl (take_ofW HT_.out HW_.out (by kernel_rfl)) (fun _ _ _ h => h) (Or.inl ⟨by rfl, ?_⟩) hHeld ?_ ?_
                rotate_left
                · intro w' _
                  go_simp
                  with_reducible rfl
                rotate_left
                · simp only [Act.put, List.setIfInBounds_toArray, List.set_cons_zero, List.set_cons_succ, i64_w, i32_w]
                  rfl
                refine take_ (i := 9) (N := some 21) (v := ?_) (a' := ?_) #[true, true, true, true, false, false, true, true, true, true, false, false, false, false, false] rfl rfl (take_ofW HT_.out HW_.out (by kernel_rfl)) (fun _ _ _ h => h) (Or.inl ⟨by rfl, ?_⟩) hHeld ?_ ?_
                rotate_left
                · intro w' _
                  go_simp
                  with_reducible rfl
                rotate_left
                · simp only [Act.put, List.setIfInBounds_toArray, List.set_cons_zero, List.set_cons_succ, i64_w, i32_w]
                  rfl
                refine one_ (i := 4) (N := some 16) #[true, true, true, true, true, false, true, true, true, true, false, false, false, false, false] rfl rfl (one_of HT_.out (by kernel_rfl)) (by decide) (fun K hK => ?_)
                refine goes_ Tryz.func37 (by kernel_rfl) rfl #[.int .u8 (bt a0 x4_1)] (by rfl) rfl rfl (by (try simp only [List.map_toArray, List.map_cons, List.map_nil]); first | done | rfl | (simp only [List.length_drop, List.length_take]; rfl)) ?_
                with_reducible refine (spec_digit.calls (bt a0 x4_1) t152 _ A6.out).mono ?_
                rintro e w' ⟨rfl, ⟨nd, rfl⟩⟩
                refine ⟨_, rfl, ?_⟩
                refine hK.out _ _ trivial (fun hHeld => ?_)
                clear hK K
                refine norm_ (a' := ?_) ?_ ?_
                rotate_left
                · show Act.put _ (some 16) _ = _
                  simp only [Act.put, List.setIfInBounds_toArray, List.set_cons_zero, List.set_cons_succ, i64_w, i32_w]
                  rfl
                refine pure_ (i := 5) (N := some 17) (v := ?_) (a' := ?_) #[true, true, true, true, true, true, true, true, true, true, false, false, false, false, false] rfl rfl (any_of HT_.out (by kernel_rfl)) (fun _ _ _ h => h) (Or.inl ⟨by rfl, ?_⟩) ?_ ?_
                rotate_left
                · intro w'
                  go_simp
                  with_reducible rfl
                rotate_left
                · simp only [Act.put, List.setIfInBounds_toArray, List.set_cons_zero, List.set_cons_succ, i64_w, i32_w]
                  rfl
                refine one_ (i := 10) (N := some 22) #[true, true, true, true, true, true, true, true, true, true, true, false, false, false, false] rfl rfl (one_of HT_.out (by kernel_rfl)) (by decide) (fun K hK => ?_)
                refine goes_ Tryz.func37 (by kernel_rfl) rfl #[.int .u8 (bt a0 (ji7))] (by rfl) rfl rfl (by (try simp only [List.map_toArray, List.map_cons, List.map_nil]); first | done | (simp only [hji7]; rfl) | rfl | (simp only [List.length_drop, List.length_take]; rfl)) ?_
                with_reducible refine (spec_digit.calls (bt a0 (ji7)) t153 _ A10.out).mono ?_
                rintro e w' ⟨rfl, ⟨nd, rfl⟩⟩
                refine ⟨_, rfl, ?_⟩
                refine hK.out _ _ trivial (fun hHeld => ?_)
                clear hK K
                refine norm_ (a' := ?_) ?_ ?_
                rotate_left
                · show Act.put _ (some 22) _ = _
                  simp only [Act.put, List.setIfInBounds_toArray, List.set_cons_zero, List.set_cons_succ, i64_w, i32_w]
                  rfl
                refine pure_ (i := 11) (N := some 23) (v := ?_) (a' := ?_) #[true, true, true, true, true, true, true, true, true, true, true, true, false, false, false] rfl rfl (any_of HT_.out (by kernel_rfl)) (fun _ _ _ h => h) (Or.inl ⟨by rfl, ?_⟩) ?_ ?_
                rotate_left
                · intro w'
                  go_simp
                  with_reducible rfl
                rotate_left
                · simp only [Act.put, List.setIfInBounds_toArray, List.set_cons_zero, List.set_cons_succ, i64_w, i32_w]
                  rfl
                refine one_ (i := 12) (N := some 24) #[true, true, true, true, true, true, true, true, true, true, true, true, true, false, false] rfl rfl (one_of HT_.out (by kernel_rfl)) (by decide) (fun K hK => ?_)
                refine value_ (w1 := ?_) (v := ?_) (by rfl) rfl ?_ ?_
                rotate_left 2
                · go_simp
                  constructor
                  · rfl
                  · rfl
                refine hK.out _ _ trivial (fun hHeld => ?_)
                clear hK K
                refine norm_ (a' := ?_) ?_ ?_
                rotate_left
                · show Act.put _ (some 24) _ = _
                  simp only [Act.put, List.setIfInBounds_toArray, List.set_cons_zero, List.set_cons_succ, i64_w, i32_w]
                  rfl
                refine one_ (i := 13) (N := some 25) #[true, true, true, true, true, true, true, true, true, true, true, true, true, true, false] rfl rfl (one_of HT_.out (by kernel_rfl)) (by decide) (fun K hK => ?_)
                refine Kd.R_append_step (Kd.int .u8) (w0 := w) w.heap.size (by rfl) (.tmp 12) (.tmp 24) 24 5 (.int .u8 0) 1 rfl Tryz.underlying24 info5 rfl (by decide) (by omega) u3 x3_1 (Go.bits .or .u8 ((t152 * 16) % 256) t153) [.int .u8 (Go.bits .or .u8 ((t152 * 16) % 256) t153)] (fun _ => True) (fun _ => False) rfl rfl ?aP (fun _ hk => hk.elim) ?aF ?aO ?aB ?aS ?aL ?_
                (case aP => exact rfl)
                (case aB => exact (by repeat (first | (with_reducible first | exact HB.out | apply below_alloc | apply pw_below_drewN | apply below_drew1) | exact HB.out)))
                (case aF => exact (fun _ _ => trivial))
                (case aO => exact (by (with_reducible repeat (first | apply Kd.R_alloc | apply Kd.R_drewN | apply Kd.R_drew)); exact HO_3.out))
                (case aS => exact (below_size (by repeat (first | (with_reducible first | exact HB.out | apply below_alloc | apply pw_below_drewN | apply below_drew1) | exact HB.out))))
                (case aL => have := LMc11.out; omega)
                intro v155 w13 ho hb hg hat
                rw [← Ny154.out] at ho
                have n0_ := Aside0.mk (hb)
                have n1_ := Aside0.mk (ho)
                clear HB
                clear HO_3
                have HB := n0_
                have HO156 := n1_
                clear n0_ n1_
                clear ho hb hg hat
                refine hK.out _ _ trivial (fun hHeld => ?_)
                clear hK K
                refine norm_ (a' := ?_) ?_ ?_
                rotate_left
                · show Act.put _ (some 25) _ = _
                  simp only [Act.put, List.setIfInBounds_toArray, List.set_cons_zero, List.set_cons_succ, i64_w, i32_w]
                  rfl
                refine pure_ (i := 14) (N := some 3) (v := ?_) (a' := ?_) #[true, true, true, true, true, true, true, true, true, true, true, true, true, true, true] rfl rfl (any_of HT_.out (by kernel_rfl)) (fun _ _ _ h => h) (Or.inl ⟨by rfl, ?_⟩) ?_ ?_
                rotate_left
                · intro w'
                  go_simp
                  with_reducible rfl
                rotate_left
                · simp only [Act.put, List.setIfInBounds_toArray, List.set_cons_zero, List.set_cons_succ, i64_w, i32_w]
                  rfl
                refine done_ (done_of HT_.out (by kernel_rfl)) ?_
                try go_wp2
                go_roundg k1
                case measure => have := HK1.out; omega
                case rel => exact ⟨(y154), (wrap64 (x4_1 + 2)), (by first | rfl | (simp; done) | (simp [*]; done)), H', ⟨by have := HK1.out; omega⟩, ⟨by (with_reducible repeat (first | apply Kd.R_alloc | apply Kd.R_drewN | apply Kd.R_drew)); exact HO156.out⟩, ⟨by repeat (first | (with_reducible first | exact HB.out | apply below_alloc | apply pw_below_drewN | apply below_drew1) | exact HB.out)⟩⟩
              · rw [if_neg c11] at H
                exact absurd H (by simp)
            · rw [if_neg c8] at H
              exact absurd H (by simp)
          · rw [if_neg c4] at H
            exact absurd H (by simp)
        · rw [if_neg c3] at H
          exact absurd H (by simp)
      · rw [if_neg c2] at H
        have c2b0 : decide ((wrap64 (x4_1 + 1)) < (a0.size : Int)) = false := decide_eq_false c2
        clear c2
        obtain rfl := Option.some.inj H
        go_wp2
        go_ret
        exact ⟨_, by first | rfl | (simp [errW_none, errW_some] <;> rfl) | (simp [*, errW_none, errW_some] <;> rfl), by (with_reducible repeat (first | apply Kd.R_alloc | apply Kd.R_drewN | apply Kd.R_drew)); exact HO_3.out, by repeat (first | (with_reducible first | exact HB.out | apply below_alloc | apply pw_below_drewN | apply below_drew1) | exact HB.out)⟩

/-! ### spec_Put16: function 24 -/
def spec_Put16.f (a0 : Int) : Option (List Int) := some (([(a0 / 256) % 256, (a0) % 256] : List Int))
set_option maxHeartbeats 8000000 in
set_option maxRecDepth 100000 in
theorem spec_Put16.calls (a0 : Int) (r : List Int) (w : World) (h : spec_Put16.f a0 = some r) :
    Calls Tryz.prog 24 #[.int .u32 a0] w fun e w' => ∃ v0_ : Value, e = .returned (v0_) ∧ Kd.R (Kd.int .u8) 5 w' w.heap.size (fun _ => True) v0_ r ∧ Below w.heap.size w w' := by
  have HB := Aside0.mk (Below.refl w.heap.size w)
  have H : (some (([(a0 / 256) % 256, (a0) % 256] : List Int))) = some r := h
  clear h
  obtain ⟨y157, hy157⟩ : ∃ y_ : List Int, y_ = (([(a0 / 256) % 256, (a0) % 256] : List Int)) := ⟨_, rfl⟩
  replace H : (some y157) = some r := by first | (rw [hy157]; with_reducible exact H) | (have H2_ := (Option.bind_some _ _).symm.trans H; rw [hy157]; with_reducible exact H2_) | (have H2_ := (Option.bind_some _ _).symm.trans H; with_reducible exact H2_) | with_reducible exact H | (rw [hy157]; exact H) | exact H
  have Ny157 := Aside0.mk hy157
  clear hy157
  obtain rfl := Option.some.inj H
  go_enter Tryz.func24, Tryz.ntmps24
  go_wp2_with (first | ((with_reducible refine gate_dst (N := 8) rfl ?_); refine Kd.R_lit (Kd.int .u8) _ 5 ?hg (N := 8) ?hd (xs := ([(a0 / 256) % 256, (a0) % 256] : List Int)) (inner := [.int .u8 ((a0 / 256) % 256), .int .u8 ((a0) % 256)]) (ok := fun _ => True) (okp := fun _ => True) ?hr ?hp (fun _ hk => hk) trivial (Below.refl _ _) (Nat.le_refl _) (by simp) ?_; (case hd => rfl); (case hg => rfl); (case hr => first | (go_simp; done) | (go_simp; rfl)); (case hp => exact (Reps.one (show Kd.M (Kd.int .u8) _ _ _ ((a0 / 256) % 256) [.int .u8 ((a0 / 256) % 256)] from rfl) (Reps.one (show Kd.M (Kd.int .u8) _ _ _ ((a0) % 256) [.int .u8 ((a0) % 256)] from rfl) (Reps.none _ _)))); intro v158 w2 ho3 hb hg_ hnew_; clear hg_ hnew_; (first | rw [← Ny157.out] at ho3 | (simp only [Int.reduceToNat] at ho3; rw [← Ny157.out] at ho3)); have n0_ := Aside0.mk (Kd.R_lower ho3 (below_size (by repeat (first | (with_reducible first | exact HB.out | apply below_alloc | apply pw_below_drewN | apply below_drew1) | exact HB.out)))); have n1_ := Aside0.mk (below_step (by repeat (first | (with_reducible first | exact HB.out | apply below_alloc | apply pw_below_drewN | apply below_drew1) | exact HB.out)) hb); clear HB; have HO159 := n0_; have HB := n1_; clear n0_ n1_; clear hb ho3))
  go_ret
  exact ⟨_, by first | rfl | (simp [errW_none, errW_some] <;> rfl) | (simp [*, errW_none, errW_some] <;> rfl), by (with_reducible repeat (first | apply Kd.R_alloc | apply Kd.R_drewN | apply Kd.R_drew)); exact HO159.out, by repeat (first | (with_reducible first | exact HB.out | apply below_alloc | apply pw_below_drewN | apply below_drew1) | exact HB.out)⟩

/-! ### bytes_NewReader: function 15 -/

/-! ### bytes_Equal: function 41 -/
def bytes_Equal.f (l0 : List Int) (l1 : List Int) : Option (Bool) := some ((strOfNums l0).toList == (strOfNums l1).toList)
set_option maxHeartbeats 8000000 in
set_option maxRecDepth 100000 in
theorem bytes_Equal.calls (A0 : Option Addr) (c0 : Nat) (l0 : List Int) (A1 : Option Addr) (c1 : Nat) (l1 : List Int) (r : Bool) (w : World) (hr0 : Kd.C (Kd.int .u8) w A0 l0.length l0) (hc0 : l0.length ≤ c0) (hr1 : Kd.C (Kd.int .u8) w A1 l1.length l1) (hc1 : l1.length ≤ c1) (h : bytes_Equal.f l0 l1 = some r) :
    Calls Tryz.prog 41 #[.slice A0 l0.length c0, .slice A1 l1.length c1] w fun e w' => e = .returned (.bool r) ∧ Drawn0 w w' := by
  have HR0 := Aside0.mk hr0
  have HC0 := Aside0.mk hc0
  clear hr0 hc0
  have HR1 := Aside0.mk hr1
  have HC1 := Aside0.mk hc1
  clear hr1 hc1
  have H : (some ((strOfNums l0).toList == (strOfNums l1).toList)) = some r := h
  clear h
  obtain rfl := Option.some.inj H
  have hcv3 := Kd.C_string (P := Tryz.prog) (A := A0) (c := c0) Tryz.underlying24 Tryz.underlying5 Tryz.underlying9 HR0.out
  have hcv4 := Kd.C_string (P := Tryz.prog) (A := A1) (c := c1) Tryz.underlying24 Tryz.underlying5 Tryz.underlying9 HR1.out
  go_enter Tryz.func41, Tryz.ntmps41
  go_wp2
  go_ret
  exact ⟨by first | rfl | (simp; done) | (simp [*]; done), by repeat (first | exact Drawn0.refl _ | apply Drawn0.step)⟩

/-! ### index_indexSignature: function 42 -/
def index_indexSignature.f  : Option (List Int) := some (([68, 73, 82, 67] : List Int))
set_option maxHeartbeats 8000000 in
set_option maxRecDepth 100000 in
theorem index_indexSignature.calls  (r : List Int) (w : World) (h : index_indexSignature.f  = some r) :
    Calls Tryz.prog 42 #[] w fun e w' => ∃ v0_ : Value, e = .returned (v0_) ∧ Kd.R (Kd.int .u8) 5 w' w.heap.size (fun _ => True) v0_ r ∧ Below w.heap.size w w' := by
  have HB := Aside0.mk (Below.refl w.heap.size w)
  have H : (some (([68, 73, 82, 67] : List Int))) = some r := h
  clear h
  obtain ⟨y222, hy222⟩ : ∃ y_ : List Int, y_ = (([68, 73, 82, 67] : List Int)) := ⟨_, rfl⟩
  replace H : (some y222) = some r := by first | (rw [hy222]; with_reducible exact H) | (have H2_ := (Option.bind_some _ _).symm.trans H; rw [hy222]; with_reducible exact H2_) | (have H2_ := (Option.bind_some _ _).symm.trans H; with_reducible exact H2_) | with_reducible exact H | (rw [hy222]; exact H) | exact H
  have Ny222 := Aside0.mk hy222
  clear hy222
  obtain rfl := Option.some.inj H
  go_enter Tryz.func42, Tryz.ntmps42
  go_wp2_with (first | ((with_reducible refine gate_dst (N := 1) rfl ?_); refine Kd.R_lit (Kd.int .u8) _ 5 ?hg (N := 1) ?hd (xs := ([68, 73, 82, 67] : List Int)) (inner := [.int .u8 68, .int .u8 73, .int .u8 82, .int .u8 67]) (ok := fun _ => True) (okp := fun _ => True) ?hr ?hp (fun _ hk => hk) trivial (Below.refl _ _) (Nat.le_refl _) (by simp) ?_; (case hd => rfl); (case hg => rfl); (case hr => first | (go_simp; done) | (go_simp; rfl)); (case hp => exact (Reps.one (show Kd.M (Kd.int .u8) _ _ _ 68 [.int .u8 68] from rfl) (Reps.one (show Kd.M (Kd.int .u8) _ _ _ 73 [.int .u8 73] from rfl) (Reps.one (show Kd.M (Kd.int .u8) _ _ _ 82 [.int .u8 82] from rfl) (Reps.one (show Kd.M (Kd.int .u8) _ _ _ 67 [.int .u8 67] from rfl) (Reps.none _ _)))))); intro v223 w1 ho2 hb hg_ hnew_; clear hg_ hnew_; (first | rw [← Ny222.out] at ho2 | (simp only [Int.reduceToNat] at ho2; rw [← Ny222.out] at ho2)); have n0_ := Aside0.mk (Kd.R_lower ho2 (below_size (by repeat (first | (with_reducible first | exact HB.out | apply below_alloc | apply pw_below_drewN | apply below_drew1) | exact HB.out)))); have n1_ := Aside0.mk (below_step (by repeat (first | (with_reducible first | exact HB.out | apply below_alloc | apply pw_below_drewN | apply below_drew1) | exact HB.out)) hb); clear HB; have HO224 := n0_; have HB := n1_; clear n0_ n1_; clear hb ho2))
  go_ret
  exact ⟨_, by first | rfl | (simp [errW_none, errW_some] <;> rfl) | (simp [*, errW_none, errW_some] <;> rfl), by (with_reducible repeat (first | apply Kd.R_alloc | apply Kd.R_drewN | apply Kd.R_drew)); exact HO224.out, by repeat (first | (with_reducible first | exact HB.out | apply below_alloc | apply pw_below_drewN | apply below_drew1) | exact HB.out)⟩

/-! ### zztime_Unix: function 56 -/
def zztime_Unix.f (a0 : Int) (a1 : Int) : Option (Int × Int × Int) := if (Int.tmod a1 1000000000) < 0 then (some (wrap64 ((wrap64 ((wrap64 (a0 + (wrap64 (Int.tdiv a1 1000000000)))) - 1)) + 62135596800), wrap64 ((Int.tmod a1 1000000000) + 1000000000), 0)) else (some (wrap64 ((wrap64 (a0 + (wrap64 (Int.tdiv a1 1000000000)))) + 62135596800), Int.tmod a1 1000000000, 0))
set_option maxHeartbeats 8000000 in
set_option maxRecDepth 100000 in
theorem zztime_Unix.calls (a0 : Int) (a1 : Int) (r1 : Int) (r2 : Int) (r3 : Int) (w : World) (h : zztime_Unix.f a0 a1 = some (r1, r2, r3)) :
    Calls Tryz.prog 56 #[.int .i64 a0, .int .i64 a1] w fun e w' => e = .returned (.agg #[.int .i64 r1, .int .i64 r2, .int .i64 r3]) ∧ Below w.heap.size w w' := by
  have hu45 := Tryz.underlying45
  have HB := Aside0.mk (Below.refl w.heap.size w)
  have H : (if (Int.tmod a1 1000000000) < 0 then (some (wrap64 ((wrap64 ((wrap64 (a0 + (wrap64 (Int.tdiv a1 1000000000)))) - 1)) + 62135596800), wrap64 ((Int.tmod a1 1000000000) + 1000000000), 0)) else (some (wrap64 ((wrap64 (a0 + (wrap64 (Int.tdiv a1 1000000000)))) + 62135596800), Int.tmod a1 1000000000, 0))) = some (r1, r2, r3) := h
  clear h
  by_cases c3 : (Int.tmod a1 1000000000) < 0
  · rw [if_pos c3] at H
    have c3b0 : decide ((Int.tmod a1 1000000000) < 0) = true := decide_eq_true c3
    clear c3
    simp only [Option.some.injEq, Prod.mk.injEq] at H
    obtain ⟨rfl, rfl, rfl⟩ := H
    go_enter Tryz.func56, Tryz.ntmps56
    go_wp2_with (first | ((with_reducible refine gate_dst (N := 4) rfl ?_); refine box_event ?hg (N := 4) ?hd (cs := #[.int .i64 0, .int .i64 0, .int .i64 0]) (t := 45) ?hr ?_; (case hd => rfl); (case hg => rfl); (case hr => first | (go_simp; done) | (go_simp; rfl)); intro gb225 hg w4 hbox hb; have n0_ := Aside0.mk (below_step (by repeat (first | (with_reducible first | exact HB.out | apply below_alloc | apply pw_below_drewN | apply below_drew1) | exact HB.out)) hb); have n1_ := Aside0.mk (hbox); have n2_ := Aside0.mk ((by rw [hg]; exact (below_size (by repeat (first | (with_reducible first | exact HB.out | apply below_alloc | apply pw_below_drewN | apply below_drew1) | exact HB.out))) : w.heap.size ≤ gb225)); have n3_ := Aside0.mk ((by rw [hg]; exact (below_size (by repeat (first | (with_reducible first | exact HB.out | apply below_alloc | apply pw_below_drewN | apply below_drew1) | exact HB.out))) : w.heap.size ≤ gb225)); clear HB; have HB := n0_; have BK225 := n1_; have GW225 := n2_; have GE225 := n3_; clear n0_ n1_ n2_ n3_; clear hb hbox hg; have hcz5_0 : w4.cell? ⟨gb225, 0, none⟩ = some (.int .i64 0) := (blk_cell BK225.out 0).trans rfl; have hcz5_1 : w4.cell? ⟨gb225, 1, none⟩ = some (.int .i64 0) := (blk_cell BK225.out 1).trans rfl; have hcz5_2 : w4.cell? ⟨gb225, 2, none⟩ = some (.int .i64 0) := (blk_cell BK225.out 2).trans rfl; have hfz5_0 := blk_frozen BK225.out 0; have hfz5_1 := blk_frozen BK225.out 1; have hfz5_2 := blk_frozen BK225.out 2))
    refine bodyPost_ret (results_cell_row rfl _ _ gb225 45 #[.int .i64 (wrap64 ((wrap64 ((wrap64 (a0 + (wrap64 (Int.tdiv a1 1000000000)))) - 1)) + 62135596800)), .int .i64 (wrap64 ((Int.tmod a1 1000000000) + 1000000000)), .int .i64 0] (0, 0) _ rfl (by (with_reducible repeat (first | refine blk_drewN ?_ _ | refine blk_drew ?_ | refine blk_alloc ?_ _)); refine blk_put (cs := #[.int .i64 (wrap64 ((wrap64 ((wrap64 (a0 + (wrap64 (Int.tdiv a1 1000000000)))) - 1)) + 62135596800)), .int .i64 (wrap64 ((Int.tmod a1 1000000000) + 1000000000)), .int .i64 0]) ?_ 2 _ rfl; (with_reducible repeat (first | refine blk_drewN ?_ _ | refine blk_drew ?_ | refine blk_alloc ?_ _)); refine blk_put (cs := #[.int .i64 (wrap64 ((wrap64 ((wrap64 (a0 + (wrap64 (Int.tdiv a1 1000000000)))) - 1)) + 62135596800)), .int .i64 0, .int .i64 0]) ?_ 1 _ rfl; (with_reducible repeat (first | refine blk_drewN ?_ _ | refine blk_drew ?_ | refine blk_alloc ?_ _)); refine blk_put (cs := #[.int .i64 0, .int .i64 0, .int .i64 0]) ?_ 0 _ rfl; (with_reducible repeat (first | refine blk_drewN ?_ _ | refine blk_drew ?_ | refine blk_alloc ?_ _)); exact BK225.out) Tryz.underlying45 rfl (by kernel_rfl)) rfl ?_
    exact ⟨by first | rfl | (simp [errW_none, errW_some] <;> rfl) | (simp [*, errW_none, errW_some] <;> rfl), by repeat (first | (with_reducible first | exact HB.out | apply below_alloc | apply pw_below_drewN | apply below_drew1 | refine below_set ?_ GE225.out) | exact HB.out)⟩
  · rw [if_neg c3] at H
    have c3b0 : decide ((Int.tmod a1 1000000000) < 0) = false := decide_eq_false c3
    clear c3
    simp only [Option.some.injEq, Prod.mk.injEq] at H
    obtain ⟨rfl, rfl, rfl⟩ := H
    go_enter Tryz.func56, Tryz.ntmps56
    go_wp2_with (first | ((with_reducible refine gate_dst (N := 4) rfl ?_); refine box_event ?hg (N := 4) ?hd (cs := #[.int .i64 0, .int .i64 0, .int .i64 0]) (t := 45) ?hr ?_; (case hd => rfl); (case hg => rfl); (case hr => first | (go_simp; done) | (go_simp; rfl)); intro gb225 hg w6 hbox hb; have n0_ := Aside0.mk (below_step (by repeat (first | (with_reducible first | exact HB.out | apply below_alloc | apply pw_below_drewN | apply below_drew1) | exact HB.out)) hb); have n1_ := Aside0.mk (hbox); have n2_ := Aside0.mk ((by rw [hg]; exact (below_size (by repeat (first | (with_reducible first | exact HB.out | apply below_alloc | apply pw_below_drewN | apply below_drew1) | exact HB.out))) : w.heap.size ≤ gb225)); have n3_ := Aside0.mk ((by rw [hg]; exact (below_size (by repeat (first | (with_reducible first | exact HB.out | apply below_alloc | apply pw_below_drewN | apply below_drew1) | exact HB.out))) : w.heap.size ≤ gb225)); clear HB; have HB := n0_; have BK225 := n1_; have GW225 := n2_; have GE225 := n3_; clear n0_ n1_ n2_ n3_; clear hb hbox hg; have hcz7_0 : w6.cell? ⟨gb225, 0, none⟩ = some (.int .i64 0) := (blk_cell BK225.out 0).trans rfl; have hcz7_1 : w6.cell? ⟨gb225, 1, none⟩ = some (.int .i64 0) := (blk_cell BK225.out 1).trans rfl; have hcz7_2 : w6.cell? ⟨gb225, 2, none⟩ = some (.int .i64 0) := (blk_cell BK225.out 2).trans rfl; have hfz7_0 := blk_frozen BK225.out 0; have hfz7_1 := blk_frozen BK225.out 1; have hfz7_2 := blk_frozen BK225.out 2))
    refine bodyPost_ret (results_cell_row rfl _ _ gb225 45 #[.int .i64 (wrap64 ((wrap64 (a0 + (wrap64 (Int.tdiv a1 1000000000)))) + 62135596800)), .int .i64 (Int.tmod a1 1000000000), .int .i64 0] (0, 0) _ rfl (by (with_reducible repeat (first | refine blk_drewN ?_ _ | refine blk_drew ?_ | refine blk_alloc ?_ _)); refine blk_put (cs := #[.int .i64 (wrap64 ((wrap64 (a0 + (wrap64 (Int.tdiv a1 1000000000)))) + 62135596800)), .int .i64 (Int.tmod a1 1000000000), .int .i64 0]) ?_ 2 _ rfl; (with_reducible repeat (first | refine blk_drewN ?_ _ | refine blk_drew ?_ | refine blk_alloc ?_ _)); refine blk_put (cs := #[.int .i64 (wrap64 ((wrap64 (a0 + (wrap64 (Int.tdiv a1 1000000000)))) + 62135596800)), .int .i64 0, .int .i64 0]) ?_ 1 _ rfl; (with_reducible repeat (first | refine blk_drewN ?_ _ | refine blk_drew ?_ | refine blk_alloc ?_ _)); refine blk_put (cs := #[.int .i64 0, .int .i64 0, .int .i64 0]) ?_ 0 _ rfl; (with_reducible repeat (first | refine blk_drewN ?_ _ | refine blk_drew ?_ | refine blk_alloc ?_ _)); exact BK225.out) Tryz.underlying45 rfl (by kernel_rfl)) rfl ?_
    exact ⟨by first | rfl | (simp [errW_none, errW_some] <;> rfl) | (simp [*, errW_none, errW_some] <;> rfl), by repeat (first | (with_reducible first | exact HB.out | apply below_alloc | apply pw_below_drewN | apply below_drew1 | refine below_set ?_ GE225.out) | exact HB.out)⟩

/-! ### index_treeExtSignature: function 63 -/
/-! ### strconv_lower: function 107 -/
end Go.Proofs.YtllikhbafaohgaaGreatDoor.PFnIdxSum
