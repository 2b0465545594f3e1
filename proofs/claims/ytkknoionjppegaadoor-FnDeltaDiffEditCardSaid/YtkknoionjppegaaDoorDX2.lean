/- Three functions of the delta's reference and the writer of a copy: each does what a Lean function tells (began as a printed text; the walks of readSize7 and readCopy mended, for views). -/
import Derived.Test.YtkknoionjppegaaDoorPFnDeltaDiffReadx0
namespace Go.Proofs.YtkknoionjppegaaDoor.PFnDeltaDiffRead
open Go.RowKit Go.Proofs.YtkknoionjppegaaDoorW.PrintWords Go.Proofs.YtkknoionjppegaaDoorW.PrintLast Go.Proofs.YtkknoionjppegaaDoorW.PrintMore
attribute [local go_sem] max2_int min2_int max_two min_two max_three min_three max_four min_four   -- for this text's walks alone
set_option linter.unusedVariables false
set_option linter.unusedSimpArgs false

/-! ### packfile_encodeCopyOperation: function 26 -/
mutual
def packfile_encodeCopyOperation.l0 : Nat → Int → Int → Int → List Int → Int → Option (List Int)
  | 0, _, _, _, _, _ => none
  | k + 1, x0, x1, x5, x6, x7 => if x7 < 4 then (if 0 ≤ (IntKind.u64.wrap (x7 * 8)) then (if (Go.bits .and .i64 x0 (shl .i64 255 (IntKind.u64.wrap (x7 * 8)))) = 0 then (packfile_encodeCopyOperation.l0 k x0 x1 x5 x6 (IntKind.u64.wrap (x7 + 1))) else (if x6.length < 140737488355328 then (if 0 ≤ x7 then (packfile_encodeCopyOperation.l0 k x0 x1 (Go.bits .or .i64 x5 (shl .i64 1 x7)) (x6 ++ [(shr .i64 (Go.bits .and .i64 x0 (shl .i64 255 (IntKind.u64.wrap (x7 * 8)))) (IntKind.u64.wrap (x7 * 8))) % 256]) (IntKind.u64.wrap (x7 + 1))) else (none)) else (none))) else (none)) else (packfile_encodeCopyOperation.l1 k x1 x5 x6 0)
def packfile_encodeCopyOperation.l1 : Nat → Int → Int → List Int → Int → Option (List Int)
  | 0, _, _, _, _ => none
  | k + 1, x1, x5, x6, x7 => if x7 < 3 then (if 0 ≤ (IntKind.u64.wrap (x7 * 8)) then (if (Go.bits .and .i64 x1 (shl .i64 255 (IntKind.u64.wrap (x7 * 8)))) = 0 then (packfile_encodeCopyOperation.l1 k x1 x5 x6 (IntKind.u64.wrap (x7 + 1))) else (if x6.length < 140737488355328 then (if 0 ≤ x7 then (packfile_encodeCopyOperation.l1 k x1 (Go.bits .or .i64 x5 (shl .i64 16 x7)) (x6 ++ [(shr .i64 (Go.bits .and .i64 x1 (shl .i64 255 (IntKind.u64.wrap (x7 * 8)))) (IntKind.u64.wrap (x7 * 8))) % 256]) (IntKind.u64.wrap (x7 + 1))) else (none)) else (none))) else (none)) else ((some (([(x5) % 256] : List Int) : List Int)).bind fun y145 => (if y145.length + x6.length < 140737488355328 then (some (y145 ++ x6)) else (none)))
end
def packfile_encodeCopyOperation.f (k : Nat) (a0 : Int) (a1 : Int) : Option (List Int) := packfile_encodeCopyOperation.l0 k a0 a1 128 ([] : List Int) 0
theorem packfile_encodeCopyOperation.mono_l : ∀ k, (∀ y0 y1 y2 y3 y4, LeO (packfile_encodeCopyOperation.l0 k y0 y1 y2 y3 y4) (packfile_encodeCopyOperation.l0 (k + 1) y0 y1 y2 y3 y4)) ∧ (∀ y0 y1 y2 y3, LeO (packfile_encodeCopyOperation.l1 k y0 y1 y2 y3) (packfile_encodeCopyOperation.l1 (k + 1) y0 y1 y2 y3))
  | 0 => ⟨fun _ _ _ _ _ r h => by simp [packfile_encodeCopyOperation.l0] at h, fun _ _ _ _ r h => by simp [packfile_encodeCopyOperation.l1] at h⟩
  | k + 1 => by
    obtain ⟨ih0, ih1⟩ := packfile_encodeCopyOperation.mono_l k
    refine ⟨?_, ?_⟩
    · intro y0 y1 y2 y3 y4
      unfold packfile_encodeCopyOperation.l0
      repeat' first
      | (with_reducible exact ih0 _ _ _ _ _)
      | (with_reducible exact ih1 _ _ _ _)
      | (with_reducible exact LeO.refl _)
      | (with_reducible exact LeO.none _)
      | (with_reducible refine LeO.ite ?_ ?_)
      | (with_reducible refine LeO.bind ?_ (fun _ => ?_))
      | exact ih0 _ _ _ _ _
      | exact ih1 _ _ _ _
      | exact LeO.none _
      | refine LeO.ite ?_ ?_
      | refine LeO.bind ?_ (fun _ => ?_)
    · intro y0 y1 y2 y3
      unfold packfile_encodeCopyOperation.l1
      repeat' first
      | (with_reducible exact ih0 _ _ _ _ _)
      | (with_reducible exact ih1 _ _ _ _)
      | (with_reducible exact LeO.refl _)
      | (with_reducible exact LeO.none _)
      | (with_reducible refine LeO.ite ?_ ?_)
      | (with_reducible refine LeO.bind ?_ (fun _ => ?_))
      | exact ih0 _ _ _ _ _
      | exact ih1 _ _ _ _
      | exact LeO.none _
      | refine LeO.ite ?_ ?_
      | refine LeO.bind ?_ (fun _ => ?_)
theorem packfile_encodeCopyOperation.mono : ∀ a0 a1 k, LeO (packfile_encodeCopyOperation.f k a0 a1) (packfile_encodeCopyOperation.f (k + 1) a0 a1) := by
  intro a0 a1 k
  obtain ⟨ih0, ih1⟩ := packfile_encodeCopyOperation.mono_l k
  unfold packfile_encodeCopyOperation.f
  repeat' first
      | (with_reducible exact ih0 _ _ _ _ _)
      | (with_reducible exact ih1 _ _ _ _)
      | (with_reducible exact LeO.refl _)
      | (with_reducible exact LeO.none _)
      | (with_reducible refine LeO.ite ?_ ?_)
      | (with_reducible refine LeO.bind ?_ (fun _ => ?_))
      | exact ih0 _ _ _ _ _
      | exact ih1 _ _ _ _
      | exact LeO.none _
      | refine LeO.ite ?_ ?_
      | refine LeO.bind ?_ (fun _ => ?_)
set_option maxHeartbeats 8000000 in
set_option maxRecDepth 100000 in
theorem packfile_encodeCopyOperation.calls (k : Nat) (a0 : Int) (a1 : Int) (r : List Int) (w : World) (h : packfile_encodeCopyOperation.f k a0 a1 = some r) :
    Calls Tryd.prog 26 #[.int .i64 a0, .int .i64 a1] w fun e w' => ∃ v0_ : Value, e = .returned (v0_) ∧ Kd.R (Kd.int .u8) 5 w' w.heap.size (fun _ => True) v0_ r ∧ Below w.heap.size w w' := by
  have HB := Aside0.mk (Below.refl w.heap.size w)
  have H : (packfile_encodeCopyOperation.l0 k a0 a1 128 ([] : List Int) 0) = some r := h
  clear h
  have H' := Aside0.mk H
  clear H
  go_enter Tryd.func26, Tryd.ntmps26
  go_wp2
  go_loopg [5, 6, 7] k (fun kq v5 v6 v7 w' => ∃ (x5_1 : Int) (x6_1 : List Int) (x7_1 : Int), v5 = .int .i64 x5_1 ∧ v7 = .int .u64 x7_1 ∧ Aside0 (packfile_encodeCopyOperation.l0 kq a0 a1 x5_1 x6_1 x7_1 = some r) ∧ Aside0 (kq ≤ k) ∧ Aside0 (Kd.R (Kd.int .u8) 5 w' w.heap.size (fun _ => True) v6 x6_1) ∧ Aside0 (Below w.heap.size w w'))
  case atStart => exact ⟨(128), (([] : List Int)), (0), (by first | rfl | (simp; done) | (simp [*]; done)), (by first | rfl | (simp; done) | (simp [*]; done)), H', ⟨Nat.le_refl _⟩, ⟨by first | exact Kd.R_nil _ _ _ _ _ | exact Kd.N_nil _ _ _ _ _ | exact Kd.V_nil _ _ _ _ _ | exact Kd.Q_nil _ _ _ _ _ | exact Kd.S_nil _ _ _ _ _⟩, ⟨by repeat (first | (with_reducible first | exact HB.out | apply below_alloc | apply pw_below_drewN | apply below_drew1) | exact HB.out)⟩⟩
  case round =>
    clear H'
    try clear c2
    try clear p2
    obtain ⟨x5_1, x6_1, x7_1, rfl, rfl, HA, HK1, HO_6, HB⟩ := hrel
    cases gk with
    | zero => exact absurd HA.out (by simp [packfile_encodeCopyOperation.l0])
    | succ k1 =>
      have H := HA.out
      clear HA
      simp only [packfile_encodeCopyOperation.l0] at H
      by_cases c3 : x7_1 < 4
      · rw [if_pos c3] at H
        have c3b0 : decide (x7_1 < 4) = true := decide_eq_true c3
        clear c3
        obtain ⟨ji4, hji4⟩ : ∃ j_ : Int, (IntKind.u64.wrap (x7_1 * 8)) = j_ := ⟨_, rfl⟩
        replace H : (if 0 ≤ (ji4) then (if (Go.bits .and .i64 a0 (shl .i64 255 (ji4))) = 0 then (packfile_encodeCopyOperation.l0 k1 a0 a1 x5_1 x6_1 (IntKind.u64.wrap (x7_1 + 1))) else (if x6_1.length < 140737488355328 then (if 0 ≤ x7_1 then (packfile_encodeCopyOperation.l0 k1 a0 a1 (Go.bits .or .i64 x5_1 (shl .i64 1 x7_1)) (x6_1 ++ [(shr .i64 (Go.bits .and .i64 a0 (shl .i64 255 (ji4))) (ji4)) % 256]) (IntKind.u64.wrap (x7_1 + 1))) else (none)) else (none))) else (none)) = some r := by first | (rw [hji4] at H; exact H) | (simp only [hji4] at H ⊢; exact H)
        by_cases c5 : 0 ≤ (ji4)
        · rw [if_pos c5] at H
          have c5b0 := eq_true c5
          have c5b1 : decide (0 ≤ (ji4)) = true := decide_eq_true c5
          clear c5
          obtain ⟨ji6, hji6⟩ : ∃ j_ : Int, (shl .i64 255 (ji4)) = j_ := ⟨_, rfl⟩
          replace H : (if (Go.bits .and .i64 a0 (ji6)) = 0 then (packfile_encodeCopyOperation.l0 k1 a0 a1 x5_1 x6_1 (IntKind.u64.wrap (x7_1 + 1))) else (if x6_1.length < 140737488355328 then (if 0 ≤ x7_1 then (packfile_encodeCopyOperation.l0 k1 a0 a1 (Go.bits .or .i64 x5_1 (shl .i64 1 x7_1)) (x6_1 ++ [(shr .i64 (Go.bits .and .i64 a0 (ji6)) (ji4)) % 256]) (IntKind.u64.wrap (x7_1 + 1))) else (none)) else (none))) = some r := by first | (rw [hji6] at H; exact H) | (simp only [hji6] at H ⊢; exact H)
          have hji6_ : (IntKind.i64.wrap (255 * 2 ^ min (ji4).toNat 64)) = ji6 := hji6
          have hji6z : (ji4) ≤ 64 → (IntKind.i64.wrap (255 * 2 ^ (ji4).toNat)) = ji6 := shl_small hji6
          have hji6y : (wrap64 (255 * 2 ^ min (ji4).toNat 64)) = ji6 := (i64_w _).symm.trans hji6_
          have hji6x : (ji4) ≤ 64 → (wrap64 (255 * 2 ^ (ji4).toNat)) = ji6 := fun h_ => (i64_w _).symm.trans (hji6z h_)
          by_cases c7 : (Go.bits .and .i64 a0 (ji6)) = 0
          · rw [if_pos c7] at H
            have c7b0 : ((Go.bits .and .i64 a0 (ji6)) == 0) = true := beq_iff_eq.mpr c7
            have c7b1 : ((Go.bits .and .i64 a0 (ji6)) != 0) = false := bne_eq_false_iff_eq.mpr c7
            clear c7
            have H' := Aside0.mk H
            clear H
            go_wp2
            go_roundg k1
            case measure => have := HK1.out; omega
            case rel => exact ⟨(x5_1), (x6_1), (IntKind.u64.wrap (x7_1 + 1)), (by first | rfl | (simp; done) | (simp [*]; done)), (by first | rfl | (simp; done) | (simp [*]; done)), H', ⟨by have := HK1.out; omega⟩, ⟨by (with_reducible repeat (first | apply Kd.R_alloc | apply Kd.R_drewN | apply Kd.R_drew)); exact HO_6.out⟩, ⟨by repeat (first | (with_reducible first | exact HB.out | apply below_alloc | apply pw_below_drewN | apply below_drew1) | exact HB.out)⟩⟩
          · rw [if_neg c7] at H
            have c7b0 : ((Go.bits .and .i64 a0 (ji6)) == 0) = false := beq_eq_false_iff_ne.mpr c7
            have c7b1 : ((Go.bits .and .i64 a0 (ji6)) != 0) = true := bne_iff_ne.mpr c7
            have c8b0 := eq_true (of_decide_eq_true (by first | (with_reducible assumption) | assumption) : 0 ≤ (ji4))
            obtain ⟨ji9, hji9⟩ : ∃ j_ : Int, (shr .i64 (Go.bits .and .i64 a0 (ji6)) (ji4)) = j_ := ⟨_, rfl⟩
            replace H : (if x6_1.length < 140737488355328 then (if 0 ≤ x7_1 then (packfile_encodeCopyOperation.l0 k1 a0 a1 (Go.bits .or .i64 x5_1 (shl .i64 1 x7_1)) (x6_1 ++ [(ji9) % 256]) (IntKind.u64.wrap (x7_1 + 1))) else (none)) else (none)) = some r := by first | (rw [hji9] at H; exact H) | (simp only [hji9] at H ⊢; exact H)
            have hji9_ : ((Go.bits .and .i64 a0 (ji6)) / 2 ^ min (ji4).toNat 64) = ji9 := hji9
            have hji9z : (ji4) ≤ 64 → ((Go.bits .and .i64 a0 (ji6)) / 2 ^ (ji4).toNat) = ji9 := shr_small hji9
            by_cases c10 : x6_1.length < 140737488355328
            · rw [if_pos c10] at H
              have LMc10 := Aside0.mk c10
              clear c10
              obtain ⟨y139, hy139⟩ : ∃ y_ : List Int, y_ = (x6_1 ++ [(ji9) % 256]) := ⟨_, rfl⟩
              replace H : (if 0 ≤ x7_1 then (packfile_encodeCopyOperation.l0 k1 a0 a1 (Go.bits .or .i64 x5_1 (shl .i64 1 x7_1)) y139 (IntKind.u64.wrap (x7_1 + 1))) else (none)) = some r := by first | (rw [hy139]; with_reducible exact H) | (have H2_ := (Option.bind_some _ _).symm.trans H; rw [hy139]; with_reducible exact H2_) | (have H2_ := (Option.bind_some _ _).symm.trans H; with_reducible exact H2_) | with_reducible exact H | (rw [hy139]; exact H) | exact H
              have Ny139 := Aside0.mk hy139
              clear hy139
              by_cases c11 : 0 ≤ x7_1
              · rw [if_pos c11] at H
                have c11b0 := eq_true c11
                have c11b1 : decide (0 ≤ x7_1) = true := decide_eq_true c11
                clear c11
                obtain ⟨ji12, hji12⟩ : ∃ j_ : Int, (shl .i64 1 x7_1) = j_ := ⟨_, rfl⟩
                replace H : (packfile_encodeCopyOperation.l0 k1 a0 a1 (Go.bits .or .i64 x5_1 (ji12)) y139 (IntKind.u64.wrap (x7_1 + 1))) = some r := by first | (rw [hji12] at H; exact H) | (simp only [hji12] at H ⊢; exact H)
                have hji12_ : (IntKind.i64.wrap (1 * 2 ^ min x7_1.toNat 64)) = ji12 := hji12
                have hji12z : x7_1 ≤ 64 → (IntKind.i64.wrap (1 * 2 ^ x7_1.toNat)) = ji12 := shl_small hji12
                have hji12u : (IntKind.i64.wrap (2 ^ min x7_1.toNat 64)) = ji12 := by have h_ := hji12_; rw [Int.one_mul] at h_; exact h_
                have hji12v : x7_1 ≤ 64 → (IntKind.i64.wrap (2 ^ x7_1.toNat)) = ji12 := fun hle_ => by have h_ := hji12z hle_; rw [Int.one_mul] at h_; exact h_
                have hji12y : (wrap64 (1 * 2 ^ min x7_1.toNat 64)) = ji12 := (i64_w _).symm.trans hji12_
                have hji12x : x7_1 ≤ 64 → (wrap64 (1 * 2 ^ x7_1.toNat)) = ji12 := fun h_ => (i64_w _).symm.trans (hji12z h_)
                have H' := Aside0.mk H
                clear H
                go_wp2_with (first | ((with_reducible refine gate_builtin (b := .append) (xs := #[.tmp 21, .tmp 29]) rfl ?_); at_builtin; refine Kd.R_append (Kd.int .u8) (w0 := w) w.heap.size rfl (.tmp 21) (.tmp 29) 22 5 (.int .u8 0) 1 rfl Tryd.underlying22 info5 rfl (by decide) (by omega) u6 x6_1 ((ji9) % 256) [.int .u8 ((ji9) % 256)] (fun _ => True) (fun _ => False) rfl rfl ?aP (fun _ hk => hk.elim) ?aF ?aO ?aB ?aS ?aL ?_; (case aP => exact rfl); (case aB => exact (by repeat (first | (with_reducible first | exact HB.out | apply below_alloc | apply pw_below_drewN | apply below_drew1) | exact HB.out))); (case aF => exact (fun _ _ => trivial)); (case aO => exact (by (with_reducible repeat (first | apply Kd.R_alloc | apply Kd.R_drewN | apply Kd.R_drew)); exact HO_6.out)); (case aS => exact (below_size (by repeat (first | (with_reducible first | exact HB.out | apply below_alloc | apply pw_below_drewN | apply below_drew1) | exact HB.out)))); (case aL => have := LMc10.out; omega); intro v140 w13 ho hb hg hat; rw [← Ny139.out] at ho; have n0_ := Aside0.mk (hb); have n1_ := Aside0.mk (ho); clear HB; clear HO_6; have HB := n0_; have HO141 := n1_; clear n0_ n1_; clear ho hb hg hat))
                go_roundg k1
                case measure => have := HK1.out; omega
                case rel => exact ⟨(Go.bits .or .i64 x5_1 (ji12)), (y139), (IntKind.u64.wrap (x7_1 + 1)), (by first | rfl | (simp; done) | (simp only [← hji12] <;> (first | rfl | simp)) | (simp [*]; done)), (by first | rfl | (simp; done) | (simp [*]; done)), H', ⟨by have := HK1.out; omega⟩, ⟨by (with_reducible repeat (first | apply Kd.R_alloc | apply Kd.R_drewN | apply Kd.R_drew)); exact HO141.out⟩, ⟨by repeat (first | (with_reducible first | exact HB.out | apply below_alloc | apply pw_below_drewN | apply below_drew1) | exact HB.out)⟩⟩
              · rw [if_neg c11] at H
                exact absurd H (by simp)
            · rw [if_neg c10] at H
              exact absurd H (by simp)
        · rw [if_neg c5] at H
          exact absurd H (by simp)
      · rw [if_neg c3] at H
        have c3b0 : decide (x7_1 < 4) = false := decide_eq_false c3
        clear c3
        have H' := Aside0.mk H
        clear H
        go_wp2
        go_loopg [5, 6, 7] k1 (fun kq v5 v6 v7 w' => ∃ (x5_2 : Int) (x6_2 : List Int) (x7_2 : Int), v5 = .int .i64 x5_2 ∧ v7 = .int .u64 x7_2 ∧ Aside0 (packfile_encodeCopyOperation.l1 kq a1 x5_2 x6_2 x7_2 = some r) ∧ Aside0 (kq ≤ k1) ∧ Aside0 (Kd.R (Kd.int .u8) 5 w' w.heap.size (fun _ => True) v6 x6_2) ∧ Aside0 (Below w.heap.size w w'))
        case atStart => exact ⟨(x5_1), (x6_1), (0), (by first | rfl | (simp; done) | (simp [*]; done)), (by first | rfl | (simp; done) | (simp [*]; done)), H', ⟨Nat.le_refl _⟩, ⟨by (with_reducible repeat (first | apply Kd.R_alloc | apply Kd.R_drewN | apply Kd.R_drew)); exact HO_6.out⟩, ⟨by repeat (first | (with_reducible first | exact HB.out | apply below_alloc | apply pw_below_drewN | apply below_drew1) | exact HB.out)⟩⟩
        case round =>
          clear H'
          try clear c1
          try clear c2
          try clear p2
          try clear c3
          try clear c3b0
          try clear c5
          try clear c5b0
          try clear c5b1
          try clear p6
          try clear c7
          try clear c7b0
          try clear c7b1
          try clear c8
          try clear c8b0
          try clear c10
          try clear c11
          try clear c11b0
          try clear c11b1
          try clear p2
          obtain ⟨x5_2, x6_2, x7_2, rfl, rfl, HA, HK2, HO_6, HB⟩ := hrel
          cases gk with
          | zero => exact absurd HA.out (by simp [packfile_encodeCopyOperation.l1])
          | succ k2 =>
            have H := HA.out
            clear HA
            simp only [packfile_encodeCopyOperation.l1] at H
            by_cases c14 : x7_2 < 3
            · rw [if_pos c14] at H
              have c14b0 : decide (x7_2 < 3) = true := decide_eq_true c14
              clear c14
              obtain ⟨ji15, hji15⟩ : ∃ j_ : Int, (IntKind.u64.wrap (x7_2 * 8)) = j_ := ⟨_, rfl⟩
              replace H : (if 0 ≤ (ji15) then (if (Go.bits .and .i64 a1 (shl .i64 255 (ji15))) = 0 then (packfile_encodeCopyOperation.l1 k2 a1 x5_2 x6_2 (IntKind.u64.wrap (x7_2 + 1))) else (if x6_2.length < 140737488355328 then (if 0 ≤ x7_2 then (packfile_encodeCopyOperation.l1 k2 a1 (Go.bits .or .i64 x5_2 (shl .i64 16 x7_2)) (x6_2 ++ [(shr .i64 (Go.bits .and .i64 a1 (shl .i64 255 (ji15))) (ji15)) % 256]) (IntKind.u64.wrap (x7_2 + 1))) else (none)) else (none))) else (none)) = some r := by first | (rw [hji15] at H; exact H) | (simp only [hji15] at H ⊢; exact H)
              by_cases c16 : 0 ≤ (ji15)
              · rw [if_pos c16] at H
                have c16b0 := eq_true c16
                have c16b1 : decide (0 ≤ (ji15)) = true := decide_eq_true c16
                clear c16
                obtain ⟨ji17, hji17⟩ : ∃ j_ : Int, (shl .i64 255 (ji15)) = j_ := ⟨_, rfl⟩
                replace H : (if (Go.bits .and .i64 a1 (ji17)) = 0 then (packfile_encodeCopyOperation.l1 k2 a1 x5_2 x6_2 (IntKind.u64.wrap (x7_2 + 1))) else (if x6_2.length < 140737488355328 then (if 0 ≤ x7_2 then (packfile_encodeCopyOperation.l1 k2 a1 (Go.bits .or .i64 x5_2 (shl .i64 16 x7_2)) (x6_2 ++ [(shr .i64 (Go.bits .and .i64 a1 (ji17)) (ji15)) % 256]) (IntKind.u64.wrap (x7_2 + 1))) else (none)) else (none))) = some r := by first | (rw [hji17] at H; exact H) | (simp only [hji17] at H ⊢; exact H)
                have hji17_ : (IntKind.i64.wrap (255 * 2 ^ min (ji15).toNat 64)) = ji17 := hji17
                have hji17z : (ji15) ≤ 64 → (IntKind.i64.wrap (255 * 2 ^ (ji15).toNat)) = ji17 := shl_small hji17
                have hji17y : (wrap64 (255 * 2 ^ min (ji15).toNat 64)) = ji17 := (i64_w _).symm.trans hji17_
                have hji17x : (ji15) ≤ 64 → (wrap64 (255 * 2 ^ (ji15).toNat)) = ji17 := fun h_ => (i64_w _).symm.trans (hji17z h_)
                by_cases c18 : (Go.bits .and .i64 a1 (ji17)) = 0
                · rw [if_pos c18] at H
                  have c18b0 : ((Go.bits .and .i64 a1 (ji17)) == 0) = true := beq_iff_eq.mpr c18
                  have c18b1 : ((Go.bits .and .i64 a1 (ji17)) != 0) = false := bne_eq_false_iff_eq.mpr c18
                  clear c18
                  have H' := Aside0.mk H
                  clear H
                  go_wp2
                  go_roundg k2
                  case measure => have := HK1.out; have := HK2.out; omega
                  case rel => exact ⟨(x5_2), (x6_2), (IntKind.u64.wrap (x7_2 + 1)), (by first | rfl | (simp; done) | (simp [*]; done)), (by first | rfl | (simp; done) | (simp [*]; done)), H', ⟨by have := HK1.out; have := HK2.out; omega⟩, ⟨by (with_reducible repeat (first | apply Kd.R_alloc | apply Kd.R_drewN | apply Kd.R_drew)); exact HO_6.out⟩, ⟨by repeat (first | (with_reducible first | exact HB.out | apply below_alloc | apply pw_below_drewN | apply below_drew1) | exact HB.out)⟩⟩
                · rw [if_neg c18] at H
                  have c18b0 : ((Go.bits .and .i64 a1 (ji17)) == 0) = false := beq_eq_false_iff_ne.mpr c18
                  have c18b1 : ((Go.bits .and .i64 a1 (ji17)) != 0) = true := bne_iff_ne.mpr c18
                  have c19b0 := eq_true (of_decide_eq_true (by first | (with_reducible assumption) | assumption) : 0 ≤ (ji15))
                  obtain ⟨ji20, hji20⟩ : ∃ j_ : Int, (shr .i64 (Go.bits .and .i64 a1 (ji17)) (ji15)) = j_ := ⟨_, rfl⟩
                  replace H : (if x6_2.length < 140737488355328 then (if 0 ≤ x7_2 then (packfile_encodeCopyOperation.l1 k2 a1 (Go.bits .or .i64 x5_2 (shl .i64 16 x7_2)) (x6_2 ++ [(ji20) % 256]) (IntKind.u64.wrap (x7_2 + 1))) else (none)) else (none)) = some r := by first | (rw [hji20] at H; exact H) | (simp only [hji20] at H ⊢; exact H)
                  have hji20_ : ((Go.bits .and .i64 a1 (ji17)) / 2 ^ min (ji15).toNat 64) = ji20 := hji20
                  have hji20z : (ji15) ≤ 64 → ((Go.bits .and .i64 a1 (ji17)) / 2 ^ (ji15).toNat) = ji20 := shr_small hji20
                  by_cases c21 : x6_2.length < 140737488355328
                  · rw [if_pos c21] at H
                    have LMc21 := Aside0.mk c21
                    clear c21
                    obtain ⟨y142, hy142⟩ : ∃ y_ : List Int, y_ = (x6_2 ++ [(ji20) % 256]) := ⟨_, rfl⟩
                    replace H : (if 0 ≤ x7_2 then (packfile_encodeCopyOperation.l1 k2 a1 (Go.bits .or .i64 x5_2 (shl .i64 16 x7_2)) y142 (IntKind.u64.wrap (x7_2 + 1))) else (none)) = some r := by first | (rw [hy142]; with_reducible exact H) | (have H2_ := (Option.bind_some _ _).symm.trans H; rw [hy142]; with_reducible exact H2_) | (have H2_ := (Option.bind_some _ _).symm.trans H; with_reducible exact H2_) | with_reducible exact H | (rw [hy142]; exact H) | exact H
                    have Ny142 := Aside0.mk hy142
                    clear hy142
                    by_cases c22 : 0 ≤ x7_2
                    · rw [if_pos c22] at H
                      have c22b0 := eq_true c22
                      have c22b1 : decide (0 ≤ x7_2) = true := decide_eq_true c22
                      clear c22
                      obtain ⟨ji23, hji23⟩ : ∃ j_ : Int, (shl .i64 16 x7_2) = j_ := ⟨_, rfl⟩
                      replace H : (packfile_encodeCopyOperation.l1 k2 a1 (Go.bits .or .i64 x5_2 (ji23)) y142 (IntKind.u64.wrap (x7_2 + 1))) = some r := by first | (rw [hji23] at H; exact H) | (simp only [hji23] at H ⊢; exact H)
                      have hji23_ : (IntKind.i64.wrap (16 * 2 ^ min x7_2.toNat 64)) = ji23 := hji23
                      have hji23z : x7_2 ≤ 64 → (IntKind.i64.wrap (16 * 2 ^ x7_2.toNat)) = ji23 := shl_small hji23
                      have hji23y : (wrap64 (16 * 2 ^ min x7_2.toNat 64)) = ji23 := (i64_w _).symm.trans hji23_
                      have hji23x : x7_2 ≤ 64 → (wrap64 (16 * 2 ^ x7_2.toNat)) = ji23 := fun h_ => (i64_w _).symm.trans (hji23z h_)
                      have H' := Aside0.mk H
                      clear H
                      go_wp2_with (first | ((with_reducible refine gate_builtin (b := .append) (xs := #[.tmp 46, .tmp 54]) rfl ?_); at_builtin; refine Kd.R_append (Kd.int .u8) (w0 := w) w.heap.size rfl (.tmp 46) (.tmp 54) 22 5 (.int .u8 0) 1 rfl Tryd.underlying22 info5 rfl (by decide) (by omega) u6 x6_2 ((ji20) % 256) [.int .u8 ((ji20) % 256)] (fun _ => True) (fun _ => False) rfl rfl ?aP (fun _ hk => hk.elim) ?aF ?aO ?aB ?aS ?aL ?_; (case aP => exact rfl); (case aB => exact (by repeat (first | (with_reducible first | exact HB.out | apply below_alloc | apply pw_below_drewN | apply below_drew1) | exact HB.out))); (case aF => exact (fun _ _ => trivial)); (case aO => exact (by (with_reducible repeat (first | apply Kd.R_alloc | apply Kd.R_drewN | apply Kd.R_drew)); exact HO_6.out)); (case aS => exact (below_size (by repeat (first | (with_reducible first | exact HB.out | apply below_alloc | apply pw_below_drewN | apply below_drew1) | exact HB.out)))); (case aL => have := LMc21.out; omega); intro v143 w24 ho hb hg hat; rw [← Ny142.out] at ho; have n0_ := Aside0.mk (hb); have n1_ := Aside0.mk (ho); clear HB; clear HO_6; have HB := n0_; have HO144 := n1_; clear n0_ n1_; clear ho hb hg hat))
                      go_roundg k2
                      case measure => have := HK1.out; have := HK2.out; omega
                      case rel => exact ⟨(Go.bits .or .i64 x5_2 (ji23)), (y142), (IntKind.u64.wrap (x7_2 + 1)), (by first | rfl | (simp; done) | (simp only [← hji23] <;> (first | rfl | simp)) | (simp [*]; done)), (by first | rfl | (simp; done) | (simp [*]; done)), H', ⟨by have := HK1.out; have := HK2.out; omega⟩, ⟨by (with_reducible repeat (first | apply Kd.R_alloc | apply Kd.R_drewN | apply Kd.R_drew)); exact HO144.out⟩, ⟨by repeat (first | (with_reducible first | exact HB.out | apply below_alloc | apply pw_below_drewN | apply below_drew1) | exact HB.out)⟩⟩
                    · rw [if_neg c22] at H
                      exact absurd H (by simp)
                  · rw [if_neg c21] at H
                    exact absurd H (by simp)
              · rw [if_neg c16] at H
                exact absurd H (by simp)
            · rw [if_neg c14] at H
              have c14b0 : decide (x7_2 < 3) = false := decide_eq_false c14
              clear c14
              obtain ⟨y145, hy145⟩ : ∃ y_ : List Int, y_ = (([(x5_2) % 256] : List Int)) := ⟨_, rfl⟩
              replace H : (if y145.length + x6_2.length < 140737488355328 then (some (y145 ++ x6_2)) else (none)) = some r := by first | (rw [hy145]; with_reducible exact H) | (have H2_ := (Option.bind_some _ _).symm.trans H; rw [hy145]; with_reducible exact H2_) | (have H2_ := (Option.bind_some _ _).symm.trans H; with_reducible exact H2_) | with_reducible exact H | (rw [hy145]; exact H) | exact H
              have Ny145 := Aside0.mk hy145
              clear hy145
              by_cases c25 : y145.length + x6_2.length < 140737488355328
              · rw [if_pos c25] at H
                have LMc25 := Aside0.mk c25
                clear c25
                obtain ⟨y148, hy148⟩ : ∃ y_ : List Int, y_ = (y145 ++ x6_2) := ⟨_, rfl⟩
                replace H : (some y148) = some r := by first | (rw [hy148]; with_reducible exact H) | (have H2_ := (Option.bind_some _ _).symm.trans H; rw [hy148]; with_reducible exact H2_) | (have H2_ := (Option.bind_some _ _).symm.trans H; with_reducible exact H2_) | with_reducible exact H | (rw [hy148]; exact H) | exact H
                have Ny148 := Aside0.mk hy148
                clear hy148
                obtain rfl := Option.some.inj H
                go_wp2_with (first | ((with_reducible refine gate_dst (N := 62) rfl ?_); refine Kd.R_lit (Kd.int .u8) _ 5 ?hg (N := 62) ?hd (xs := ([(x5_2) % 256] : List Int)) (inner := [.int .u8 ((x5_2) % 256)]) (ok := fun _ => True) (okp := fun _ => True) ?hr ?hp (fun _ hk => hk) trivial (Below.refl _ _) (Nat.le_refl _) (by simp) ?_; (case hd => rfl); (case hg => rfl); (case hr => first | (go_simp; done) | (go_simp; rfl)); (case hp => exact (Reps.one (show Kd.M (Kd.int .u8) _ _ _ ((x5_2) % 256) [.int .u8 ((x5_2) % 256)] from rfl) (Reps.none _ _))); intro v146 w26 ho27 hb hg_ hnew_; clear hg_ hnew_; (first | rw [← Ny145.out] at ho27 | (simp only [Int.reduceToNat] at ho27; rw [← Ny145.out] at ho27)); have n0_ := Aside0.mk (Kd.R_elder' (by (with_reducible repeat (first | apply Kd.R_alloc | apply Kd.R_drewN | apply Kd.R_drew)); exact HO_6.out) (Kd.R_base ho27) hb); have n1_ := Aside0.mk (Kd.R_lower (Kd.R_new' ho27 (Kd.R_lt (by (with_reducible repeat (first | apply Kd.R_alloc | apply Kd.R_drewN | apply Kd.R_drew)); exact HO_6.out))) (below_size (by repeat (first | (with_reducible first | exact HB.out | apply below_alloc | apply pw_below_drewN | apply below_drew1) | exact HB.out)))); have n2_ := Aside0.mk (below_step (by repeat (first | (with_reducible first | exact HB.out | apply below_alloc | apply pw_below_drewN | apply below_drew1) | exact HB.out)) hb); clear HO_6; clear HB; have HO_6 := n0_; have HO147 := n1_; have HB := n2_; clear n0_ n1_ n2_; clear hb ho27; obtain ⟨Ao29, co29, eo29⟩ := Kd.R_slice HO_6.out; subst eo29) | ((with_reducible refine gate_builtin (b := .append) (xs := #[.tmp 62, .tmp 63]) rfl ?_); at_builtin; refine Kd.R_append_rows (Kd.int .u8) (w0 := w) w.heap.size rfl (.tmp 62) (.tmp 63) 22 5 (.int .u8 0) 1 rfl Tryd.underlying22 info5 rfl (by decide) (by omega) v146 y145 x6_2 _ _ _ (fun k_ => some k_ ≠ (.slice Ao29 x6_2.length co29 : Value).ownBlock) (fun _ => False) rfl rfl ?aO ?aR (fun _ _ h => h) (fun _ h => h.elim) ?aF ?aB ?aS ?aL ?_; (case aR => repeat (first | exact (Kd.R_reads' HO_6.out).2.2 | (with_reducible refine Kd.C_alloc ?_ _) | (with_reducible refine Kd.C_drewN ?_ _) | (with_reducible refine Kd.C_drew ?_))); (case aB => exact (by repeat (first | (with_reducible first | exact HB.out | apply below_alloc | apply pw_below_drewN | apply below_drew1) | exact HB.out))); (case aF => exact (fun k_ hk => Kd.fresh' (Kd.R_lt (by (with_reducible repeat (first | apply Kd.R_alloc | apply Kd.R_drewN | apply Kd.R_drew)); exact HO_6.out)) k_ hk)); (case aO => exact (by (with_reducible repeat (first | apply Kd.R_alloc | apply Kd.R_drewN | apply Kd.R_drew)); exact Kd.R_mono HO147.out (fun _ hk => hk.2))); (case aS => exact (below_size (by repeat (first | (with_reducible first | exact HB.out | apply below_alloc | apply pw_below_drewN | apply below_drew1) | exact HB.out)))); (case aL => have := LMc25.out; omega); intro v149 w28 ho hb hg hat; rw [← Ny148.out] at ho; have n0_ := Aside0.mk (Kd.R_after (ok := (fun _ => True)) (by (with_reducible repeat (first | apply Kd.R_alloc | apply Kd.R_drewN | apply Kd.R_drew)); exact HO_6.out) hg hat); have n1_ := Aside0.mk (hb); have n2_ := Aside0.mk (ho); clear HO_6; clear HB; clear HO147; have HO_6 := n0_; have HB := n1_; have HO150 := n2_; clear n0_ n1_ n2_; clear ho hb hg hat))
                go_ret
                exact ⟨_, by first | rfl | (simp [errW_none, errW_some] <;> rfl) | (simp [*, errW_none, errW_some] <;> rfl), by (with_reducible repeat (first | apply Kd.R_alloc | apply Kd.R_drewN | apply Kd.R_drew)); exact Kd.R_mono HO150.out (fun _ hk => trivial), by repeat (first | (with_reducible first | exact HB.out | apply below_alloc | apply pw_below_drewN | apply below_drew1) | exact HB.out)⟩
              · rw [if_neg c25] at H
                exact absurd H (by simp)

-- NOT PRINTED: function 15 (packfile_diffDelta)

-- NOT PRINTED: function 11 (packfile_DiffDelta)

-- NOT PRINTED: function 7 (impl_Diff)

/-! ### spec_readSize7: function 13 -/
def spec_readSize7.l0 : Nat → List Int → Int → List Int → Int → Int → Option (Int × List Int × Int)
  | 0, _, _, _, _, _ => none
  | k + 1, x0, x5, x8, x9, x10 => if x10 < x9 then (if 0 ≤ x10 then (if x10 < (x8.length : Int) then (if x10 = 4 then (some (0, ([] : List Int), 2)) else (if 0 ≤ (wrap64 (7 * x10)) then (if (rd x8 x10) < 128 then (if 0 ≤ (wrap64 (x10 + 1)) then (if (wrap64 (x10 + 1)) ≤ (x0.length : Int) then (some (wrap64 (x5 + (shl .i64 (wrap64 (Int.tmod (rd x8 x10) 128)) (wrap64 (7 * x10)))), (x0.drop ((wrap64 (x10 + 1)) : Int).toNat), 0)) else (none)) else (none)) else (spec_readSize7.l0 k x0 (wrap64 (x5 + (shl .i64 (wrap64 (Int.tmod (rd x8 x10) 128)) (wrap64 (7 * x10))))) x8 x9 (wrap64 (x10 + 1)))) else (none))) else (none)) else (none)) else (some (0, ([] : List Int), 1))
def spec_readSize7.f (k : Nat) (l0 : List Int) : Option (Int × List Int × Int) := spec_readSize7.l0 k l0 0 l0 (l0.length : Int) 0
theorem spec_readSize7.mono_l : ∀ k, (∀ y0 y1 y2 y3 y4, LeO (spec_readSize7.l0 k y0 y1 y2 y3 y4) (spec_readSize7.l0 (k + 1) y0 y1 y2 y3 y4))
  | 0 => fun _ _ _ _ _ r h => by simp [spec_readSize7.l0] at h
  | k + 1 => by
    have ih0 := spec_readSize7.mono_l k
    · intro y0 y1 y2 y3 y4
      unfold spec_readSize7.l0
      repeat' first
      | (with_reducible exact ih0 _ _ _ _ _)
      | (with_reducible exact LeO.refl _)
      | (with_reducible exact LeO.none _)
      | (with_reducible refine LeO.ite ?_ ?_)
      | (with_reducible refine LeO.bind ?_ (fun _ => ?_))
      | exact ih0 _ _ _ _ _
      | exact LeO.none _
      | refine LeO.ite ?_ ?_
      | refine LeO.bind ?_ (fun _ => ?_)
theorem spec_readSize7.mono : ∀ a0 k, LeO (spec_readSize7.f k a0) (spec_readSize7.f (k + 1) a0) := by
  intro a0 k
  have ih0 := spec_readSize7.mono_l k
  unfold spec_readSize7.f
  repeat' first
      | (with_reducible exact ih0 _ _ _ _ _)
      | (with_reducible exact LeO.refl _)
      | (with_reducible exact LeO.none _)
      | (with_reducible refine LeO.ite ?_ ?_)
      | (with_reducible refine LeO.bind ?_ (fun _ => ?_))
      | exact ih0 _ _ _ _ _
      | exact LeO.none _
      | refine LeO.ite ?_ ?_
      | refine LeO.bind ?_ (fun _ => ?_)
set_option maxHeartbeats 8000000 in
set_option maxRecDepth 100000 in
theorem spec_readSize7.calls (k : Nat) (P0_ : Nat → Prop) (u9000_ : Value) (l0 : List Int) (r1 : Int) (r2 : List Int) (r3 : Int) (w0 w : World) (hB : Below w0.heap.size w0 w) (ho0 : Kd.V (Kd.int .u8) 5 w w0.heap.size P0_ u9000_ l0) (h : spec_readSize7.f k l0 = some (r1, r2, r3)) :
    Calls Tryd.prog 13 #[u9000_] w fun e w' => ∃ v1_ : Value, e = .returned (.tuple #[.int .i64 r1, v1_, .int .i64 r3]) ∧ Kd.V (Kd.int .u8) 5 w' w0.heap.size (fun k_ => (P0_ k_ ∨ w.heap.size ≤ k_)) v1_ r2 ∧ Below w0.heap.size w0 w' ∧ Kept w w' (fun k_ => P0_ k_) := by
  have HO0 := Aside0.mk (show Kd.V (Kd.int .u8) 5 w w0.heap.size (fun k_ => (P0_ k_ ∨ w.heap.size ≤ k_)) u9000_ l0 from Kd.V_mono ho0 (fun k_ hk => (.inl hk)))
  have HK := Aside0.mk (Kept.refl w (fun k_ => P0_ k_))
  have HW0 := Aside0.mk hB.size
  have HB := Aside0.mk hB
  clear hB
  have H : (spec_readSize7.l0 k l0 0 l0 (l0.length : Int) 0) = some (r1, r2, r3) := h
  clear h
  have H' := Aside0.mk H
  clear H
  obtain ⟨Ao2, co2, eo2⟩ := Kd.V_slice HO0.out
  subst eo2
  go_enter Tryd.func13, Tryd.ntmps13
  go_wp2
  repeat (go_quiet (fail); try go_wp2)
  go_loopg [5, 10] k (fun kq v5 v10 w' => ∃ (x5_1 : Int) (x10_1 : Int), v5 = .int .i64 x5_1 ∧ v10 = .int .i64 x10_1 ∧ Aside0 (spec_readSize7.l0 kq l0 x5_1 l0 (l0.length : Int) x10_1 = some (r1, r2, r3)) ∧ Aside0 (kq ≤ k) ∧ Aside0 (Kd.V (Kd.int .u8) 5 w' w0.heap.size (fun k_ => (P0_ k_ ∨ w.heap.size ≤ k_)) (.slice Ao2 l0.length co2) l0) ∧ Aside0 (Kd.V (Kd.int .u8) 5 w' w0.heap.size (fun k_ => (P0_ k_ ∨ w.heap.size ≤ k_)) (.slice Ao2 l0.length co2) l0) ∧ Aside0 (Kept w w' (fun k_ => P0_ k_)) ∧ Aside0 (Below w0.heap.size w0 w'))
  case atStart => exact ⟨(0), (0), (by first | rfl | (simp; done) | (simp [*]; done)), (by first | rfl | (simp; done) | (simp [*]; done)), H', ⟨Nat.le_refl _⟩, ⟨by (with_reducible repeat (first | apply Kd.V_alloc | apply Kd.V_drewN | apply Kd.V_drew)); exact HO0.out⟩, ⟨by (with_reducible repeat (first | apply Kd.V_alloc | apply Kd.V_drewN | apply Kd.V_drew)); exact HO0.out⟩, ⟨by repeat (first | (with_reducible first | exact HK.out | apply Kept.alloc | apply Kept.drewN | apply Kept.drew) | exact HK.out)⟩, ⟨by repeat (first | (with_reducible first | exact HB.out | apply below_alloc | apply pw_below_drewN | apply below_drew1) | exact HB.out)⟩⟩
  case round =>
    clear H'
    try clear c1
    try clear p2
    obtain ⟨x5_1, x10_1, rfl, rfl, HA, HK1, HO_0, HO_8, HK, HB⟩ := hrel
    cases gk with
    | zero => exact absurd HA.out (by simp [spec_readSize7.l0])
    | succ k1 =>
      have H := HA.out
      clear HA
      simp only [spec_readSize7.l0] at H
      by_cases c3 : x10_1 < (l0.length : Int)
      · rw [if_pos c3] at H
        have c3b0 : decide (x10_1 < (l0.length : Int)) = true := decide_eq_true c3
        clear c3
        by_cases c4 : 0 ≤ x10_1
        · rw [if_pos c4] at H
          have c4b0 : decide (0 ≤ x10_1) = true := decide_eq_true c4
          clear c4
          by_cases c5 : x10_1 < (l0.length : Int)
          · rw [if_pos c5] at H
            have c5b0 : decide (x10_1 < (l0.length : Int)) = true := decide_eq_true c5
            clear c5
            by_cases c6 : x10_1 = 4
            · rw [if_pos c6] at H
              have c6b0 : (x10_1 == 4) = true := beq_iff_eq.mpr c6
              have c6b1 : (x10_1 != 4) = false := bne_eq_false_iff_eq.mpr c6
              clear c6
              simp only [Option.some.injEq, Prod.mk.injEq] at H
              obtain ⟨rfl, rfl, rfl⟩ := H
              have p168 : 0 ≤ (x10_1 : Int) := of_decide_eq_true (by first | (with_reducible assumption) | assumption)
              have q168 : x10_1 < (l0.length : Int) := of_decide_eq_true (by first | (with_reducible assumption) | assumption)
              obtain ⟨ad168, e168, hx168_0⟩ := Kd.at_int (Kd.V_reads' HO_8.out).2.2 x10_1 p168 q168
              cases e168
              replace p168 := eq_true p168
              replace q168 := eq_true q168
              go_wp2
              repeat (go_quiet (fail); try go_wp2)
              go_ret3
              exact ⟨_, by first | rfl | (simp [errW_none, errW_some] <;> rfl) | (simp [*, errW_none, errW_some] <;> rfl), Kd.V_nil _ _ _ _ _, by repeat (first | (with_reducible first | exact HB.out | apply below_alloc | apply pw_below_drewN | apply below_drew1) | exact HB.out), by repeat (first | (with_reducible first | exact HK.out | apply Kept.alloc | apply Kept.drewN | apply Kept.drew) | exact HK.out)⟩
            · rw [if_neg c6] at H
              have c6b0 : (x10_1 == 4) = false := beq_eq_false_iff_ne.mpr c6
              have c6b1 : (x10_1 != 4) = true := bne_iff_ne.mpr c6
              obtain ⟨ji7, hji7⟩ : ∃ j_ : Int, (wrap64 (7 * x10_1)) = j_ := ⟨_, rfl⟩
              replace H : (if 0 ≤ (ji7) then (if (rd l0 x10_1) < 128 then (if 0 ≤ (wrap64 (x10_1 + 1)) then (if (wrap64 (x10_1 + 1)) ≤ (l0.length : Int) then (some (wrap64 (x5_1 + (shl .i64 (wrap64 (Int.tmod (rd l0 x10_1) 128)) (ji7))), (l0.drop ((wrap64 (x10_1 + 1)) : Int).toNat), 0)) else (none)) else (none)) else (spec_readSize7.l0 k1 l0 (wrap64 (x5_1 + (shl .i64 (wrap64 (Int.tmod (rd l0 x10_1) 128)) (ji7)))) l0 (l0.length : Int) (wrap64 (x10_1 + 1)))) else (none)) = some (r1, r2, r3) := by first | (rw [hji7] at H; exact H) | (simp only [hji7] at H ⊢; exact H)
              have hji7w : (IntKind.i64.wrap (7 * x10_1)) = ji7 := (i64_w _).trans hji7
              by_cases c8 : 0 ≤ (ji7)
              · rw [if_pos c8] at H
                have c8b0 := eq_true c8
                have c8b1 : decide (0 ≤ (ji7)) = true := decide_eq_true c8
                clear c8
                obtain ⟨ji9, hji9⟩ : ∃ j_ : Int, (shl .i64 (wrap64 (Int.tmod (rd l0 x10_1) 128)) (ji7)) = j_ := ⟨_, rfl⟩
                replace H : (if (rd l0 x10_1) < 128 then (if 0 ≤ (wrap64 (x10_1 + 1)) then (if (wrap64 (x10_1 + 1)) ≤ (l0.length : Int) then (some (wrap64 (x5_1 + (ji9)), (l0.drop ((wrap64 (x10_1 + 1)) : Int).toNat), 0)) else (none)) else (none)) else (spec_readSize7.l0 k1 l0 (wrap64 (x5_1 + (ji9))) l0 (l0.length : Int) (wrap64 (x10_1 + 1)))) = some (r1, r2, r3) := by first | (rw [hji9] at H; exact H) | (simp only [hji9] at H ⊢; exact H)
                have hji9_ : (IntKind.i64.wrap ((wrap64 (Int.tmod (rd l0 x10_1) 128)) * 2 ^ min (ji7).toNat 64)) = ji9 := hji9
                have hji9z : (ji7) ≤ 64 → (IntKind.i64.wrap ((wrap64 (Int.tmod (rd l0 x10_1) 128)) * 2 ^ (ji7).toNat)) = ji9 := shl_small hji9
                have hji9y : (wrap64 ((wrap64 (Int.tmod (rd l0 x10_1) 128)) * 2 ^ min (ji7).toNat 64)) = ji9 := (i64_w _).symm.trans hji9_
                have hji9x : (ji7) ≤ 64 → (wrap64 ((wrap64 (Int.tmod (rd l0 x10_1) 128)) * 2 ^ (ji7).toNat)) = ji9 := fun h_ => (i64_w _).symm.trans (hji9z h_)
                by_cases c10 : (rd l0 x10_1) < 128
                · rw [if_pos c10] at H
                  have c10b0 : decide ((rd l0 x10_1) < 128) = true := decide_eq_true c10
                  clear c10
                  obtain ⟨ji11, hji11⟩ : ∃ j_ : Int, (wrap64 (x10_1 + 1)) = j_ := ⟨_, rfl⟩
                  replace H : (if 0 ≤ (ji11) then (if (ji11) ≤ (l0.length : Int) then (some (wrap64 (x5_1 + (ji9)), (l0.drop ((ji11) : Int).toNat), 0)) else (none)) else (none)) = some (r1, r2, r3) := by first | (rw [hji11] at H; exact H) | (simp only [hji11] at H ⊢; exact H)
                  have hji11w : (IntKind.i64.wrap (x10_1 + 1)) = ji11 := (i64_w _).trans hji11
                  by_cases c12 : 0 ≤ (ji11)
                  · rw [if_pos c12] at H
                    have c12b0 := eq_true c12
                    have c12b1 : decide (0 ≤ (ji11)) = true := decide_eq_true c12
                    clear c12
                    by_cases c13 : (ji11) ≤ (l0.length : Int)
                    · rw [if_pos c13] at H
                      have c13b0 := eq_true c13
                      have c13b1 : decide ((ji11) ≤ (l0.length : Int)) = true := decide_eq_true c13
                      clear c13
                      obtain ⟨y169, hy169⟩ : ∃ y_ : List Int, y_ = (l0.drop ((ji11) : Int).toNat) := ⟨_, rfl⟩
                      replace H : (some (wrap64 (x5_1 + (ji9)), y169, 0)) = some (r1, r2, r3) := by first | (rw [hy169]; with_reducible exact H) | (have H2_ := (Option.bind_some _ _).symm.trans H; rw [hy169]; with_reducible exact H2_) | (have H2_ := (Option.bind_some _ _).symm.trans H; with_reducible exact H2_) | with_reducible exact H | (rw [hy169]; exact H) | exact H
                      have Ny169 := Aside0.mk hy169
                      clear hy169
                      simp only [Option.some.injEq, Prod.mk.injEq] at H
                      obtain ⟨rfl, rfl, rfl⟩ := H
                      have p168 : 0 ≤ (x10_1 : Int) := of_decide_eq_true (by first | (with_reducible assumption) | assumption)
                      have q168 : x10_1 < (l0.length : Int) := of_decide_eq_true (by first | (with_reducible assumption) | assumption)
                      obtain ⟨ad168, e168, hx168_0⟩ := Kd.at_int (Kd.V_reads' HO_8.out).2.2 x10_1 p168 q168
                      cases e168
                      replace p168 := eq_true p168
                      replace q168 := eq_true q168
                      have q14 : ((ji11) : Int) ≤ ((l0.length : Int) : Int) := of_decide_eq_true (by first | (with_reducible assumption) | assumption)
                      obtain ⟨i014, hi014, _, hsz14, _⟩ := info_parts info5
                      have hcut14 := cut_from (P := Tryd.prog) 22 5 .i64 Tryd.underlying22 hi014 1 hsz14 (some ad168) l0.length co2 (ji11) (of_decide_eq_true (by first | (with_reducible assumption) | assumption)) q14
                      have hr14 := Kd.F_cut (m := ((ji11) : Int).toNat) (c := co2) (Kd.V_at (base := w0.heap.size) HO_0.out).2.2 (by omega) (Kd.V_reads' HO_0.out).2.1
                      have hroom14 : l0.length ≤ co2 := (Kd.V_reads' HO_0.out).2.1
                      obtain ⟨A14, hA14⟩ : ∃ A1, A1 = (if co2 = ((ji11) : Int).toNat then (some ad168) else ((some ad168) : Option Addr).map (·.add (((ji11) : Int).toNat * 1))) := ⟨_, rfl⟩
                      obtain ⟨c14, hc14⟩ : ∃ c1, c1 = co2 - ((ji11) : Int).toNat := ⟨_, rfl⟩
                      have hy14 : y169.length = l0.length - ((ji11) : Int).toNat := (by rw [Ny169.out, List.length_drop])
                      rw [show (l0).drop ((ji11) : Int).toNat = y169 from Ny169.out.symm] at hr14
                      replace hr14 : Kd.F (Kd.int .u8) _ _ A14 y169.length y169 := (by rw [hA14]; exact hr14)
                      rw [← hy14, ← hA14, ← hc14] at hcut14
                      have HO171 := Aside0.mk (show Kd.V (Kd.int .u8) 5 _ w0.heap.size _ (.slice A14 y169.length c14) y169 from Kd.V_mk (by rw [hy14, hc14]; exact Nat.sub_le_sub_right hroom14 _) hr14)
                      clear hr14 hroom14 hi014 hsz14 HO_0 hA14 hc14 hy14
                      replace q14 := eq_true q14
                      go_wp2
                      repeat (go_quiet (fail); try go_wp2)
                      go_ret3
                      exact ⟨_, by first | rfl | (simp [errW_none, errW_some] <;> rfl) | (simp only [← hji7, ← hji9, ← hji11]; first | rfl | (simp [errW_none, errW_some] <;> rfl)) | (simp [*, errW_none, errW_some] <;> rfl), by (with_reducible repeat (first | apply Kd.V_alloc | apply Kd.V_drewN | apply Kd.V_drew)); exact HO171.out, by repeat (first | (with_reducible first | exact HB.out | apply below_alloc | apply pw_below_drewN | apply below_drew1) | exact HB.out), by repeat (first | (with_reducible first | exact HK.out | apply Kept.alloc | apply Kept.drewN | apply Kept.drew) | exact HK.out)⟩
                    · rw [if_neg c13] at H
                      exact absurd H (by simp)
                  · rw [if_neg c12] at H
                    exact absurd H (by simp)
                · rw [if_neg c10] at H
                  have c10b0 : decide ((rd l0 x10_1) < 128) = false := decide_eq_false c10
                  clear c10
                  have H' := Aside0.mk H
                  clear H
                  have p168 : 0 ≤ (x10_1 : Int) := of_decide_eq_true (by first | (with_reducible assumption) | assumption)
                  have q168 : x10_1 < (l0.length : Int) := of_decide_eq_true (by first | (with_reducible assumption) | assumption)
                  obtain ⟨ad168, e168, hx168_0⟩ := Kd.at_int (Kd.V_reads' HO_8.out).2.2 x10_1 p168 q168
                  cases e168
                  replace p168 := eq_true p168
                  replace q168 := eq_true q168
                  go_wp2
                  repeat (go_quiet (fail); try go_wp2)
                  go_roundg k1
                  case measure => have := HK1.out; omega
                  case rel => exact ⟨(wrap64 (x5_1 + (ji9))), (wrap64 (x10_1 + 1)), (by first | rfl | (simp; done) | (simp only [← hji9] <;> (first | rfl | simp)) | (simp [*]; done)), (by first | rfl | (simp; done) | (simp [*]; done)), H', ⟨by have := HK1.out; omega⟩, ⟨by (with_reducible repeat (first | apply Kd.V_alloc | apply Kd.V_drewN | apply Kd.V_drew)); exact HO_0.out⟩, ⟨by (with_reducible repeat (first | apply Kd.V_alloc | apply Kd.V_drewN | apply Kd.V_drew)); exact HO_8.out⟩, ⟨by repeat (first | (with_reducible first | exact HK.out | apply Kept.alloc | apply Kept.drewN | apply Kept.drew) | exact HK.out)⟩, ⟨by repeat (first | (with_reducible first | exact HB.out | apply below_alloc | apply pw_below_drewN | apply below_drew1) | exact HB.out)⟩⟩
              · rw [if_neg c8] at H
                exact absurd H (by simp)
          · rw [if_neg c5] at H
            exact absurd H (by simp)
        · rw [if_neg c4] at H
          exact absurd H (by simp)
      · rw [if_neg c3] at H
        have c3b0 : decide (x10_1 < (l0.length : Int)) = false := decide_eq_false c3
        clear c3
        simp only [Option.some.injEq, Prod.mk.injEq] at H
        obtain ⟨rfl, rfl, rfl⟩ := H
        go_wp2
        repeat (go_quiet (fail); try go_wp2)
        go_ret3
        exact ⟨_, by first | rfl | (simp [errW_none, errW_some] <;> rfl) | (simp [*, errW_none, errW_some] <;> rfl), Kd.V_nil _ _ _ _ _, by repeat (first | (with_reducible first | exact HB.out | apply below_alloc | apply pw_below_drewN | apply below_drew1) | exact HB.out), by repeat (first | (with_reducible first | exact HK.out | apply Kept.alloc | apply Kept.drewN | apply Kept.drew) | exact HK.out)⟩

/-! ### spec_readCopy: function 14 -/
def spec_readCopy.l0 : Nat → Int → List Int → Int → Int → Int → Option (Int × Int × List Int × Int)
  | 0, _, _, _, _, _ => none
  | k + 1, x0, x1, x8, x9, x11 => if x11 < 7 then (if 0 ≤ x11 then (if (Go.bits .and .u8 (shr .u8 x0 x11) 1) = 0 then (spec_readCopy.l0 k x0 x1 x8 x9 (wrap64 (x11 + 1))) else (if (x1.length : Int) = 0 then (some (0, 0, ([] : List Int), 1)) else (if x11 < 4 then (if 0 < (x1.length : Int) then (if 0 ≤ (wrap64 (8 * x11)) then (if 1 ≤ (x1.length : Int) then (spec_readCopy.l0 k x0 (x1.drop 1) (wrap64 (x8 + (shl .i64 (wrap64 (rd x1 0)) (wrap64 (8 * x11))))) x9 (wrap64 (x11 + 1))) else (none)) else (none)) else (none)) else (if 0 < (x1.length : Int) then (if 0 ≤ (wrap64 (8 * (wrap64 (x11 - 4)))) then (if 1 ≤ (x1.length : Int) then (spec_readCopy.l0 k x0 (x1.drop 1) x8 (wrap64 (x9 + (shl .i64 (wrap64 (rd x1 0)) (wrap64 (8 * (wrap64 (x11 - 4))))))) (wrap64 (x11 + 1))) else (none)) else (none)) else (none))))) else (none)) else (if x9 = 0 then (some (x8, 65536, x1, 0)) else (some (x8, x9, x1, 0)))
def spec_readCopy.f (k : Nat) (a0 : Int) (l1 : List Int) : Option (Int × Int × List Int × Int) := spec_readCopy.l0 k a0 l1 0 0 0
theorem spec_readCopy.mono_l : ∀ k, (∀ y0 y1 y2 y3 y4, LeO (spec_readCopy.l0 k y0 y1 y2 y3 y4) (spec_readCopy.l0 (k + 1) y0 y1 y2 y3 y4))
  | 0 => fun _ _ _ _ _ r h => by simp [spec_readCopy.l0] at h
  | k + 1 => by
    have ih0 := spec_readCopy.mono_l k
    · intro y0 y1 y2 y3 y4
      unfold spec_readCopy.l0
      repeat' first
      | (with_reducible exact ih0 _ _ _ _ _)
      | (with_reducible exact LeO.refl _)
      | (with_reducible exact LeO.none _)
      | (with_reducible refine LeO.ite ?_ ?_)
      | (with_reducible refine LeO.bind ?_ (fun _ => ?_))
      | exact ih0 _ _ _ _ _
      | exact LeO.none _
      | refine LeO.ite ?_ ?_
      | refine LeO.bind ?_ (fun _ => ?_)
theorem spec_readCopy.mono : ∀ a0 a1 k, LeO (spec_readCopy.f k a0 a1) (spec_readCopy.f (k + 1) a0 a1) := by
  intro a0 a1 k
  have ih0 := spec_readCopy.mono_l k
  unfold spec_readCopy.f
  repeat' first
      | (with_reducible exact ih0 _ _ _ _ _)
      | (with_reducible exact LeO.refl _)
      | (with_reducible exact LeO.none _)
      | (with_reducible refine LeO.ite ?_ ?_)
      | (with_reducible refine LeO.bind ?_ (fun _ => ?_))
      | exact ih0 _ _ _ _ _
      | exact LeO.none _
      | refine LeO.ite ?_ ?_
      | refine LeO.bind ?_ (fun _ => ?_)
set_option maxHeartbeats 8000000 in
set_option maxRecDepth 100000 in
theorem spec_readCopy.calls (k : Nat) (a0 : Int) (P1_ : Nat → Prop) (A1 : Option Addr) (c1 : Nat) (l1 : List Int) (r1 : Int) (r2 : Int) (r3 : List Int) (r4 : Int) (w : World) (hs1 : Kd.V (Kd.int .u8) 5 w w.heap.size (fun k_ => P1_ k_) (.slice A1 l1.length c1) l1) (h : spec_readCopy.f k a0 l1 = some (r1, r2, r3, r4)) :
    Calls Tryd.prog 14 #[.int .u8 a0, .slice A1 l1.length c1] w fun e w' => ∃ v2_ : Value, e = .returned (.tuple #[.int .i64 r1, .int .i64 r2, v2_, .int .i64 r4]) ∧ Kd.V (Kd.int .u8) 5 w' w.heap.size (fun k_ => (P1_ k_ ∨ w.heap.size ≤ k_)) v2_ r3 ∧ Below w.heap.size w w' := by
  have HO1 := Aside0.mk (show Kd.V (Kd.int .u8) 5 w w.heap.size (fun k_ => (P1_ k_ ∨ w.heap.size ≤ k_)) (.slice A1 l1.length c1) l1 from Kd.V_mono hs1 (fun k_ hk => .inl hk))
  have HB := Aside0.mk (Below.refl w.heap.size w)
  have H : (spec_readCopy.l0 k a0 l1 0 0 0) = some (r1, r2, r3, r4) := h
  clear h
  have H' := Aside0.mk H
  clear H
  go_enter Tryd.func14, Tryd.ntmps14
  go_wp2
  go_loopg [1, 8, 9, 11] k (fun kq v1 v8 v9 v11 w' => ∃ (x1_1 : List Int) (x8_1 : Int) (x9_1 : Int) (x11_1 : Int), v8 = .int .i64 x8_1 ∧ v9 = .int .i64 x9_1 ∧ v11 = .int .i64 x11_1 ∧ Aside0 (spec_readCopy.l0 kq a0 x1_1 x8_1 x9_1 x11_1 = some (r1, r2, r3, r4)) ∧ Aside0 (kq ≤ k) ∧ Aside0 (Kd.V (Kd.int .u8) 5 w' w.heap.size (fun k_ => (P1_ k_ ∨ w.heap.size ≤ k_)) v1 x1_1) ∧ Aside0 (Below w.heap.size w w'))
  case atStart => exact ⟨(l1), (0), (0), (0), (by first | rfl | (simp; done) | (simp [*]; done)), (by first | rfl | (simp; done) | (simp [*]; done)), (by first | rfl | (simp; done) | (simp [*]; done)), H', ⟨Nat.le_refl _⟩, ⟨by (with_reducible repeat (first | apply Kd.V_alloc | apply Kd.V_drewN | apply Kd.V_drew)); exact HO1.out⟩, ⟨by repeat (first | (with_reducible first | exact HB.out | apply below_alloc | apply pw_below_drewN | apply below_drew1) | exact HB.out)⟩⟩
  case round =>
    clear H'
    try clear c1
    try clear p2
    obtain ⟨x1_1, x8_1, x9_1, x11_1, rfl, rfl, rfl, HA, HK1, HO_1, HB⟩ := hrel
    cases gk with
    | zero => exact absurd HA.out (by simp [spec_readCopy.l0])
    | succ k1 =>
      have H := HA.out
      clear HA
      simp only [spec_readCopy.l0] at H
      by_cases c3 : x11_1 < 7
      · rw [if_pos c3] at H
        have c3b0 : decide (x11_1 < 7) = true := decide_eq_true c3
        clear c3
        by_cases c4 : 0 ≤ x11_1
        · rw [if_pos c4] at H
          have c4b0 := eq_true c4
          have c4b1 : decide (0 ≤ x11_1) = true := decide_eq_true c4
          clear c4
          obtain ⟨ji5, hji5⟩ : ∃ j_ : Int, (shr .u8 a0 x11_1) = j_ := ⟨_, rfl⟩
          replace H : (if (Go.bits .and .u8 (ji5) 1) = 0 then (spec_readCopy.l0 k1 a0 x1_1 x8_1 x9_1 (wrap64 (x11_1 + 1))) else (if (x1_1.length : Int) = 0 then (some (0, 0, ([] : List Int), 1)) else (if x11_1 < 4 then (if 0 < (x1_1.length : Int) then (if 0 ≤ (wrap64 (8 * x11_1)) then (if 1 ≤ (x1_1.length : Int) then (spec_readCopy.l0 k1 a0 (x1_1.drop 1) (wrap64 (x8_1 + (shl .i64 (wrap64 (rd x1_1 0)) (wrap64 (8 * x11_1))))) x9_1 (wrap64 (x11_1 + 1))) else (none)) else (none)) else (none)) else (if 0 < (x1_1.length : Int) then (if 0 ≤ (wrap64 (8 * (wrap64 (x11_1 - 4)))) then (if 1 ≤ (x1_1.length : Int) then (spec_readCopy.l0 k1 a0 (x1_1.drop 1) x8_1 (wrap64 (x9_1 + (shl .i64 (wrap64 (rd x1_1 0)) (wrap64 (8 * (wrap64 (x11_1 - 4))))))) (wrap64 (x11_1 + 1))) else (none)) else (none)) else (none))))) = some (r1, r2, r3, r4) := by first | (rw [hji5] at H; exact H) | (simp only [hji5] at H ⊢; exact H)
          have hji5_ : (a0 / 2 ^ min x11_1.toNat 8) = ji5 := hji5
          have hji5z : x11_1 ≤ 8 → (a0 / 2 ^ x11_1.toNat) = ji5 := shr_small hji5
          by_cases c6 : (Go.bits .and .u8 (ji5) 1) = 0
          · rw [if_pos c6] at H
            have c6b0 : ((Go.bits .and .u8 (ji5) 1) == 0) = true := beq_iff_eq.mpr c6
            have c6b1 : ((Go.bits .and .u8 (ji5) 1) != 0) = false := bne_eq_false_iff_eq.mpr c6
            clear c6
            have H' := Aside0.mk H
            clear H
            go_wp2
            go_roundg k1
            case measure => have := HK1.out; omega
            case rel => exact ⟨(x1_1), (x8_1), (x9_1), (wrap64 (x11_1 + 1)), (by first | rfl | (simp; done) | (simp [*]; done)), (by first | rfl | (simp; done) | (simp [*]; done)), (by first | rfl | (simp; done) | (simp [*]; done)), H', ⟨by have := HK1.out; omega⟩, ⟨by (with_reducible repeat (first | apply Kd.V_alloc | apply Kd.V_drewN | apply Kd.V_drew)); exact HO_1.out⟩, ⟨by repeat (first | (with_reducible first | exact HB.out | apply below_alloc | apply pw_below_drewN | apply below_drew1) | exact HB.out)⟩⟩
          · rw [if_neg c6] at H
            have c6b0 : ((Go.bits .and .u8 (ji5) 1) == 0) = false := beq_eq_false_iff_ne.mpr c6
            have c6b1 : ((Go.bits .and .u8 (ji5) 1) != 0) = true := bne_iff_ne.mpr c6
            by_cases c7 : (x1_1.length : Int) = 0
            · rw [if_pos c7] at H
              have c7b0 : ((x1_1.length : Int) == 0) = true := beq_iff_eq.mpr c7
              have c7b1 : ((x1_1.length : Int) != 0) = false := bne_eq_false_iff_eq.mpr c7
              clear c7
              simp only [Option.some.injEq, Prod.mk.injEq] at H
              obtain ⟨rfl, rfl, rfl, rfl⟩ := H
              obtain ⟨Ao8, co8, eo8⟩ := Kd.V_slice HO_1.out
              subst eo8
              go_wp2
              refine bodyPost_ret (results_list (rs := [.tmp 4, .tmp 5, .tmp 6, .tmp 7]) rfl (by simp) (.tmp (.tmp (.tmp (.tmp .nil))))) rfl ?_
              exact ⟨_, by first | rfl | (simp [errW_none, errW_some] <;> rfl) | (simp only [← hji5]; first | rfl | (simp [errW_none, errW_some] <;> rfl)) | (simp [*, errW_none, errW_some] <;> rfl), Kd.V_nil _ _ _ _ _, by repeat (first | (with_reducible first | exact HB.out | apply below_alloc | apply pw_below_drewN | apply below_drew1) | exact HB.out)⟩
            · rw [if_neg c7] at H
              have c7b0 : ((x1_1.length : Int) == 0) = false := beq_eq_false_iff_ne.mpr c7
              have c7b1 : ((x1_1.length : Int) != 0) = true := bne_iff_ne.mpr c7
              have c7b2 : ¬ (x1_1 = []) := fun h_ => c7 (by rw [h_]; rfl)
              by_cases c9 : x11_1 < 4
              · rw [if_pos c9] at H
                have c9b0 : decide (x11_1 < 4) = true := decide_eq_true c9
                clear c9
                by_cases c10 : 0 < (x1_1.length : Int)
                · rw [if_pos c10] at H
                  have c10b0 : decide (0 < (x1_1.length : Int)) = true := decide_eq_true c10
                  have c10b1 : decide (0 < x1_1.length) = true := decide_eq_true (by omega)
                  clear c10
                  obtain ⟨ji11, hji11⟩ : ∃ j_ : Int, (wrap64 (8 * x11_1)) = j_ := ⟨_, rfl⟩
                  replace H : (if 0 ≤ (ji11) then (if 1 ≤ (x1_1.length : Int) then (spec_readCopy.l0 k1 a0 (x1_1.drop 1) (wrap64 (x8_1 + (shl .i64 (wrap64 (rd x1_1 0)) (ji11)))) x9_1 (wrap64 (x11_1 + 1))) else (none)) else (none)) = some (r1, r2, r3, r4) := by first | (rw [hji11] at H; exact H) | (simp only [hji11] at H ⊢; exact H)
                  have hji11w : (IntKind.i64.wrap (8 * x11_1)) = ji11 := (i64_w _).trans hji11
                  by_cases c12 : 0 ≤ (ji11)
                  · rw [if_pos c12] at H
                    have c12b0 := eq_true c12
                    have c12b1 : decide (0 ≤ (ji11)) = true := decide_eq_true c12
                    clear c12
                    obtain ⟨ji13, hji13⟩ : ∃ j_ : Int, (shl .i64 (wrap64 (rd x1_1 0)) (ji11)) = j_ := ⟨_, rfl⟩
                    replace H : (if 1 ≤ (x1_1.length : Int) then (spec_readCopy.l0 k1 a0 (x1_1.drop 1) (wrap64 (x8_1 + (ji13))) x9_1 (wrap64 (x11_1 + 1))) else (none)) = some (r1, r2, r3, r4) := by first | (rw [hji13] at H; exact H) | (simp only [hji13] at H ⊢; exact H)
                    have hji13_ : (IntKind.i64.wrap ((wrap64 (rd x1_1 0)) * 2 ^ min (ji11).toNat 64)) = ji13 := hji13
                    have hji13z : (ji11) ≤ 64 → (IntKind.i64.wrap ((wrap64 (rd x1_1 0)) * 2 ^ (ji11).toNat)) = ji13 := shl_small hji13
                    have hji13y : (wrap64 ((wrap64 (rd x1_1 0)) * 2 ^ min (ji11).toNat 64)) = ji13 := (i64_w _).symm.trans hji13_
                    have hji13x : (ji11) ≤ 64 → (wrap64 ((wrap64 (rd x1_1 0)) * 2 ^ (ji11).toNat)) = ji13 := fun h_ => (i64_w _).symm.trans (hji13z h_)
                    by_cases c14 : 1 ≤ (x1_1.length : Int)
                    · rw [if_pos c14] at H
                      have c14b0 := eq_true c14
                      have c14b1 : decide (1 ≤ (x1_1.length : Int)) = true := decide_eq_true c14
                      clear c14
                      obtain ⟨y173, hy173⟩ : ∃ y_ : List Int, y_ = (x1_1.drop 1) := ⟨_, rfl⟩
                      replace H : (spec_readCopy.l0 k1 a0 y173 (wrap64 (x8_1 + (ji13))) x9_1 (wrap64 (x11_1 + 1))) = some (r1, r2, r3, r4) := by first | (rw [hy173]; with_reducible exact H) | (have H2_ := (Option.bind_some _ _).symm.trans H; rw [hy173]; with_reducible exact H2_) | (have H2_ := (Option.bind_some _ _).symm.trans H; with_reducible exact H2_) | with_reducible exact H | (rw [hy173]; exact H) | exact H
                      have Ny173 := Aside0.mk hy173
                      clear hy173
                      have H' := Aside0.mk H
                      clear H
                      obtain ⟨Ao15, co15, eo15⟩ := Kd.V_slice HO_1.out
                      subst eo15
                      have p172 : 0 ≤ (0 : Int) := (by omega)
                      have q172 : 0 < (x1_1.length : Int) := of_decide_eq_true (by first | (with_reducible assumption) | assumption)
                      obtain ⟨ad172, e172, hx172_0⟩ := Kd.at_int (Kd.V_reads' HO_1.out).2.2 0 p172 q172
                      cases e172
                      have qi172 : (0 < x1_1.length) = True := eq_true (by omega)
                      (try rw [show ((0 : Int)).toNat = 0 from rfl] at hx172_0)
                      (try rw [Addr.add_zero'] at hx172_0)
                      replace p172 := eq_true p172
                      replace q172 := eq_true q172
                      have q16 : (1 : Int) ≤ ((x1_1.length : Int) : Int) := of_decide_eq_true (by first | (with_reducible assumption) | assumption)
                      obtain ⟨i016, hi016, _, hsz16, _⟩ := info_parts info5
                      have hroom16 : x1_1.length ≤ co15 := (Kd.V_reads' HO_1.out).2.1
                      have hC16 : Kd.F (Kd.int .u8) _ _ (some ad172) x1_1.length x1_1 := (Kd.V_at (base := w.heap.size) HO_1.out).2.2
                      have hcut16 := cut_from (P := Tryd.prog) 22 5 .i64 Tryd.underlying22 hi016 1 hsz16 (some ad172) x1_1.length co15 1 (by omega) q16
                      have hr16 := Kd.F_cut (m := (1 : Int).toNat) (c := co15) hC16 (by omega) hroom16
                      obtain ⟨A16, hA16⟩ : ∃ A1, A1 = (if co15 = (1 : Int).toNat then (some ad172) else ((some ad172) : Option Addr).map (·.add ((1 : Int).toNat * 1))) := ⟨_, rfl⟩
                      obtain ⟨c16, hc16⟩ : ∃ c1, c1 = co15 - (1 : Int).toNat := ⟨_, rfl⟩
                      have hy16 : y173.length = x1_1.length - (1 : Int).toNat := (by rw [Ny173.out, List.length_drop] <;> omega)
                      rw [show (x1_1).drop (1 : Int).toNat = y173 from Ny173.out.symm] at hr16
                      replace hr16 : Kd.F (Kd.int .u8) _ _ A16 y173.length y173 := (by rw [hA16]; exact hr16)
                      rw [← hy16, ← hA16, ← hc16] at hcut16
                      have HO177 := Aside0.mk (show Kd.V (Kd.int .u8) 5 _ w.heap.size _ (.slice A16 y173.length c16) y173 from Kd.V_mk (by rw [hy16, hc16]; exact Nat.sub_le_sub_right hroom16 _) hr16)
                      have HC177 := Aside0.mk (show y173.length ≤ c16 from by rw [hy16, hc16]; exact Nat.sub_le_sub_right hroom16 _)
                      clear hr16 hC16 hroom16 hi016 hsz16 hc16
                      have KY16 := Aside0.mk hy16
                      have KA16 := Aside0.mk hA16
                      clear hy16 hA16
                      replace q16 := eq_true q16
                      go_wp2
                      go_roundg k1
                      case measure => have := HK1.out; omega
                      case rel => exact ⟨(y173), (wrap64 (x8_1 + (ji13))), (x9_1), (wrap64 (x11_1 + 1)), (by first | rfl | (simp; done) | (simp only [← hji13] <;> (first | rfl | simp)) | (simp [*]; done)), (by first | rfl | (simp; done) | (simp [*]; done)), (by first | rfl | (simp; done) | (simp [*]; done)), H', ⟨by have := HK1.out; omega⟩, ⟨by (with_reducible repeat (first | apply Kd.V_alloc | apply Kd.V_drewN | apply Kd.V_drew)); exact HO177.out⟩, ⟨by repeat (first | (with_reducible first | exact HB.out | apply below_alloc | apply pw_below_drewN | apply below_drew1) | exact HB.out)⟩⟩
                    · rw [if_neg c14] at H
                      exact absurd H (by simp)
                  · rw [if_neg c12] at H
                    exact absurd H (by simp)
                · rw [if_neg c10] at H
                  exact absurd H (by simp)
              · rw [if_neg c9] at H
                have c9b0 : decide (x11_1 < 4) = false := decide_eq_false c9
                clear c9
                by_cases c17 : 0 < (x1_1.length : Int)
                · rw [if_pos c17] at H
                  have c17b0 : decide (0 < (x1_1.length : Int)) = true := decide_eq_true c17
                  have c17b1 : decide (0 < x1_1.length) = true := decide_eq_true (by omega)
                  clear c17
                  obtain ⟨ji18, hji18⟩ : ∃ j_ : Int, (wrap64 (8 * (wrap64 (x11_1 - 4)))) = j_ := ⟨_, rfl⟩
                  replace H : (if 0 ≤ (ji18) then (if 1 ≤ (x1_1.length : Int) then (spec_readCopy.l0 k1 a0 (x1_1.drop 1) x8_1 (wrap64 (x9_1 + (shl .i64 (wrap64 (rd x1_1 0)) (ji18)))) (wrap64 (x11_1 + 1))) else (none)) else (none)) = some (r1, r2, r3, r4) := by first | (rw [hji18] at H; exact H) | (simp only [hji18] at H ⊢; exact H)
                  have hji18w : (IntKind.i64.wrap (8 * (wrap64 (x11_1 - 4)))) = ji18 := (i64_w _).trans hji18
                  by_cases c19 : 0 ≤ (ji18)
                  · rw [if_pos c19] at H
                    have c19b0 := eq_true c19
                    have c19b1 : decide (0 ≤ (ji18)) = true := decide_eq_true c19
                    clear c19
                    obtain ⟨ji20, hji20⟩ : ∃ j_ : Int, (shl .i64 (wrap64 (rd x1_1 0)) (ji18)) = j_ := ⟨_, rfl⟩
                    replace H : (if 1 ≤ (x1_1.length : Int) then (spec_readCopy.l0 k1 a0 (x1_1.drop 1) x8_1 (wrap64 (x9_1 + (ji20))) (wrap64 (x11_1 + 1))) else (none)) = some (r1, r2, r3, r4) := by first | (rw [hji20] at H; exact H) | (simp only [hji20] at H ⊢; exact H)
                    have hji20_ : (IntKind.i64.wrap ((wrap64 (rd x1_1 0)) * 2 ^ min (ji18).toNat 64)) = ji20 := hji20
                    have hji20z : (ji18) ≤ 64 → (IntKind.i64.wrap ((wrap64 (rd x1_1 0)) * 2 ^ (ji18).toNat)) = ji20 := shl_small hji20
                    have hji20y : (wrap64 ((wrap64 (rd x1_1 0)) * 2 ^ min (ji18).toNat 64)) = ji20 := (i64_w _).symm.trans hji20_
                    have hji20x : (ji18) ≤ 64 → (wrap64 ((wrap64 (rd x1_1 0)) * 2 ^ (ji18).toNat)) = ji20 := fun h_ => (i64_w _).symm.trans (hji20z h_)
                    by_cases c21 : 1 ≤ (x1_1.length : Int)
                    · rw [if_pos c21] at H
                      have c21b0 := eq_true c21
                      have c21b1 : decide (1 ≤ (x1_1.length : Int)) = true := decide_eq_true c21
                      clear c21
                      obtain ⟨y179, hy179⟩ : ∃ y_ : List Int, y_ = (x1_1.drop 1) := ⟨_, rfl⟩
                      replace H : (spec_readCopy.l0 k1 a0 y179 x8_1 (wrap64 (x9_1 + (ji20))) (wrap64 (x11_1 + 1))) = some (r1, r2, r3, r4) := by first | (rw [hy179]; with_reducible exact H) | (have H2_ := (Option.bind_some _ _).symm.trans H; rw [hy179]; with_reducible exact H2_) | (have H2_ := (Option.bind_some _ _).symm.trans H; with_reducible exact H2_) | with_reducible exact H | (rw [hy179]; exact H) | exact H
                      have Ny179 := Aside0.mk hy179
                      clear hy179
                      have H' := Aside0.mk H
                      clear H
                      obtain ⟨Ao22, co22, eo22⟩ := Kd.V_slice HO_1.out
                      subst eo22
                      have p178 : 0 ≤ (0 : Int) := (by omega)
                      have q178 : 0 < (x1_1.length : Int) := of_decide_eq_true (by first | (with_reducible assumption) | assumption)
                      obtain ⟨ad178, e178, hx178_0⟩ := Kd.at_int (Kd.V_reads' HO_1.out).2.2 0 p178 q178
                      cases e178
                      have qi178 : (0 < x1_1.length) = True := eq_true (by omega)
                      (try rw [show ((0 : Int)).toNat = 0 from rfl] at hx178_0)
                      (try rw [Addr.add_zero'] at hx178_0)
                      replace p178 := eq_true p178
                      replace q178 := eq_true q178
                      have q23 : (1 : Int) ≤ ((x1_1.length : Int) : Int) := of_decide_eq_true (by first | (with_reducible assumption) | assumption)
                      obtain ⟨i023, hi023, _, hsz23, _⟩ := info_parts info5
                      have hroom23 : x1_1.length ≤ co22 := (Kd.V_reads' HO_1.out).2.1
                      have hC23 : Kd.F (Kd.int .u8) _ _ (some ad178) x1_1.length x1_1 := (Kd.V_at (base := w.heap.size) HO_1.out).2.2
                      have hcut23 := cut_from (P := Tryd.prog) 22 5 .i64 Tryd.underlying22 hi023 1 hsz23 (some ad178) x1_1.length co22 1 (by omega) q23
                      have hr23 := Kd.F_cut (m := (1 : Int).toNat) (c := co22) hC23 (by omega) hroom23
                      obtain ⟨A23, hA23⟩ : ∃ A1, A1 = (if co22 = (1 : Int).toNat then (some ad178) else ((some ad178) : Option Addr).map (·.add ((1 : Int).toNat * 1))) := ⟨_, rfl⟩
                      obtain ⟨c23, hc23⟩ : ∃ c1, c1 = co22 - (1 : Int).toNat := ⟨_, rfl⟩
                      have hy23 : y179.length = x1_1.length - (1 : Int).toNat := (by rw [Ny179.out, List.length_drop] <;> omega)
                      rw [show (x1_1).drop (1 : Int).toNat = y179 from Ny179.out.symm] at hr23
                      replace hr23 : Kd.F (Kd.int .u8) _ _ A23 y179.length y179 := (by rw [hA23]; exact hr23)
                      rw [← hy23, ← hA23, ← hc23] at hcut23
                      have HO183 := Aside0.mk (show Kd.V (Kd.int .u8) 5 _ w.heap.size _ (.slice A23 y179.length c23) y179 from Kd.V_mk (by rw [hy23, hc23]; exact Nat.sub_le_sub_right hroom23 _) hr23)
                      have HC183 := Aside0.mk (show y179.length ≤ c23 from by rw [hy23, hc23]; exact Nat.sub_le_sub_right hroom23 _)
                      clear hr23 hC23 hroom23 hi023 hsz23 hc23
                      have KY23 := Aside0.mk hy23
                      have KA23 := Aside0.mk hA23
                      clear hy23 hA23
                      replace q23 := eq_true q23
                      go_wp2
                      go_roundg k1
                      case measure => have := HK1.out; omega
                      case rel => exact ⟨(y179), (x8_1), (wrap64 (x9_1 + (ji20))), (wrap64 (x11_1 + 1)), (by first | rfl | (simp; done) | (simp [*]; done)), (by first | rfl | (simp; done) | (simp only [← hji20] <;> (first | rfl | simp)) | (simp [*]; done)), (by first | rfl | (simp; done) | (simp [*]; done)), H', ⟨by have := HK1.out; omega⟩, ⟨by (with_reducible repeat (first | apply Kd.V_alloc | apply Kd.V_drewN | apply Kd.V_drew)); exact HO183.out⟩, ⟨by repeat (first | (with_reducible first | exact HB.out | apply below_alloc | apply pw_below_drewN | apply below_drew1) | exact HB.out)⟩⟩
                    · rw [if_neg c21] at H
                      exact absurd H (by simp)
                  · rw [if_neg c19] at H
                    exact absurd H (by simp)
                · rw [if_neg c17] at H
                  exact absurd H (by simp)
        · rw [if_neg c4] at H
          exact absurd H (by simp)
      · rw [if_neg c3] at H
        have c3b0 : decide (x11_1 < 7) = false := decide_eq_false c3
        clear c3
        by_cases c24 : x9_1 = 0
        · rw [if_pos c24] at H
          have c24b0 : (x9_1 == 0) = true := beq_iff_eq.mpr c24
          have c24b1 : (x9_1 != 0) = false := bne_eq_false_iff_eq.mpr c24
          clear c24
          simp only [Option.some.injEq, Prod.mk.injEq] at H
          obtain ⟨rfl, rfl, rfl, rfl⟩ := H
          go_wp2
          refine bodyPost_ret (results_list (rs := [.tmp 4, .tmp 5, .tmp 6, .tmp 7]) rfl (by simp) (.tmp (.tmp (.tmp (.tmp .nil))))) rfl ?_
          exact ⟨_, by first | rfl | (simp [errW_none, errW_some] <;> rfl) | (simp [*, errW_none, errW_some] <;> rfl), by (with_reducible repeat (first | apply Kd.V_alloc | apply Kd.V_drewN | apply Kd.V_drew)); exact HO_1.out, by repeat (first | (with_reducible first | exact HB.out | apply below_alloc | apply pw_below_drewN | apply below_drew1) | exact HB.out)⟩
        · rw [if_neg c24] at H
          have c24b0 : (x9_1 == 0) = false := beq_eq_false_iff_ne.mpr c24
          have c24b1 : (x9_1 != 0) = true := bne_iff_ne.mpr c24
          simp only [Option.some.injEq, Prod.mk.injEq] at H
          obtain ⟨rfl, rfl, rfl, rfl⟩ := H
          go_wp2
          refine bodyPost_ret (results_list (rs := [.tmp 4, .tmp 5, .tmp 6, .tmp 7]) rfl (by simp) (.tmp (.tmp (.tmp (.tmp .nil))))) rfl ?_
          exact ⟨_, by first | rfl | (simp [errW_none, errW_some] <;> rfl) | (simp [*, errW_none, errW_some] <;> rfl), by (with_reducible repeat (first | apply Kd.V_alloc | apply Kd.V_drewN | apply Kd.V_drew)); exact HO_1.out, by repeat (first | (with_reducible first | exact HB.out | apply below_alloc | apply pw_below_drewN | apply below_drew1) | exact HB.out)⟩

-- NOT PRINTED: function 9 (spec_Patched)

/-! ### laws_deltaSame: function 10 -/
def laws_deltaSame.f (l0 : List Int) (l1 : List Int) : Option (Bool) := some ((strOfNums l0).toList == (strOfNums l1).toList)
set_option maxHeartbeats 8000000 in
set_option maxRecDepth 100000 in
theorem laws_deltaSame.calls (A0 : Option Addr) (c0 : Nat) (l0 : List Int) (A1 : Option Addr) (c1 : Nat) (l1 : List Int) (r : Bool) (w : World) (hr0 : Kd.C (Kd.int .u8) w A0 l0.length l0) (hc0 : l0.length ≤ c0) (hr1 : Kd.C (Kd.int .u8) w A1 l1.length l1) (hc1 : l1.length ≤ c1) (h : laws_deltaSame.f l0 l1 = some r) :
    Calls Tryd.prog 10 #[.slice A0 l0.length c0, .slice A1 l1.length c1] w fun e w' => e = .returned (.bool r) ∧ Drawn0 w w' := by
  have HR0 := Aside0.mk hr0
  have HC0 := Aside0.mk hc0
  clear hr0 hc0
  have HR1 := Aside0.mk hr1
  have HC1 := Aside0.mk hc1
  clear hr1 hc1
  have H : (some ((strOfNums l0).toList == (strOfNums l1).toList)) = some r := h
  clear h
  obtain rfl := Option.some.inj H
  have hcv3 := Kd.C_string (P := Tryd.prog) (A := A0) (c := c0) Tryd.underlying22 Tryd.underlying5 Tryd.underlying9 HR0.out
  have hcv4 := Kd.C_string (P := Tryd.prog) (A := A1) (c := c1) Tryd.underlying22 Tryd.underlying5 Tryd.underlying9 HR1.out
  go_enter Tryd.func10, Tryd.ntmps10
  go_wp2
  go_ret
  exact ⟨by first | rfl | (simp; done) | (simp [*]; done), by repeat (first | exact Drawn0.refl _ | apply Drawn0.step)⟩

-- NOT PRINTED: function 4 (laws_FnDeltaDiffRead)

end Go.Proofs.YtkknoionjppegaaDoor.PFnDeltaDiffRead
