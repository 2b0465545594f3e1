-- PRINTED BY print.sh 35421559b90ae4d0a3588c463048766b98c2df88dd9212a6774a882060cdf62d: not written by this session
import Derived.Test.YtllikhbafaohgaaGreatDoorPFnIdxSumx0
import Derived.Test.YtllikhbafaohgaaGreatDoorPFnIdxSumx1
namespace Go.Proofs.YtllikhbafaohgaaGreatDoor.PFnIdxSum
open Go.RowKit Go.Proofs.YtllikhbafaohgaaGreatDoorW.PrintWords Go.Proofs.YtllikhbafaohgaaGreatDoorW.PrintLast Go.Proofs.YtllikhbafaohgaaGreatDoorW.PrintMore
attribute [local go_sem] max2_int min2_int max_two min_two max_three min_three max_four min_four   -- for this text's walks alone
set_option linter.unusedVariables false
set_option linter.unusedSimpArgs false

/-! ### spec_IsName40: function 36 -/
def spec_IsName40.l0 : Nat → ByteArray → Int → Int → Option (Bool)
  | 0, _, _, _ => none
  | k + 1, x0, x5, x6 => if x6 < x5 then (if 0 ≤ x6 then (if x6 < (x0.size : Int) then (if (bt x0 x6) ≥ 48 then (if (bt x0 x6) ≤ 57 then (spec_IsName40.l0 k x0 x5 (wrap64 (x6 + 1))) else (if (bt x0 x6) ≥ 97 then (if ((bt x0 x6) ≤ 102) then (spec_IsName40.l0 k x0 x5 (wrap64 (x6 + 1))) else (some false)) else (some false))) else (if (bt x0 x6) ≥ 97 then (if ((bt x0 x6) ≤ 102) then (spec_IsName40.l0 k x0 x5 (wrap64 (x6 + 1))) else (some false)) else (some false))) else (none)) else (none)) else (some ((x0.size : Int) == 40))
def spec_IsName40.f (k : Nat) (a0 : ByteArray) : Option (Bool) := spec_IsName40.l0 k a0 (a0.size : Int) 0
set_option maxHeartbeats 8000000 in
set_option maxRecDepth 100000 in
theorem spec_IsName40.calls (k : Nat) (a0 : ByteArray) (r : Bool) (w : World) (h : spec_IsName40.f k a0 = some r) :
    Calls Tryz.prog 36 #[.string a0] w fun e w' => e = .returned (.bool r) ∧ Drawn0 w w' := by
  have H : (spec_IsName40.l0 k a0 (a0.size : Int) 0) = some r := h
  clear h
  have H' := Aside0.mk H
  clear H
  go_enter Tryz.func36, Tryz.ntmps36
  go_wp2
  go_loopg [6] k (fun kq v6 w' => ∃ (x6_1 : Int), v6 = .int .i64 x6_1 ∧ Aside0 (spec_IsName40.l0 kq a0 (a0.size : Int) x6_1 = some r) ∧ Aside0 (kq ≤ k) ∧ Drawn0 w w')
  case atStart => exact ⟨(0), (by first | rfl | (simp; done) | (simp [*]; done)), H', ⟨Nat.le_refl _⟩, by repeat (first | exact Drawn0.refl _ | apply Drawn0.step)⟩
  case round =>
    clear H'
    obtain ⟨x6_1, rfl, HA, HK1, ⟨m1, rfl⟩⟩ := hrel
    cases gk with
    | zero => exact absurd HA.out (by simp [spec_IsName40.l0])
    | succ k1 =>
      have H := HA.out
      clear HA
      simp only [spec_IsName40.l0] at H
      by_cases c2 : x6_1 < (a0.size : Int)
      · rw [if_pos c2] at H
        have c2b0 : decide (x6_1 < (a0.size : Int)) = true := decide_eq_true c2
        clear c2
        by_cases c3 : 0 ≤ x6_1
        · rw [if_pos c3] at H
          have c3b0 : decide (0 ≤ x6_1) = true := decide_eq_true c3
          clear c3
          by_cases c4 : x6_1 < (a0.size : Int)
          · rw [if_pos c4] at H
            have c4b0 : decide (x6_1 < (a0.size : Int)) = true := decide_eq_true c4
            clear c4
            by_cases c6 : (bt a0 x6_1) ≥ 48
            · rw [if_pos c6] at H
              have c6b0 : decide (48 ≤ (bt a0 x6_1)) = true := decide_eq_true c6
              clear c6
              by_cases c8 : (bt a0 x6_1) ≤ 57
              · rw [if_pos c8] at H
                have c8b0 : decide ((bt a0 x6_1) ≤ 57) = true := decide_eq_true c8
                clear c8
                have H' := Aside0.mk H
                clear H
                have p5 : 0 ≤ (x6_1 : Int) := of_decide_eq_true (by first | (with_reducible assumption) | assumption)
                have q5 : x6_1 < (a0.size : Int) := of_decide_eq_true (by first | (with_reducible assumption) | assumption)
                have hx5 := bt_at a0 x6_1
                replace p5 := eq_true p5
                replace q5 := eq_true q5
                have p7 : 0 ≤ (x6_1 : Int) := of_decide_eq_true (by first | (with_reducible assumption) | assumption)
                have q7 : x6_1 < (a0.size : Int) := of_decide_eq_true (by first | (with_reducible assumption) | assumption)
                have hx7 := bt_at a0 x6_1
                replace p7 := eq_true p7
                replace q7 := eq_true q7
                go_wp2
                go_roundg k1
                case measure => have := HK1.out; omega
                case rel => exact ⟨(wrap64 (x6_1 + 1)), (by first | rfl | (simp; done) | (simp [*]; done)), H', ⟨by have := HK1.out; omega⟩, by repeat (first | exact Drawn0.refl _ | apply Drawn0.step)⟩
              · rw [if_neg c8] at H
                have c8b0 : decide ((bt a0 x6_1) ≤ 57) = false := decide_eq_false c8
                clear c8
                by_cases c10 : (bt a0 x6_1) ≥ 97
                · rw [if_pos c10] at H
                  have c10b0 : decide (97 ≤ (bt a0 x6_1)) = true := decide_eq_true c10
                  clear c10
                  by_cases c12 : ((bt a0 x6_1) ≤ 102)
                  · rw [if_pos c12] at H
                    have c12b0 : decide ((bt a0 x6_1) ≤ 102) = true := decide_eq_true c12
                    clear c12
                    have H' := Aside0.mk H
                    clear H
                    have p5 : 0 ≤ (x6_1 : Int) := of_decide_eq_true (by first | (with_reducible assumption) | assumption)
                    have q5 : x6_1 < (a0.size : Int) := of_decide_eq_true (by first | (with_reducible assumption) | assumption)
                    have hx5 := bt_at a0 x6_1
                    replace p5 := eq_true p5
                    replace q5 := eq_true q5
                    have p7 : 0 ≤ (x6_1 : Int) := of_decide_eq_true (by first | (with_reducible assumption) | assumption)
                    have q7 : x6_1 < (a0.size : Int) := of_decide_eq_true (by first | (with_reducible assumption) | assumption)
                    have hx7 := bt_at a0 x6_1
                    replace p7 := eq_true p7
                    replace q7 := eq_true q7
                    have p9 : 0 ≤ (x6_1 : Int) := of_decide_eq_true (by first | (with_reducible assumption) | assumption)
                    have q9 : x6_1 < (a0.size : Int) := of_decide_eq_true (by first | (with_reducible assumption) | assumption)
                    have hx9 := bt_at a0 x6_1
                    replace p9 := eq_true p9
                    replace q9 := eq_true q9
                    have p11 : 0 ≤ (x6_1 : Int) := of_decide_eq_true (by first | (with_reducible assumption) | assumption)
                    have q11 : x6_1 < (a0.size : Int) := of_decide_eq_true (by first | (with_reducible assumption) | assumption)
                    have hx11 := bt_at a0 x6_1
                    replace p11 := eq_true p11
                    replace q11 := eq_true q11
                    go_wp2
                    go_roundg k1
                    case measure => have := HK1.out; omega
                    case rel => exact ⟨(wrap64 (x6_1 + 1)), (by first | rfl | (simp; done) | (simp [*]; done)), H', ⟨by have := HK1.out; omega⟩, by repeat (first | exact Drawn0.refl _ | apply Drawn0.step)⟩
                  · rw [if_neg c12] at H
                    have c12b0 : decide ((bt a0 x6_1) ≤ 102) = false := decide_eq_false c12
                    clear c12
                    obtain rfl := Option.some.inj H
                    have p5 : 0 ≤ (x6_1 : Int) := of_decide_eq_true (by first | (with_reducible assumption) | assumption)
                    have q5 : x6_1 < (a0.size : Int) := of_decide_eq_true (by first | (with_reducible assumption) | assumption)
                    have hx5 := bt_at a0 x6_1
                    replace p5 := eq_true p5
                    replace q5 := eq_true q5
                    have p7 : 0 ≤ (x6_1 : Int) := of_decide_eq_true (by first | (with_reducible assumption) | assumption)
                    have q7 : x6_1 < (a0.size : Int) := of_decide_eq_true (by first | (with_reducible assumption) | assumption)
                    have hx7 := bt_at a0 x6_1
                    replace p7 := eq_true p7
                    replace q7 := eq_true q7
                    have p9 : 0 ≤ (x6_1 : Int) := of_decide_eq_true (by first | (with_reducible assumption) | assumption)
                    have q9 : x6_1 < (a0.size : Int) := of_decide_eq_true (by first | (with_reducible assumption) | assumption)
                    have hx9 := bt_at a0 x6_1
                    replace p9 := eq_true p9
                    replace q9 := eq_true q9
                    have p11 : 0 ≤ (x6_1 : Int) := of_decide_eq_true (by first | (with_reducible assumption) | assumption)
                    have q11 : x6_1 < (a0.size : Int) := of_decide_eq_true (by first | (with_reducible assumption) | assumption)
                    have hx11 := bt_at a0 x6_1
                    replace p11 := eq_true p11
                    replace q11 := eq_true q11
                    go_wp2
                    go_ret
                    exact ⟨by first | rfl | (simp; done) | (simp [*]; done), by repeat (first | exact Drawn0.refl _ | apply Drawn0.step)⟩
                · rw [if_neg c10] at H
                  have c10b0 : decide (97 ≤ (bt a0 x6_1)) = false := decide_eq_false c10
                  clear c10
                  obtain rfl := Option.some.inj H
                  have p5 : 0 ≤ (x6_1 : Int) := of_decide_eq_true (by first | (with_reducible assumption) | assumption)
                  have q5 : x6_1 < (a0.size : Int) := of_decide_eq_true (by first | (with_reducible assumption) | assumption)
                  have hx5 := bt_at a0 x6_1
                  replace p5 := eq_true p5
                  replace q5 := eq_true q5
                  have p7 : 0 ≤ (x6_1 : Int) := of_decide_eq_true (by first | (with_reducible assumption) | assumption)
                  have q7 : x6_1 < (a0.size : Int) := of_decide_eq_true (by first | (with_reducible assumption) | assumption)
                  have hx7 := bt_at a0 x6_1
                  replace p7 := eq_true p7
                  replace q7 := eq_true q7
                  have p9 : 0 ≤ (x6_1 : Int) := of_decide_eq_true (by first | (with_reducible assumption) | assumption)
                  have q9 : x6_1 < (a0.size : Int) := of_decide_eq_true (by first | (with_reducible assumption) | assumption)
                  have hx9 := bt_at a0 x6_1
                  replace p9 := eq_true p9
                  replace q9 := eq_true q9
                  go_wp2
                  go_ret
                  exact ⟨by first | rfl | (simp; done) | (simp [*]; done), by repeat (first | exact Drawn0.refl _ | apply Drawn0.step)⟩
            · rw [if_neg c6] at H
              have c6b0 : decide (48 ≤ (bt a0 x6_1)) = false := decide_eq_false c6
              clear c6
              by_cases c14 : (bt a0 x6_1) ≥ 97
              · rw [if_pos c14] at H
                have c14b0 : decide (97 ≤ (bt a0 x6_1)) = true := decide_eq_true c14
                clear c14
                by_cases c16 : ((bt a0 x6_1) ≤ 102)
                · rw [if_pos c16] at H
                  have c16b0 : decide ((bt a0 x6_1) ≤ 102) = true := decide_eq_true c16
                  clear c16
                  have H' := Aside0.mk H
                  clear H
                  have p5 : 0 ≤ (x6_1 : Int) := of_decide_eq_true (by first | (with_reducible assumption) | assumption)
                  have q5 : x6_1 < (a0.size : Int) := of_decide_eq_true (by first | (with_reducible assumption) | assumption)
                  have hx5 := bt_at a0 x6_1
                  replace p5 := eq_true p5
                  replace q5 := eq_true q5
                  have p13 : 0 ≤ (x6_1 : Int) := of_decide_eq_true (by first | (with_reducible assumption) | assumption)
                  have q13 : x6_1 < (a0.size : Int) := of_decide_eq_true (by first | (with_reducible assumption) | assumption)
                  have hx13 := bt_at a0 x6_1
                  replace p13 := eq_true p13
                  replace q13 := eq_true q13
                  have p15 : 0 ≤ (x6_1 : Int) := of_decide_eq_true (by first | (with_reducible assumption) | assumption)
                  have q15 : x6_1 < (a0.size : Int) := of_decide_eq_true (by first | (with_reducible assumption) | assumption)
                  have hx15 := bt_at a0 x6_1
                  replace p15 := eq_true p15
                  replace q15 := eq_true q15
                  go_wp2
                  go_roundg k1
                  case measure => have := HK1.out; omega
                  case rel => exact ⟨(wrap64 (x6_1 + 1)), (by first | rfl | (simp; done) | (simp [*]; done)), H', ⟨by have := HK1.out; omega⟩, by repeat (first | exact Drawn0.refl _ | apply Drawn0.step)⟩
                · rw [if_neg c16] at H
                  have c16b0 : decide ((bt a0 x6_1) ≤ 102) = false := decide_eq_false c16
                  clear c16
                  obtain rfl := Option.some.inj H
                  have p5 : 0 ≤ (x6_1 : Int) := of_decide_eq_true (by first | (with_reducible assumption) | assumption)
                  have q5 : x6_1 < (a0.size : Int) := of_decide_eq_true (by first | (with_reducible assumption) | assumption)
                  have hx5 := bt_at a0 x6_1
                  replace p5 := eq_true p5
                  replace q5 := eq_true q5
                  have p13 : 0 ≤ (x6_1 : Int) := of_decide_eq_true (by first | (with_reducible assumption) | assumption)
                  have q13 : x6_1 < (a0.size : Int) := of_decide_eq_true (by first | (with_reducible assumption) | assumption)
                  have hx13 := bt_at a0 x6_1
                  replace p13 := eq_true p13
                  replace q13 := eq_true q13
                  have p15 : 0 ≤ (x6_1 : Int) := of_decide_eq_true (by first | (with_reducible assumption) | assumption)
                  have q15 : x6_1 < (a0.size : Int) := of_decide_eq_true (by first | (with_reducible assumption) | assumption)
                  have hx15 := bt_at a0 x6_1
                  replace p15 := eq_true p15
                  replace q15 := eq_true q15
                  go_wp2
                  go_ret
                  exact ⟨by first | rfl | (simp; done) | (simp [*]; done), by repeat (first | exact Drawn0.refl _ | apply Drawn0.step)⟩
              · rw [if_neg c14] at H
                have c14b0 : decide (97 ≤ (bt a0 x6_1)) = false := decide_eq_false c14
                clear c14
                obtain rfl := Option.some.inj H
                have p5 : 0 ≤ (x6_1 : Int) := of_decide_eq_true (by first | (with_reducible assumption) | assumption)
                have q5 : x6_1 < (a0.size : Int) := of_decide_eq_true (by first | (with_reducible assumption) | assumption)
                have hx5 := bt_at a0 x6_1
                replace p5 := eq_true p5
                replace q5 := eq_true q5
                have p13 : 0 ≤ (x6_1 : Int) := of_decide_eq_true (by first | (with_reducible assumption) | assumption)
                have q13 : x6_1 < (a0.size : Int) := of_decide_eq_true (by first | (with_reducible assumption) | assumption)
                have hx13 := bt_at a0 x6_1
                replace p13 := eq_true p13
                replace q13 := eq_true q13
                go_wp2
                go_ret
                exact ⟨by first | rfl | (simp; done) | (simp [*]; done), by repeat (first | exact Drawn0.refl _ | apply Drawn0.step)⟩
          · rw [if_neg c4] at H
            exact absurd H (by simp)
        · rw [if_neg c3] at H
          exact absurd H (by simp)
      · rw [if_neg c2] at H
        have c2b0 : decide (x6_1 < (a0.size : Int)) = false := decide_eq_false c2
        clear c2
        obtain rfl := Option.some.inj H
        go_wp2
        go_ret
        exact ⟨by first | rfl | (simp; done) | (simp [*]; done), by repeat (first | exact Drawn0.refl _ | apply Drawn0.step)⟩

/-! ### spec_IsFile: function 21 -/
def spec_IsFile.l0 : Nat → List (S33) → Int → Int → Int → Int → Int → Int → Int → Int → Int → Int → Int → Int → ByteArray → ByteArray → Int → Bool → Bool → Option (Bool)
  | 0, _, _, _, _, _, _, _, _, _, _, _, _, _, _, _, _, _, _ => none
  | k + 1, x9, x10, x11, x107000, x107001, x107002, x107003, x107004, x107005, x107006, x107007, x107008, x107009, x107010, x107011, x107012, x107013, x107014 => if x11 < x10 then (if 0 ≤ x11 then (if x11 < (x9.length : Int) then (if ((rd_T33 x9 x11).f0) < 1 then (some false) else (if ((rd_T33 x9 x11).f0) ≥ 4294967296 then (some false) else (if ((rd_T33 x9 x11).f1) < 0 then (some false) else (if ((rd_T33 x9 x11).f1) ≥ 1000000000 then (some false) else (spec_IsFile.l0 k x9 x10 (wrap64 (x11 + 1)) x107000 x107001 x107002 x107003 x107004 x107005 x107006 x107007 x107008 x107009 x107010 x107011 x107012 x107013 x107014))))) else (none)) else (none)) else ((spec_IsFileName.f k x107011).bind fun t112 => (if t112 = true then ((spec_IsName40.f k x107010).bind fun t113 => (if t113 = true then (if x107012 ≥ 0 then (some (decide (x107012 ≤ 3))) else (some false)) else (some false))) else (some false)))
def spec_IsFile.f (k : Nat) (a0_0 : Int) (a0_1 : Int) (a0_2 : Int) (a0_3 : Int) (a0_4 : Int) (a0_5 : Int) (a0_6 : Int) (a0_7 : Int) (a0_8 : Int) (a0_9 : Int) (a0_10 : ByteArray) (a0_11 : ByteArray) (a0_12 : Int) (a0_13 : Bool) (a0_14 : Bool) : Option (Bool) := (some (([(⟨a0_0, a0_1⟩ : S33), (⟨a0_2, a0_3⟩ : S33)] : List (S33)) : List (S33))).bind fun y107 => (spec_IsFile.l0 k y107 (y107.length : Int) 0 a0_0 a0_1 a0_2 a0_3 a0_4 a0_5 a0_6 a0_7 a0_8 a0_9 a0_10 a0_11 a0_12 a0_13 a0_14)
set_option maxHeartbeats 8000000 in
set_option maxRecDepth 100000 in
theorem spec_IsFile.calls (k : Nat) (a0_0 : Int) (a0_1 : Int) (a0_2 : Int) (a0_3 : Int) (a0_4 : Int) (a0_5 : Int) (a0_6 : Int) (a0_7 : Int) (a0_8 : Int) (a0_9 : Int) (a0_10 : ByteArray) (a0_11 : ByteArray) (a0_12 : Int) (a0_13 : Bool) (a0_14 : Bool) (r : Bool) (w : World) (h : spec_IsFile.f k a0_0 a0_1 a0_2 a0_3 a0_4 a0_5 a0_6 a0_7 a0_8 a0_9 a0_10 a0_11 a0_12 a0_13 a0_14 = some r) :
    Calls Tryz.prog 21 #[.agg #[.int .i64 a0_0, .int .i64 a0_1, .int .i64 a0_2, .int .i64 a0_3, .int .u32 a0_4, .int .u32 a0_5, .int .u32 a0_6, .int .u32 a0_7, .int .u32 a0_8, .int .u32 a0_9, .string a0_10, .string a0_11, .int .i64 a0_12, .bool a0_13, .bool a0_14]] w fun e w' => e = .returned (.bool r) ∧ Below w.heap.size w w' := by
  have hu35 := Tryz.underlying35
  have hu33 := Tryz.underlying33
  have HB := Aside0.mk (Below.refl w.heap.size w)
  have H : ((some (([(⟨a0_0, a0_1⟩ : S33), (⟨a0_2, a0_3⟩ : S33)] : List (S33)) : List (S33))).bind fun y107 => (spec_IsFile.l0 k y107 (y107.length : Int) 0 a0_0 a0_1 a0_2 a0_3 a0_4 a0_5 a0_6 a0_7 a0_8 a0_9 a0_10 a0_11 a0_12 a0_13 a0_14)) = some r := h
  clear h
  obtain ⟨y107, hy107⟩ : ∃ y_ : List (S33), y_ = (([(⟨a0_0, a0_1⟩ : S33), (⟨a0_2, a0_3⟩ : S33)] : List (S33))) := ⟨_, rfl⟩
  replace H : (spec_IsFile.l0 k y107 (y107.length : Int) 0 a0_0 a0_1 a0_2 a0_3 a0_4 a0_5 a0_6 a0_7 a0_8 a0_9 a0_10 a0_11 a0_12 a0_13 a0_14) = some r := by first | (rw [hy107]; with_reducible exact H) | (have H2_ := (Option.bind_some _ _).symm.trans H; rw [hy107]; with_reducible exact H2_) | (have H2_ := (Option.bind_some _ _).symm.trans H; with_reducible exact H2_) | with_reducible exact H | (rw [hy107]; exact H) | exact H
  have Ny107 := Aside0.mk hy107
  clear hy107
  have H' := Aside0.mk H
  clear H
  go_enter Tryz.func21, Tryz.ntmps21
  go_wp2_with (first | ((with_reducible refine gate_dst (N := 1) rfl ?_); refine box_event ?hg (N := 1) ?hd (cs := #[.int .i64 a0_0, .int .i64 a0_1, .int .i64 a0_2, .int .i64 a0_3, .int .u32 a0_4, .int .u32 a0_5, .int .u32 a0_6, .int .u32 a0_7, .int .u32 a0_8, .int .u32 a0_9, .string a0_10, .string a0_11, .int .i64 a0_12, .bool a0_13, .bool a0_14]) (t := 35) ?hr ?_; (case hd => rfl); (case hg => rfl); (case hr => first | (go_simp; done) | (go_simp; rfl)); intro gb106 hg w2 hbox hb; have n0_ := Aside0.mk (below_step (by repeat (first | (with_reducible first | exact HB.out | apply below_alloc | apply pw_below_drewN | apply below_drew1) | exact HB.out)) hb); have n1_ := Aside0.mk (hbox); have n2_ := Aside0.mk ((by rw [hg]; exact (below_size (by repeat (first | (with_reducible first | exact HB.out | apply below_alloc | apply pw_below_drewN | apply below_drew1) | exact HB.out))) : w.heap.size ≤ gb106)); have n3_ := Aside0.mk ((by rw [hg]; exact (below_size (by repeat (first | (with_reducible first | exact HB.out | apply below_alloc | apply pw_below_drewN | apply below_drew1) | exact HB.out))) : w.heap.size ≤ gb106)); clear HB; have HB := n0_; have BK106 := n1_; have GW106 := n2_; have GE106 := n3_; clear n0_ n1_ n2_ n3_; clear hb hbox hg; have hcz3_0 : w2.cell? ⟨gb106, 0, none⟩ = some (.int .i64 a0_0) := (blk_cell BK106.out 0).trans rfl; have hcz3_1 : w2.cell? ⟨gb106, 1, none⟩ = some (.int .i64 a0_1) := (blk_cell BK106.out 1).trans rfl; have hcz3_2 : w2.cell? ⟨gb106, 2, none⟩ = some (.int .i64 a0_2) := (blk_cell BK106.out 2).trans rfl; have hcz3_3 : w2.cell? ⟨gb106, 3, none⟩ = some (.int .i64 a0_3) := (blk_cell BK106.out 3).trans rfl; have hcz3_4 : w2.cell? ⟨gb106, 4, none⟩ = some (.int .u32 a0_4) := (blk_cell BK106.out 4).trans rfl; have hcz3_5 : w2.cell? ⟨gb106, 5, none⟩ = some (.int .u32 a0_5) := (blk_cell BK106.out 5).trans rfl; have hcz3_6 : w2.cell? ⟨gb106, 6, none⟩ = some (.int .u32 a0_6) := (blk_cell BK106.out 6).trans rfl; have hcz3_7 : w2.cell? ⟨gb106, 7, none⟩ = some (.int .u32 a0_7) := (blk_cell BK106.out 7).trans rfl; have hcz3_8 : w2.cell? ⟨gb106, 8, none⟩ = some (.int .u32 a0_8) := (blk_cell BK106.out 8).trans rfl; have hcz3_9 : w2.cell? ⟨gb106, 9, none⟩ = some (.int .u32 a0_9) := (blk_cell BK106.out 9).trans rfl; have hcz3_10 : w2.cell? ⟨gb106, 10, none⟩ = some (.string a0_10) := (blk_cell BK106.out 10).trans rfl; have hcz3_11 : w2.cell? ⟨gb106, 11, none⟩ = some (.string a0_11) := (blk_cell BK106.out 11).trans rfl; have hcz3_12 : w2.cell? ⟨gb106, 12, none⟩ = some (.int .i64 a0_12) := (blk_cell BK106.out 12).trans rfl; have hcz3_13 : w2.cell? ⟨gb106, 13, none⟩ = some (.bool a0_13) := (blk_cell BK106.out 13).trans rfl; have hcz3_14 : w2.cell? ⟨gb106, 14, none⟩ = some (.bool a0_14) := (blk_cell BK106.out 14).trans rfl; have hfz3_0 := blk_frozen BK106.out 0; have hfz3_1 := blk_frozen BK106.out 1; have hfz3_2 := blk_frozen BK106.out 2; have hfz3_3 := blk_frozen BK106.out 3; have hfz3_4 := blk_frozen BK106.out 4; have hfz3_5 := blk_frozen BK106.out 5; have hfz3_6 := blk_frozen BK106.out 6; have hfz3_7 := blk_frozen BK106.out 7; have hfz3_8 := blk_frozen BK106.out 8; have hfz3_9 := blk_frozen BK106.out 9; have hfz3_10 := blk_frozen BK106.out 10; have hfz3_11 := blk_frozen BK106.out 11; have hfz3_12 := blk_frozen BK106.out 12; have hfz3_13 := blk_frozen BK106.out 13; have hfz3_14 := blk_frozen BK106.out 14) | ((with_reducible refine gate_dst (N := 9) rfl ?_); refine Kd.R_lit k33 _ 33 ?hg (N := 9) ?hd (xs := ([(⟨a0_0, a0_1⟩ : S33), (⟨a0_2, a0_3⟩ : S33)] : List (S33))) (inner := [.int .i64 a0_0, .int .i64 a0_1, .int .i64 a0_2, .int .i64 a0_3]) (ok := fun _ => True) (okp := fun _ => True) ?hr ?hp (fun _ hk => hk) trivial (Below.refl _ _) (Nat.le_refl _) (by simp) ?_; (case hd => rfl); (case hg => rfl); (case hr => first | (go_simp; done) | (go_simp; rfl)); (case hp => exact (Reps.c2 (show Kd.M k33 _ _ _ (⟨a0_0, a0_1⟩ : S33) [.int .i64 a0_0, .int .i64 a0_1] from (k33_mkM _ _ _ (⟨a0_0, a0_1⟩ : S33) )) (Reps.c2 (show Kd.M k33 _ _ _ (⟨a0_2, a0_3⟩ : S33) [.int .i64 a0_2, .int .i64 a0_3] from (k33_mkM _ _ _ (⟨a0_2, a0_3⟩ : S33) )) (Reps.none _ _)))); intro v108 w4 ho5 hb hg_ hnew_; clear hg_ hnew_; (first | rw [← Ny107.out] at ho5 | (simp only [Int.reduceToNat] at ho5; rw [← Ny107.out] at ho5)); have n0_ := Aside0.mk (Kd.R_lower ho5 (below_size (by repeat (first | (with_reducible first | exact HB.out | apply below_alloc | apply pw_below_drewN | apply below_drew1 | refine below_set ?_ GE106.out) | exact HB.out)))); have n1_ := Aside0.mk (blk_below (g := gb106) (o := .cells #[.int .i64 a0_0, .int .i64 a0_1, .int .i64 a0_2, .int .i64 a0_3, .int .u32 a0_4, .int .u32 a0_5, .int .u32 a0_6, .int .u32 a0_7, .int .u32 a0_8, .int .u32 a0_9, .string a0_10, .string a0_11, .int .i64 a0_12, .bool a0_13, .bool a0_14] 35 (0, 0)) (by (with_reducible repeat (first | refine blk_drewN ?_ _ | refine blk_drew ?_ | refine blk_alloc ?_ _)); exact BK106.out) hb); have n2_ := Aside0.mk (below_step (by repeat (first | (with_reducible first | exact HB.out | apply below_alloc | apply pw_below_drewN | apply below_drew1 | refine below_set ?_ GE106.out) | exact HB.out)) hb); clear BK106; clear HB; have HO109 := n0_; have BK106 := n1_; have HB := n2_; clear n0_ n1_ n2_; clear hb ho5; obtain ⟨Ao6, co6, eo6⟩ := Kd.R_slice HO109.out; subst eo6))
  go_loopg [11] k (fun kq v11 w' => ∃ (x11_1 : Int), v11 = .int .i64 x11_1 ∧ Aside0 (spec_IsFile.l0 kq y107 (y107.length : Int) x11_1 a0_0 a0_1 a0_2 a0_3 a0_4 a0_5 a0_6 a0_7 a0_8 a0_9 a0_10 a0_11 a0_12 a0_13 a0_14 = some r) ∧ Aside0 (kq ≤ k) ∧ Aside0 (Kd.R k33 33 w' w.heap.size (fun _ => True) (.slice Ao6 y107.length co6) y107) ∧ Aside0 (w'.heap[gb106]? = some (.cells #[.int .i64 a0_0, .int .i64 a0_1, .int .i64 a0_2, .int .i64 a0_3, .int .u32 a0_4, .int .u32 a0_5, .int .u32 a0_6, .int .u32 a0_7, .int .u32 a0_8, .int .u32 a0_9, .string a0_10, .string a0_11, .int .i64 a0_12, .bool a0_13, .bool a0_14] 35 (0, 0))) ∧ Aside0 (Below w.heap.size w w'))
  case atStart => exact ⟨(0), (by first | rfl | (simp; done) | (simp [*]; done)), H', ⟨Nat.le_refl _⟩, ⟨by (with_reducible repeat (first | apply Kd.R_alloc | apply Kd.R_drewN | apply Kd.R_drew)); exact HO109.out⟩, ⟨by (with_reducible repeat (first | refine blk_drewN ?_ _ | refine blk_drew ?_ | refine blk_alloc ?_ _)); exact BK106.out⟩, ⟨by repeat (first | (with_reducible first | exact HB.out | apply below_alloc | apply pw_below_drewN | apply below_drew1 | refine below_set ?_ GE106.out) | exact HB.out)⟩⟩
  case round =>
    clear H'
    try clear c2
    try clear p2
    try clear hcz3_0
    try clear hcz3_1
    try clear hcz3_10
    try clear hcz3_11
    try clear hcz3_12
    try clear hcz3_13
    try clear hcz3_14
    try clear hcz3_2
    try clear hcz3_3
    try clear hcz3_4
    try clear hcz3_5
    try clear hcz3_6
    try clear hcz3_7
    try clear hcz3_8
    try clear hcz3_9
    try clear hfz3_0
    try clear hfz3_1
    try clear hfz3_10
    try clear hfz3_11
    try clear hfz3_12
    try clear hfz3_13
    try clear hfz3_14
    try clear hfz3_2
    try clear hfz3_3
    try clear hfz3_4
    try clear hfz3_5
    try clear hfz3_6
    try clear hfz3_7
    try clear hfz3_8
    try clear hfz3_9
    obtain ⟨x11_1, rfl, HA, HK1, HO_9, BK106, HB⟩ := hrel
    cases gk with
    | zero => exact absurd HA.out (by simp [spec_IsFile.l0])
    | succ k1 =>
      have H := HA.out
      clear HA
      simp only [spec_IsFile.l0] at H
      by_cases c7 : x11_1 < (y107.length : Int)
      · rw [if_pos c7] at H
        have c7b0 : decide (x11_1 < (y107.length : Int)) = true := decide_eq_true c7
        clear c7
        by_cases c8 : 0 ≤ x11_1
        · rw [if_pos c8] at H
          have c8b0 : decide (0 ≤ x11_1) = true := decide_eq_true c8
          clear c8
          by_cases c9 : x11_1 < (y107.length : Int)
          · rw [if_pos c9] at H
            have c9b0 : decide (x11_1 < (y107.length : Int)) = true := decide_eq_true c9
            clear c9
            by_cases c10 : ((rd_T33 y107 x11_1).f0) < 1
            · rw [if_pos c10] at H
              have c10b0 : decide (((rd_T33 y107 x11_1).f0) < 1) = true := decide_eq_true c10
              clear c10
              obtain rfl := Option.some.inj H
              have p110 : 0 ≤ (x11_1 : Int) := of_decide_eq_true (by first | (with_reducible assumption) | assumption)
              have q110 : x11_1 < (y107.length : Int) := of_decide_eq_true (by first | (with_reducible assumption) | assumption)
              obtain ⟨ad110, e110, hx110_0, hx110_1⟩ := at_T33 (Kd.R_reads' HO_9.out).2.2 x11_1 p110 q110
              cases e110
              replace p110 := eq_true p110
              replace q110 := eq_true q110
              go_wp2_with (first | ((with_reducible refine gate_dst (N := 4) rfl ?_); refine box_event ?hg (N := 4) ?hd (cs := #[.int .i64 0, .int .i64 0]) (t := 33) ?hr ?_; (case hd => rfl); (case hg => rfl); (case hr => first | (go_simp; done) | (go_simp; rfl)); intro gb111 hg w11 hbox hb; have n0_ := Aside0.mk (Kd.R_below (Kd.R_elderB (by (with_reducible repeat (first | apply Kd.R_alloc | apply Kd.R_drewN | apply Kd.R_drew)); exact HO_9.out) gb111 (Nat.le_of_eq hg.symm)) hb); have n1_ := Aside0.mk (blk_below (g := gb106) (o := .cells #[.int .i64 a0_0, .int .i64 a0_1, .int .i64 a0_2, .int .i64 a0_3, .int .u32 a0_4, .int .u32 a0_5, .int .u32 a0_6, .int .u32 a0_7, .int .u32 a0_8, .int .u32 a0_9, .string a0_10, .string a0_11, .int .i64 a0_12, .bool a0_13, .bool a0_14] 35 (0, 0)) (by (with_reducible repeat (first | refine blk_drewN ?_ _ | refine blk_drew ?_ | refine blk_alloc ?_ _)); exact BK106.out) hb); have n2_ := Aside0.mk (below_step (by repeat (first | (with_reducible first | exact HB.out | apply below_alloc | apply pw_below_drewN | apply below_drew1 | refine below_set ?_ GE106.out) | exact HB.out)) hb); have n3_ := Aside0.mk (hbox); have n4_ := Aside0.mk ((by rw [hg]; exact (below_size (by repeat (first | (with_reducible first | exact HB.out | apply below_alloc | apply pw_below_drewN | apply below_drew1 | refine below_set ?_ GE106.out) | exact HB.out))) : w.heap.size ≤ gb111)); have n5_ := Aside0.mk ((by rw [hg]; exact (below_size (by repeat (first | (with_reducible first | exact HB.out | apply below_alloc | apply pw_below_drewN | apply below_drew1 | refine below_set ?_ GE106.out) | exact HB.out))) : w.heap.size ≤ gb111)); have n6_ := Aside0.mk ((by rw [hg]; exact Nat.ne_of_lt (blk_lt (g := gb106) (o := .cells #[.int .i64 a0_0, .int .i64 a0_1, .int .i64 a0_2, .int .i64 a0_3, .int .u32 a0_4, .int .u32 a0_5, .int .u32 a0_6, .int .u32 a0_7, .int .u32 a0_8, .int .u32 a0_9, .string a0_10, .string a0_11, .int .i64 a0_12, .bool a0_13, .bool a0_14] 35 (0, 0)) (by (with_reducible repeat (first | refine blk_drewN ?_ _ | refine blk_drew ?_ | refine blk_alloc ?_ _)); exact BK106.out)) : gb106 ≠ gb111)); have n7_ := Aside0.mk ((by rw [hg]; exact Nat.ne_of_gt (blk_lt (g := gb106) (o := .cells #[.int .i64 a0_0, .int .i64 a0_1, .int .i64 a0_2, .int .i64 a0_3, .int .u32 a0_4, .int .u32 a0_5, .int .u32 a0_6, .int .u32 a0_7, .int .u32 a0_8, .int .u32 a0_9, .string a0_10, .string a0_11, .int .i64 a0_12, .bool a0_13, .bool a0_14] 35 (0, 0)) (by (with_reducible repeat (first | refine blk_drewN ?_ _ | refine blk_drew ?_ | refine blk_alloc ?_ _)); exact BK106.out)) : gb111 ≠ gb106)); clear HO_9; clear BK106; clear HB; have HO_9 := n0_; have BK106 := n1_; have HB := n2_; have BK111 := n3_; have GW111 := n4_; have GE111 := n5_; have NB106_111 := n6_; have NB111_106 := n7_; clear n0_ n1_ n2_ n3_ n4_ n5_ n6_ n7_; clear hb hbox hg; have hnb12 := NB111_106.out; have hnc12 := NB106_111.out; have hcz13_0 : w11.cell? ⟨gb111, 0, none⟩ = some (.int .i64 0) := (blk_cell BK111.out 0).trans rfl; have hcz13_1 : w11.cell? ⟨gb111, 1, none⟩ = some (.int .i64 0) := (blk_cell BK111.out 1).trans rfl; have hfz13_0 := blk_frozen BK111.out 0; have hfz13_1 := blk_frozen BK111.out 1))
              go_ret
              exact ⟨by first | rfl | (simp [errW_none, errW_some] <;> rfl) | (simp [*, errW_none, errW_some] <;> rfl), by repeat (first | (with_reducible first | exact HB.out | apply below_alloc | apply pw_below_drewN | apply below_drew1 | refine below_set ?_ GE106.out | refine below_set ?_ GE111.out) | exact HB.out)⟩
            · rw [if_neg c10] at H
              have c10b0 : decide (((rd_T33 y107 x11_1).f0) < 1) = false := decide_eq_false c10
              clear c10
              by_cases c14 : ((rd_T33 y107 x11_1).f0) ≥ 4294967296
              · rw [if_pos c14] at H
                have c14b0 : decide (4294967296 ≤ ((rd_T33 y107 x11_1).f0)) = true := decide_eq_true c14
                clear c14
                obtain rfl := Option.some.inj H
                have p110 : 0 ≤ (x11_1 : Int) := of_decide_eq_true (by first | (with_reducible assumption) | assumption)
                have q110 : x11_1 < (y107.length : Int) := of_decide_eq_true (by first | (with_reducible assumption) | assumption)
                obtain ⟨ad110, e110, hx110_0, hx110_1⟩ := at_T33 (Kd.R_reads' HO_9.out).2.2 x11_1 p110 q110
                cases e110
                replace p110 := eq_true p110
                replace q110 := eq_true q110
                go_wp2_with (first | ((with_reducible refine gate_dst (N := 4) rfl ?_); refine box_event ?hg (N := 4) ?hd (cs := #[.int .i64 0, .int .i64 0]) (t := 33) ?hr ?_; (case hd => rfl); (case hg => rfl); (case hr => first | (go_simp; done) | (go_simp; rfl)); intro gb111 hg w15 hbox hb; have n0_ := Aside0.mk (Kd.R_below (Kd.R_elderB (by (with_reducible repeat (first | apply Kd.R_alloc | apply Kd.R_drewN | apply Kd.R_drew)); exact HO_9.out) gb111 (Nat.le_of_eq hg.symm)) hb); have n1_ := Aside0.mk (blk_below (g := gb106) (o := .cells #[.int .i64 a0_0, .int .i64 a0_1, .int .i64 a0_2, .int .i64 a0_3, .int .u32 a0_4, .int .u32 a0_5, .int .u32 a0_6, .int .u32 a0_7, .int .u32 a0_8, .int .u32 a0_9, .string a0_10, .string a0_11, .int .i64 a0_12, .bool a0_13, .bool a0_14] 35 (0, 0)) (by (with_reducible repeat (first | refine blk_drewN ?_ _ | refine blk_drew ?_ | refine blk_alloc ?_ _)); exact BK106.out) hb); have n2_ := Aside0.mk (below_step (by repeat (first | (with_reducible first | exact HB.out | apply below_alloc | apply pw_below_drewN | apply below_drew1 | refine below_set ?_ GE106.out) | exact HB.out)) hb); have n3_ := Aside0.mk (hbox); have n4_ := Aside0.mk ((by rw [hg]; exact (below_size (by repeat (first | (with_reducible first | exact HB.out | apply below_alloc | apply pw_below_drewN | apply below_drew1 | refine below_set ?_ GE106.out) | exact HB.out))) : w.heap.size ≤ gb111)); have n5_ := Aside0.mk ((by rw [hg]; exact (below_size (by repeat (first | (with_reducible first | exact HB.out | apply below_alloc | apply pw_below_drewN | apply below_drew1 | refine below_set ?_ GE106.out) | exact HB.out))) : w.heap.size ≤ gb111)); have n6_ := Aside0.mk ((by rw [hg]; exact Nat.ne_of_lt (blk_lt (g := gb106) (o := .cells #[.int .i64 a0_0, .int .i64 a0_1, .int .i64 a0_2, .int .i64 a0_3, .int .u32 a0_4, .int .u32 a0_5, .int .u32 a0_6, .int .u32 a0_7, .int .u32 a0_8, .int .u32 a0_9, .string a0_10, .string a0_11, .int .i64 a0_12, .bool a0_13, .bool a0_14] 35 (0, 0)) (by (with_reducible repeat (first | refine blk_drewN ?_ _ | refine blk_drew ?_ | refine blk_alloc ?_ _)); exact BK106.out)) : gb106 ≠ gb111)); have n7_ := Aside0.mk ((by rw [hg]; exact Nat.ne_of_gt (blk_lt (g := gb106) (o := .cells #[.int .i64 a0_0, .int .i64 a0_1, .int .i64 a0_2, .int .i64 a0_3, .int .u32 a0_4, .int .u32 a0_5, .int .u32 a0_6, .int .u32 a0_7, .int .u32 a0_8, .int .u32 a0_9, .string a0_10, .string a0_11, .int .i64 a0_12, .bool a0_13, .bool a0_14] 35 (0, 0)) (by (with_reducible repeat (first | refine blk_drewN ?_ _ | refine blk_drew ?_ | refine blk_alloc ?_ _)); exact BK106.out)) : gb111 ≠ gb106)); clear HO_9; clear BK106; clear HB; have HO_9 := n0_; have BK106 := n1_; have HB := n2_; have BK111 := n3_; have GW111 := n4_; have GE111 := n5_; have NB106_111 := n6_; have NB111_106 := n7_; clear n0_ n1_ n2_ n3_ n4_ n5_ n6_ n7_; clear hb hbox hg; have hnb16 := NB111_106.out; have hnc16 := NB106_111.out; have hcz17_0 : w15.cell? ⟨gb111, 0, none⟩ = some (.int .i64 0) := (blk_cell BK111.out 0).trans rfl; have hcz17_1 : w15.cell? ⟨gb111, 1, none⟩ = some (.int .i64 0) := (blk_cell BK111.out 1).trans rfl; have hfz17_0 := blk_frozen BK111.out 0; have hfz17_1 := blk_frozen BK111.out 1))
                go_ret
                exact ⟨by first | rfl | (simp [errW_none, errW_some] <;> rfl) | (simp [*, errW_none, errW_some] <;> rfl), by repeat (first | (with_reducible first | exact HB.out | apply below_alloc | apply pw_below_drewN | apply below_drew1 | refine below_set ?_ GE106.out | refine below_set ?_ GE111.out) | exact HB.out)⟩
              · rw [if_neg c14] at H
                have c14b0 : decide (4294967296 ≤ ((rd_T33 y107 x11_1).f0)) = false := decide_eq_false c14
                clear c14
                by_cases c18 : ((rd_T33 y107 x11_1).f1) < 0
                · rw [if_pos c18] at H
                  have c18b0 : decide (((rd_T33 y107 x11_1).f1) < 0) = true := decide_eq_true c18
                  clear c18
                  obtain rfl := Option.some.inj H
                  have p110 : 0 ≤ (x11_1 : Int) := of_decide_eq_true (by first | (with_reducible assumption) | assumption)
                  have q110 : x11_1 < (y107.length : Int) := of_decide_eq_true (by first | (with_reducible assumption) | assumption)
                  obtain ⟨ad110, e110, hx110_0, hx110_1⟩ := at_T33 (Kd.R_reads' HO_9.out).2.2 x11_1 p110 q110
                  cases e110
                  replace p110 := eq_true p110
                  replace q110 := eq_true q110
                  go_wp2_with (first | ((with_reducible refine gate_dst (N := 4) rfl ?_); refine box_event ?hg (N := 4) ?hd (cs := #[.int .i64 0, .int .i64 0]) (t := 33) ?hr ?_; (case hd => rfl); (case hg => rfl); (case hr => first | (go_simp; done) | (go_simp; rfl)); intro gb111 hg w19 hbox hb; have n0_ := Aside0.mk (Kd.R_below (Kd.R_elderB (by (with_reducible repeat (first | apply Kd.R_alloc | apply Kd.R_drewN | apply Kd.R_drew)); exact HO_9.out) gb111 (Nat.le_of_eq hg.symm)) hb); have n1_ := Aside0.mk (blk_below (g := gb106) (o := .cells #[.int .i64 a0_0, .int .i64 a0_1, .int .i64 a0_2, .int .i64 a0_3, .int .u32 a0_4, .int .u32 a0_5, .int .u32 a0_6, .int .u32 a0_7, .int .u32 a0_8, .int .u32 a0_9, .string a0_10, .string a0_11, .int .i64 a0_12, .bool a0_13, .bool a0_14] 35 (0, 0)) (by (with_reducible repeat (first | refine blk_drewN ?_ _ | refine blk_drew ?_ | refine blk_alloc ?_ _)); exact BK106.out) hb); have n2_ := Aside0.mk (below_step (by repeat (first | (with_reducible first | exact HB.out | apply below_alloc | apply pw_below_drewN | apply below_drew1 | refine below_set ?_ GE106.out) | exact HB.out)) hb); have n3_ := Aside0.mk (hbox); have n4_ := Aside0.mk ((by rw [hg]; exact (below_size (by repeat (first | (with_reducible first | exact HB.out | apply below_alloc | apply pw_below_drewN | apply below_drew1 | refine below_set ?_ GE106.out) | exact HB.out))) : w.heap.size ≤ gb111)); have n5_ := Aside0.mk ((by rw [hg]; exact (below_size (by repeat (first | (with_reducible first | exact HB.out | apply below_alloc | apply pw_below_drewN | apply below_drew1 | refine below_set ?_ GE106.out) | exact HB.out))) : w.heap.size ≤ gb111)); have n6_ := Aside0.mk ((by rw [hg]; exact Nat.ne_of_lt (blk_lt (g := gb106) (o := .cells #[.int .i64 a0_0, .int .i64 a0_1, .int .i64 a0_2, .int .i64 a0_3, .int .u32 a0_4, .int .u32 a0_5, .int .u32 a0_6, .int .u32 a0_7, .int .u32 a0_8, .int .u32 a0_9, .string a0_10, .string a0_11, .int .i64 a0_12, .bool a0_13, .bool a0_14] 35 (0, 0)) (by (with_reducible repeat (first | refine blk_drewN ?_ _ | refine blk_drew ?_ | refine blk_alloc ?_ _)); exact BK106.out)) : gb106 ≠ gb111)); have n7_ := Aside0.mk ((by rw [hg]; exact Nat.ne_of_gt (blk_lt (g := gb106) (o := .cells #[.int .i64 a0_0, .int .i64 a0_1, .int .i64 a0_2, .int .i64 a0_3, .int .u32 a0_4, .int .u32 a0_5, .int .u32 a0_6, .int .u32 a0_7, .int .u32 a0_8, .int .u32 a0_9, .string a0_10, .string a0_11, .int .i64 a0_12, .bool a0_13, .bool a0_14] 35 (0, 0)) (by (with_reducible repeat (first | refine blk_drewN ?_ _ | refine blk_drew ?_ | refine blk_alloc ?_ _)); exact BK106.out)) : gb111 ≠ gb106)); clear HO_9; clear BK106; clear HB; have HO_9 := n0_; have BK106 := n1_; have HB := n2_; have BK111 := n3_; have GW111 := n4_; have GE111 := n5_; have NB106_111 := n6_; have NB111_106 := n7_; clear n0_ n1_ n2_ n3_ n4_ n5_ n6_ n7_; clear hb hbox hg; have hnb20 := NB111_106.out; have hnc20 := NB106_111.out; have hcz21_0 : w19.cell? ⟨gb111, 0, none⟩ = some (.int .i64 0) := (blk_cell BK111.out 0).trans rfl; have hcz21_1 : w19.cell? ⟨gb111, 1, none⟩ = some (.int .i64 0) := (blk_cell BK111.out 1).trans rfl; have hfz21_0 := blk_frozen BK111.out 0; have hfz21_1 := blk_frozen BK111.out 1))
                  go_ret
                  exact ⟨by first | rfl | (simp [errW_none, errW_some] <;> rfl) | (simp [*, errW_none, errW_some] <;> rfl), by repeat (first | (with_reducible first | exact HB.out | apply below_alloc | apply pw_below_drewN | apply below_drew1 | refine below_set ?_ GE106.out | refine below_set ?_ GE111.out) | exact HB.out)⟩
                · rw [if_neg c18] at H
                  have c18b0 : decide (((rd_T33 y107 x11_1).f1) < 0) = false := decide_eq_false c18
                  clear c18
                  by_cases c22 : ((rd_T33 y107 x11_1).f1) ≥ 1000000000
                  · rw [if_pos c22] at H
                    have c22b0 : decide (1000000000 ≤ ((rd_T33 y107 x11_1).f1)) = true := decide_eq_true c22
                    clear c22
                    obtain rfl := Option.some.inj H
                    have p110 : 0 ≤ (x11_1 : Int) := of_decide_eq_true (by first | (with_reducible assumption) | assumption)
                    have q110 : x11_1 < (y107.length : Int) := of_decide_eq_true (by first | (with_reducible assumption) | assumption)
                    obtain ⟨ad110, e110, hx110_0, hx110_1⟩ := at_T33 (Kd.R_reads' HO_9.out).2.2 x11_1 p110 q110
                    cases e110
                    replace p110 := eq_true p110
                    replace q110 := eq_true q110
                    go_wp2_with (first | ((with_reducible refine gate_dst (N := 4) rfl ?_); refine box_event ?hg (N := 4) ?hd (cs := #[.int .i64 0, .int .i64 0]) (t := 33) ?hr ?_; (case hd => rfl); (case hg => rfl); (case hr => first | (go_simp; done) | (go_simp; rfl)); intro gb111 hg w23 hbox hb; have n0_ := Aside0.mk (Kd.R_below (Kd.R_elderB (by (with_reducible repeat (first | apply Kd.R_alloc | apply Kd.R_drewN | apply Kd.R_drew)); exact HO_9.out) gb111 (Nat.le_of_eq hg.symm)) hb); have n1_ := Aside0.mk (blk_below (g := gb106) (o := .cells #[.int .i64 a0_0, .int .i64 a0_1, .int .i64 a0_2, .int .i64 a0_3, .int .u32 a0_4, .int .u32 a0_5, .int .u32 a0_6, .int .u32 a0_7, .int .u32 a0_8, .int .u32 a0_9, .string a0_10, .string a0_11, .int .i64 a0_12, .bool a0_13, .bool a0_14] 35 (0, 0)) (by (with_reducible repeat (first | refine blk_drewN ?_ _ | refine blk_drew ?_ | refine blk_alloc ?_ _)); exact BK106.out) hb); have n2_ := Aside0.mk (below_step (by repeat (first | (with_reducible first | exact HB.out | apply below_alloc | apply pw_below_drewN | apply below_drew1 | refine below_set ?_ GE106.out) | exact HB.out)) hb); have n3_ := Aside0.mk (hbox); have n4_ := Aside0.mk ((by rw [hg]; exact (below_size (by repeat (first | (with_reducible first | exact HB.out | apply below_alloc | apply pw_below_drewN | apply below_drew1 | refine below_set ?_ GE106.out) | exact HB.out))) : w.heap.size ≤ gb111)); have n5_ := Aside0.mk ((by rw [hg]; exact (below_size (by repeat (first | (with_reducible first | exact HB.out | apply below_alloc | apply pw_below_drewN | apply below_drew1 | refine below_set ?_ GE106.out) | exact HB.out))) : w.heap.size ≤ gb111)); have n6_ := Aside0.mk ((by rw [hg]; exact Nat.ne_of_lt (blk_lt (g := gb106) (o := .cells #[.int .i64 a0_0, .int .i64 a0_1, .int .i64 a0_2, .int .i64 a0_3, .int .u32 a0_4, .int .u32 a0_5, .int .u32 a0_6, .int .u32 a0_7, .int .u32 a0_8, .int .u32 a0_9, .string a0_10, .string a0_11, .int .i64 a0_12, .bool a0_13, .bool a0_14] 35 (0, 0)) (by (with_reducible repeat (first | refine blk_drewN ?_ _ | refine blk_drew ?_ | refine blk_alloc ?_ _)); exact BK106.out)) : gb106 ≠ gb111)); have n7_ := Aside0.mk ((by rw [hg]; exact Nat.ne_of_gt (blk_lt (g := gb106) (o := .cells #[.int .i64 a0_0, .int .i64 a0_1, .int .i64 a0_2, .int .i64 a0_3, .int .u32 a0_4, .int .u32 a0_5, .int .u32 a0_6, .int .u32 a0_7, .int .u32 a0_8, .int .u32 a0_9, .string a0_10, .string a0_11, .int .i64 a0_12, .bool a0_13, .bool a0_14] 35 (0, 0)) (by (with_reducible repeat (first | refine blk_drewN ?_ _ | refine blk_drew ?_ | refine blk_alloc ?_ _)); exact BK106.out)) : gb111 ≠ gb106)); clear HO_9; clear BK106; clear HB; have HO_9 := n0_; have BK106 := n1_; have HB := n2_; have BK111 := n3_; have GW111 := n4_; have GE111 := n5_; have NB106_111 := n6_; have NB111_106 := n7_; clear n0_ n1_ n2_ n3_ n4_ n5_ n6_ n7_; clear hb hbox hg; have hnb24 := NB111_106.out; have hnc24 := NB106_111.out; have hcz25_0 : w23.cell? ⟨gb111, 0, none⟩ = some (.int .i64 0) := (blk_cell BK111.out 0).trans rfl; have hcz25_1 : w23.cell? ⟨gb111, 1, none⟩ = some (.int .i64 0) := (blk_cell BK111.out 1).trans rfl; have hfz25_0 := blk_frozen BK111.out 0; have hfz25_1 := blk_frozen BK111.out 1))
                    go_ret
                    exact ⟨by first | rfl | (simp [errW_none, errW_some] <;> rfl) | (simp [*, errW_none, errW_some] <;> rfl), by repeat (first | (with_reducible first | exact HB.out | apply below_alloc | apply pw_below_drewN | apply below_drew1 | refine below_set ?_ GE106.out | refine below_set ?_ GE111.out) | exact HB.out)⟩
                  · rw [if_neg c22] at H
                    have c22b0 : decide (1000000000 ≤ ((rd_T33 y107 x11_1).f1)) = false := decide_eq_false c22
                    clear c22
                    have H' := Aside0.mk H
                    clear H
                    have p110 : 0 ≤ (x11_1 : Int) := of_decide_eq_true (by first | (with_reducible assumption) | assumption)
                    have q110 : x11_1 < (y107.length : Int) := of_decide_eq_true (by first | (with_reducible assumption) | assumption)
                    obtain ⟨ad110, e110, hx110_0, hx110_1⟩ := at_T33 (Kd.R_reads' HO_9.out).2.2 x11_1 p110 q110
                    cases e110
                    replace p110 := eq_true p110
                    replace q110 := eq_true q110
                    go_wp2_with (first | ((with_reducible refine gate_dst (N := 4) rfl ?_); refine box_event ?hg (N := 4) ?hd (cs := #[.int .i64 0, .int .i64 0]) (t := 33) ?hr ?_; (case hd => rfl); (case hg => rfl); (case hr => first | (go_simp; done) | (go_simp; rfl)); intro gb111 hg w26 hbox hb; have n0_ := Aside0.mk (Kd.R_below (Kd.R_elderB (by (with_reducible repeat (first | apply Kd.R_alloc | apply Kd.R_drewN | apply Kd.R_drew)); exact HO_9.out) gb111 (Nat.le_of_eq hg.symm)) hb); have n1_ := Aside0.mk (blk_below (g := gb106) (o := .cells #[.int .i64 a0_0, .int .i64 a0_1, .int .i64 a0_2, .int .i64 a0_3, .int .u32 a0_4, .int .u32 a0_5, .int .u32 a0_6, .int .u32 a0_7, .int .u32 a0_8, .int .u32 a0_9, .string a0_10, .string a0_11, .int .i64 a0_12, .bool a0_13, .bool a0_14] 35 (0, 0)) (by (with_reducible repeat (first | refine blk_drewN ?_ _ | refine blk_drew ?_ | refine blk_alloc ?_ _)); exact BK106.out) hb); have n2_ := Aside0.mk (below_step (by repeat (first | (with_reducible first | exact HB.out | apply below_alloc | apply pw_below_drewN | apply below_drew1 | refine below_set ?_ GE106.out) | exact HB.out)) hb); have n3_ := Aside0.mk (hbox); have n4_ := Aside0.mk ((by rw [hg]; exact (below_size (by repeat (first | (with_reducible first | exact HB.out | apply below_alloc | apply pw_below_drewN | apply below_drew1 | refine below_set ?_ GE106.out) | exact HB.out))) : w.heap.size ≤ gb111)); have n5_ := Aside0.mk ((by rw [hg]; exact (below_size (by repeat (first | (with_reducible first | exact HB.out | apply below_alloc | apply pw_below_drewN | apply below_drew1 | refine below_set ?_ GE106.out) | exact HB.out))) : w.heap.size ≤ gb111)); have n6_ := Aside0.mk ((by rw [hg]; exact Nat.ne_of_lt (blk_lt (g := gb106) (o := .cells #[.int .i64 a0_0, .int .i64 a0_1, .int .i64 a0_2, .int .i64 a0_3, .int .u32 a0_4, .int .u32 a0_5, .int .u32 a0_6, .int .u32 a0_7, .int .u32 a0_8, .int .u32 a0_9, .string a0_10, .string a0_11, .int .i64 a0_12, .bool a0_13, .bool a0_14] 35 (0, 0)) (by (with_reducible repeat (first | refine blk_drewN ?_ _ | refine blk_drew ?_ | refine blk_alloc ?_ _)); exact BK106.out)) : gb106 ≠ gb111)); have n7_ := Aside0.mk ((by rw [hg]; exact Nat.ne_of_gt (blk_lt (g := gb106) (o := .cells #[.int .i64 a0_0, .int .i64 a0_1, .int .i64 a0_2, .int .i64 a0_3, .int .u32 a0_4, .int .u32 a0_5, .int .u32 a0_6, .int .u32 a0_7, .int .u32 a0_8, .int .u32 a0_9, .string a0_10, .string a0_11, .int .i64 a0_12, .bool a0_13, .bool a0_14] 35 (0, 0)) (by (with_reducible repeat (first | refine blk_drewN ?_ _ | refine blk_drew ?_ | refine blk_alloc ?_ _)); exact BK106.out)) : gb111 ≠ gb106)); clear HO_9; clear BK106; clear HB; have HO_9 := n0_; have BK106 := n1_; have HB := n2_; have BK111 := n3_; have GW111 := n4_; have GE111 := n5_; have NB106_111 := n6_; have NB111_106 := n7_; clear n0_ n1_ n2_ n3_ n4_ n5_ n6_ n7_; clear hb hbox hg; have hnb27 := NB111_106.out; have hnc27 := NB106_111.out; have hcz28_0 : w26.cell? ⟨gb111, 0, none⟩ = some (.int .i64 0) := (blk_cell BK111.out 0).trans rfl; have hcz28_1 : w26.cell? ⟨gb111, 1, none⟩ = some (.int .i64 0) := (blk_cell BK111.out 1).trans rfl; have hfz28_0 := blk_frozen BK111.out 0; have hfz28_1 := blk_frozen BK111.out 1))
                    go_roundg k1
                    case measure => have := HK1.out; omega
                    case rel => exact ⟨(wrap64 (x11_1 + 1)), (by first | rfl | (simp; done) | (simp [*]; done)), H', ⟨by have := HK1.out; omega⟩, ⟨by (with_reducible repeat (first | apply Kd.R_alloc | apply Kd.R_drewN | apply Kd.R_drew)); exact Kd.R_mono (Kd.R_far (p := ⟨gb111, 1, none⟩) (Kd.R_far (p := ⟨gb111, 0, none⟩) (Kd.R_mono HO_9.out (fun k_ hk => (⟨hk, hk.2⟩ : _ ∧ k_ ≠ gb111))) (fun _ hk => hk.2) (.int .i64 ((rd_T33 y107 x11_1).f0))) (fun _ hk => hk.2) (.int .i64 ((rd_T33 y107 x11_1).f1))) (fun _ hk => trivial)⟩, ⟨by (with_reducible repeat (first | refine blk_drewN ?_ _ | refine blk_drew ?_ | refine blk_alloc ?_ _)); refine blk_far ?_ NB106_111.out _; (with_reducible repeat (first | refine blk_drewN ?_ _ | refine blk_drew ?_ | refine blk_alloc ?_ _)); refine blk_far ?_ NB106_111.out _; (with_reducible repeat (first | refine blk_drewN ?_ _ | refine blk_drew ?_ | refine blk_alloc ?_ _)); exact BK106.out⟩, ⟨by repeat (first | (with_reducible first | exact HB.out | apply below_alloc | apply pw_below_drewN | apply below_drew1 | refine below_set ?_ GE106.out | refine below_set ?_ GE111.out) | exact HB.out)⟩⟩
          · rw [if_neg c9] at H
            exact absurd H (by simp)
        · rw [if_neg c8] at H
          exact absurd H (by simp)
      · rw [if_neg c7] at H
        have c7b0 : decide (x11_1 < (y107.length : Int)) = false := decide_eq_false c7
        clear c7
        replace H := Option.bind_eq_some_iff.mp H
        obtain ⟨t112, A290, H⟩ := H
        replace H : (if t112 = true then ((spec_IsName40.f k1 a0_10).bind fun t113 => (if t113 = true then (if a0_12 ≥ 0 then (some (decide (a0_12 ≤ 3))) else (some false)) else (some false))) else (some false)) = some r := H
        have A29 := Aside0.mk A290
        clear A290
        by_cases c30 : t112 = true
        · subst c30
          have H1 : ((spec_IsName40.f k1 a0_10).bind fun t113 => (if t113 = true then (if a0_12 ≥ 0 then (some (decide (a0_12 ≤ 3))) else (some false)) else (some false))) = some r := by rw [if_pos rfl] at H; exact H
          clear H
          have H := H1
          clear H1
          replace H := Option.bind_eq_some_iff.mp H
          obtain ⟨t113, A310, H⟩ := H
          replace H : (if t113 = true then (if a0_12 ≥ 0 then (some (decide (a0_12 ≤ 3))) else (some false)) else (some false)) = some r := H
          have A31 := Aside0.mk A310
          clear A310
          by_cases c32 : t113 = true
          · subst c32
            have H1 : (if a0_12 ≥ 0 then (some (decide (a0_12 ≤ 3))) else (some false)) = some r := by rw [if_pos rfl] at H; exact H
            clear H
            have H := H1
            clear H1
            by_cases c33 : a0_12 ≥ 0
            · rw [if_pos c33] at H
              have c33b0 : decide (0 ≤ a0_12) = true := decide_eq_true c33
              clear c33
              obtain rfl := Option.some.inj H
              have hcz34_0 : wr.cell? ⟨gb106, 0, none⟩ = some (.int .i64 a0_0) := (blk_cell BK106.out 0).trans rfl
              have hcz34_1 : wr.cell? ⟨gb106, 1, none⟩ = some (.int .i64 a0_1) := (blk_cell BK106.out 1).trans rfl
              have hcz34_2 : wr.cell? ⟨gb106, 2, none⟩ = some (.int .i64 a0_2) := (blk_cell BK106.out 2).trans rfl
              have hcz34_3 : wr.cell? ⟨gb106, 3, none⟩ = some (.int .i64 a0_3) := (blk_cell BK106.out 3).trans rfl
              have hcz34_4 : wr.cell? ⟨gb106, 4, none⟩ = some (.int .u32 a0_4) := (blk_cell BK106.out 4).trans rfl
              have hcz34_5 : wr.cell? ⟨gb106, 5, none⟩ = some (.int .u32 a0_5) := (blk_cell BK106.out 5).trans rfl
              have hcz34_6 : wr.cell? ⟨gb106, 6, none⟩ = some (.int .u32 a0_6) := (blk_cell BK106.out 6).trans rfl
              have hcz34_7 : wr.cell? ⟨gb106, 7, none⟩ = some (.int .u32 a0_7) := (blk_cell BK106.out 7).trans rfl
              have hcz34_8 : wr.cell? ⟨gb106, 8, none⟩ = some (.int .u32 a0_8) := (blk_cell BK106.out 8).trans rfl
              have hcz34_9 : wr.cell? ⟨gb106, 9, none⟩ = some (.int .u32 a0_9) := (blk_cell BK106.out 9).trans rfl
              have hcz34_10 : wr.cell? ⟨gb106, 10, none⟩ = some (.string a0_10) := (blk_cell BK106.out 10).trans rfl
              have hcz34_11 : wr.cell? ⟨gb106, 11, none⟩ = some (.string a0_11) := (blk_cell BK106.out 11).trans rfl
              have hcz34_12 : wr.cell? ⟨gb106, 12, none⟩ = some (.int .i64 a0_12) := (blk_cell BK106.out 12).trans rfl
              have hcz34_13 : wr.cell? ⟨gb106, 13, none⟩ = some (.bool a0_13) := (blk_cell BK106.out 13).trans rfl
              have hcz34_14 : wr.cell? ⟨gb106, 14, none⟩ = some (.bool a0_14) := (blk_cell BK106.out 14).trans rfl
              have hfz34_0 := blk_frozen BK106.out 0
              have hfz34_1 := blk_frozen BK106.out 1
              have hfz34_2 := blk_frozen BK106.out 2
              have hfz34_3 := blk_frozen BK106.out 3
              have hfz34_4 := blk_frozen BK106.out 4
              have hfz34_5 := blk_frozen BK106.out 5
              have hfz34_6 := blk_frozen BK106.out 6
              have hfz34_7 := blk_frozen BK106.out 7
              have hfz34_8 := blk_frozen BK106.out 8
              have hfz34_9 := blk_frozen BK106.out 9
              have hfz34_10 := blk_frozen BK106.out 10
              have hfz34_11 := blk_frozen BK106.out 11
              have hfz34_12 := blk_frozen BK106.out 12
              have hfz34_13 := blk_frozen BK106.out 13
              have hfz34_14 := blk_frozen BK106.out 14
              go_wp2_with (first | ((with_reducible refine gate_callee (f := 35) rfl ?_); refine goesL_ (some 36) rfl rfl Tryz.func35 (by kernel_rfl) rfl #[.string a0_11] rfl (by (try simp only [List.map_toArray, List.map_cons, List.map_nil]); first | done | rfl | (simp only [List.length_drop, List.length_take]; rfl)) ?_; (with_reducible refine (spec_IsFileName.calls k1 a0_11 true _ A29.out).mono ?_); rintro e w' ⟨rfl, ⟨nd, rfl⟩⟩; refine ⟨_, rfl, ?_⟩) | (go_at_call 36; (with_reducible refine (spec_IsName40.calls k1 a0_10 true _ A31.out).mono ?_); rintro e w' ⟨rfl, ⟨nd, rfl⟩⟩))
              go_ret
              exact ⟨by first | rfl | (simp [errW_none, errW_some] <;> rfl) | (simp [*, errW_none, errW_some] <;> rfl), by repeat (first | (with_reducible first | exact HB.out | apply below_alloc | apply pw_below_drewN | apply below_drew1 | refine below_set ?_ GE106.out) | exact HB.out)⟩
            · rw [if_neg c33] at H
              have c33b0 : decide (0 ≤ a0_12) = false := decide_eq_false c33
              clear c33
              obtain rfl := Option.some.inj H
              have hcz35_0 : wr.cell? ⟨gb106, 0, none⟩ = some (.int .i64 a0_0) := (blk_cell BK106.out 0).trans rfl
              have hcz35_1 : wr.cell? ⟨gb106, 1, none⟩ = some (.int .i64 a0_1) := (blk_cell BK106.out 1).trans rfl
              have hcz35_2 : wr.cell? ⟨gb106, 2, none⟩ = some (.int .i64 a0_2) := (blk_cell BK106.out 2).trans rfl
              have hcz35_3 : wr.cell? ⟨gb106, 3, none⟩ = some (.int .i64 a0_3) := (blk_cell BK106.out 3).trans rfl
              have hcz35_4 : wr.cell? ⟨gb106, 4, none⟩ = some (.int .u32 a0_4) := (blk_cell BK106.out 4).trans rfl
              have hcz35_5 : wr.cell? ⟨gb106, 5, none⟩ = some (.int .u32 a0_5) := (blk_cell BK106.out 5).trans rfl
              have hcz35_6 : wr.cell? ⟨gb106, 6, none⟩ = some (.int .u32 a0_6) := (blk_cell BK106.out 6).trans rfl
              have hcz35_7 : wr.cell? ⟨gb106, 7, none⟩ = some (.int .u32 a0_7) := (blk_cell BK106.out 7).trans rfl
              have hcz35_8 : wr.cell? ⟨gb106, 8, none⟩ = some (.int .u32 a0_8) := (blk_cell BK106.out 8).trans rfl
              have hcz35_9 : wr.cell? ⟨gb106, 9, none⟩ = some (.int .u32 a0_9) := (blk_cell BK106.out 9).trans rfl
              have hcz35_10 : wr.cell? ⟨gb106, 10, none⟩ = some (.string a0_10) := (blk_cell BK106.out 10).trans rfl
              have hcz35_11 : wr.cell? ⟨gb106, 11, none⟩ = some (.string a0_11) := (blk_cell BK106.out 11).trans rfl
              have hcz35_12 : wr.cell? ⟨gb106, 12, none⟩ = some (.int .i64 a0_12) := (blk_cell BK106.out 12).trans rfl
              have hcz35_13 : wr.cell? ⟨gb106, 13, none⟩ = some (.bool a0_13) := (blk_cell BK106.out 13).trans rfl
              have hcz35_14 : wr.cell? ⟨gb106, 14, none⟩ = some (.bool a0_14) := (blk_cell BK106.out 14).trans rfl
              have hfz35_0 := blk_frozen BK106.out 0
              have hfz35_1 := blk_frozen BK106.out 1
              have hfz35_2 := blk_frozen BK106.out 2
              have hfz35_3 := blk_frozen BK106.out 3
              have hfz35_4 := blk_frozen BK106.out 4
              have hfz35_5 := blk_frozen BK106.out 5
              have hfz35_6 := blk_frozen BK106.out 6
              have hfz35_7 := blk_frozen BK106.out 7
              have hfz35_8 := blk_frozen BK106.out 8
              have hfz35_9 := blk_frozen BK106.out 9
              have hfz35_10 := blk_frozen BK106.out 10
              have hfz35_11 := blk_frozen BK106.out 11
              have hfz35_12 := blk_frozen BK106.out 12
              have hfz35_13 := blk_frozen BK106.out 13
              have hfz35_14 := blk_frozen BK106.out 14
              go_wp2_with (first | ((with_reducible refine gate_callee (f := 35) rfl ?_); refine goesL_ (some 36) rfl rfl Tryz.func35 (by kernel_rfl) rfl #[.string a0_11] rfl (by (try simp only [List.map_toArray, List.map_cons, List.map_nil]); first | done | rfl | (simp only [List.length_drop, List.length_take]; rfl)) ?_; (with_reducible refine (spec_IsFileName.calls k1 a0_11 true _ A29.out).mono ?_); rintro e w' ⟨rfl, ⟨nd, rfl⟩⟩; refine ⟨_, rfl, ?_⟩) | (go_at_call 36; (with_reducible refine (spec_IsName40.calls k1 a0_10 true _ A31.out).mono ?_); rintro e w' ⟨rfl, ⟨nd, rfl⟩⟩))
              go_ret
              exact ⟨by first | rfl | (simp [errW_none, errW_some] <;> rfl) | (simp [*, errW_none, errW_some] <;> rfl), by repeat (first | (with_reducible first | exact HB.out | apply below_alloc | apply pw_below_drewN | apply below_drew1 | refine below_set ?_ GE106.out) | exact HB.out)⟩
          · replace c32 := Bool.eq_false_iff.mpr c32
            subst c32
            have H1 : (some false) = some r := by rw [if_neg (show ¬ (false = true) by decide)] at H; exact H
            clear H
            have H := H1
            clear H1
            obtain rfl := Option.some.inj H
            have hcz36_0 : wr.cell? ⟨gb106, 0, none⟩ = some (.int .i64 a0_0) := (blk_cell BK106.out 0).trans rfl
            have hcz36_1 : wr.cell? ⟨gb106, 1, none⟩ = some (.int .i64 a0_1) := (blk_cell BK106.out 1).trans rfl
            have hcz36_2 : wr.cell? ⟨gb106, 2, none⟩ = some (.int .i64 a0_2) := (blk_cell BK106.out 2).trans rfl
            have hcz36_3 : wr.cell? ⟨gb106, 3, none⟩ = some (.int .i64 a0_3) := (blk_cell BK106.out 3).trans rfl
            have hcz36_4 : wr.cell? ⟨gb106, 4, none⟩ = some (.int .u32 a0_4) := (blk_cell BK106.out 4).trans rfl
            have hcz36_5 : wr.cell? ⟨gb106, 5, none⟩ = some (.int .u32 a0_5) := (blk_cell BK106.out 5).trans rfl
            have hcz36_6 : wr.cell? ⟨gb106, 6, none⟩ = some (.int .u32 a0_6) := (blk_cell BK106.out 6).trans rfl
            have hcz36_7 : wr.cell? ⟨gb106, 7, none⟩ = some (.int .u32 a0_7) := (blk_cell BK106.out 7).trans rfl
            have hcz36_8 : wr.cell? ⟨gb106, 8, none⟩ = some (.int .u32 a0_8) := (blk_cell BK106.out 8).trans rfl
            have hcz36_9 : wr.cell? ⟨gb106, 9, none⟩ = some (.int .u32 a0_9) := (blk_cell BK106.out 9).trans rfl
            have hcz36_10 : wr.cell? ⟨gb106, 10, none⟩ = some (.string a0_10) := (blk_cell BK106.out 10).trans rfl
            have hcz36_11 : wr.cell? ⟨gb106, 11, none⟩ = some (.string a0_11) := (blk_cell BK106.out 11).trans rfl
            have hcz36_12 : wr.cell? ⟨gb106, 12, none⟩ = some (.int .i64 a0_12) := (blk_cell BK106.out 12).trans rfl
            have hcz36_13 : wr.cell? ⟨gb106, 13, none⟩ = some (.bool a0_13) := (blk_cell BK106.out 13).trans rfl
            have hcz36_14 : wr.cell? ⟨gb106, 14, none⟩ = some (.bool a0_14) := (blk_cell BK106.out 14).trans rfl
            have hfz36_0 := blk_frozen BK106.out 0
            have hfz36_1 := blk_frozen BK106.out 1
            have hfz36_2 := blk_frozen BK106.out 2
            have hfz36_3 := blk_frozen BK106.out 3
            have hfz36_4 := blk_frozen BK106.out 4
            have hfz36_5 := blk_frozen BK106.out 5
            have hfz36_6 := blk_frozen BK106.out 6
            have hfz36_7 := blk_frozen BK106.out 7
            have hfz36_8 := blk_frozen BK106.out 8
            have hfz36_9 := blk_frozen BK106.out 9
            have hfz36_10 := blk_frozen BK106.out 10
            have hfz36_11 := blk_frozen BK106.out 11
            have hfz36_12 := blk_frozen BK106.out 12
            have hfz36_13 := blk_frozen BK106.out 13
            have hfz36_14 := blk_frozen BK106.out 14
            go_wp2_with (first | ((with_reducible refine gate_callee (f := 35) rfl ?_); refine goesL_ (some 36) rfl rfl Tryz.func35 (by kernel_rfl) rfl #[.string a0_11] rfl (by (try simp only [List.map_toArray, List.map_cons, List.map_nil]); first | done | rfl | (simp only [List.length_drop, List.length_take]; rfl)) ?_; (with_reducible refine (spec_IsFileName.calls k1 a0_11 true _ A29.out).mono ?_); rintro e w' ⟨rfl, ⟨nd, rfl⟩⟩; refine ⟨_, rfl, ?_⟩) | (go_at_call 36; (with_reducible refine (spec_IsName40.calls k1 a0_10 false _ A31.out).mono ?_); rintro e w' ⟨rfl, ⟨nd, rfl⟩⟩))
            go_ret
            exact ⟨by first | rfl | (simp [errW_none, errW_some] <;> rfl) | (simp [*, errW_none, errW_some] <;> rfl), by repeat (first | (with_reducible first | exact HB.out | apply below_alloc | apply pw_below_drewN | apply below_drew1 | refine below_set ?_ GE106.out) | exact HB.out)⟩
        · replace c30 := Bool.eq_false_iff.mpr c30
          subst c30
          have H1 : (some false) = some r := by rw [if_neg (show ¬ (false = true) by decide)] at H; exact H
          clear H
          have H := H1
          clear H1
          obtain rfl := Option.some.inj H
          have hcz37_0 : wr.cell? ⟨gb106, 0, none⟩ = some (.int .i64 a0_0) := (blk_cell BK106.out 0).trans rfl
          have hcz37_1 : wr.cell? ⟨gb106, 1, none⟩ = some (.int .i64 a0_1) := (blk_cell BK106.out 1).trans rfl
          have hcz37_2 : wr.cell? ⟨gb106, 2, none⟩ = some (.int .i64 a0_2) := (blk_cell BK106.out 2).trans rfl
          have hcz37_3 : wr.cell? ⟨gb106, 3, none⟩ = some (.int .i64 a0_3) := (blk_cell BK106.out 3).trans rfl
          have hcz37_4 : wr.cell? ⟨gb106, 4, none⟩ = some (.int .u32 a0_4) := (blk_cell BK106.out 4).trans rfl
          have hcz37_5 : wr.cell? ⟨gb106, 5, none⟩ = some (.int .u32 a0_5) := (blk_cell BK106.out 5).trans rfl
          have hcz37_6 : wr.cell? ⟨gb106, 6, none⟩ = some (.int .u32 a0_6) := (blk_cell BK106.out 6).trans rfl
          have hcz37_7 : wr.cell? ⟨gb106, 7, none⟩ = some (.int .u32 a0_7) := (blk_cell BK106.out 7).trans rfl
          have hcz37_8 : wr.cell? ⟨gb106, 8, none⟩ = some (.int .u32 a0_8) := (blk_cell BK106.out 8).trans rfl
          have hcz37_9 : wr.cell? ⟨gb106, 9, none⟩ = some (.int .u32 a0_9) := (blk_cell BK106.out 9).trans rfl
          have hcz37_10 : wr.cell? ⟨gb106, 10, none⟩ = some (.string a0_10) := (blk_cell BK106.out 10).trans rfl
          have hcz37_11 : wr.cell? ⟨gb106, 11, none⟩ = some (.string a0_11) := (blk_cell BK106.out 11).trans rfl
          have hcz37_12 : wr.cell? ⟨gb106, 12, none⟩ = some (.int .i64 a0_12) := (blk_cell BK106.out 12).trans rfl
          have hcz37_13 : wr.cell? ⟨gb106, 13, none⟩ = some (.bool a0_13) := (blk_cell BK106.out 13).trans rfl
          have hcz37_14 : wr.cell? ⟨gb106, 14, none⟩ = some (.bool a0_14) := (blk_cell BK106.out 14).trans rfl
          have hfz37_0 := blk_frozen BK106.out 0
          have hfz37_1 := blk_frozen BK106.out 1
          have hfz37_2 := blk_frozen BK106.out 2
          have hfz37_3 := blk_frozen BK106.out 3
          have hfz37_4 := blk_frozen BK106.out 4
          have hfz37_5 := blk_frozen BK106.out 5
          have hfz37_6 := blk_frozen BK106.out 6
          have hfz37_7 := blk_frozen BK106.out 7
          have hfz37_8 := blk_frozen BK106.out 8
          have hfz37_9 := blk_frozen BK106.out 9
          have hfz37_10 := blk_frozen BK106.out 10
          have hfz37_11 := blk_frozen BK106.out 11
          have hfz37_12 := blk_frozen BK106.out 12
          have hfz37_13 := blk_frozen BK106.out 13
          have hfz37_14 := blk_frozen BK106.out 14
          go_wp2_with (first | ((with_reducible refine gate_callee (f := 35) rfl ?_); refine goesL_ (some 36) rfl rfl Tryz.func35 (by kernel_rfl) rfl #[.string a0_11] rfl (by (try simp only [List.map_toArray, List.map_cons, List.map_nil]); first | done | rfl | (simp only [List.length_drop, List.length_take]; rfl)) ?_; (with_reducible refine (spec_IsFileName.calls k1 a0_11 false _ A29.out).mono ?_); rintro e w' ⟨rfl, ⟨nd, rfl⟩⟩; refine ⟨_, rfl, ?_⟩))
          go_ret
          exact ⟨by first | rfl | (simp [errW_none, errW_some] <;> rfl) | (simp [*, errW_none, errW_some] <;> rfl), by repeat (first | (with_reducible first | exact HB.out | apply below_alloc | apply pw_below_drewN | apply below_drew1 | refine below_set ?_ GE106.out) | exact HB.out)⟩

/-! ### spec_IsPlainFile: function 11 -/
def spec_IsPlainFile.f (k : Nat) (a0_0 : Int) (a0_1 : Int) (a0_2 : Int) (a0_3 : Int) (a0_4 : Int) (a0_5 : Int) (a0_6 : Int) (a0_7 : Int) (a0_8 : Int) (a0_9 : Int) (a0_10 : ByteArray) (a0_11 : ByteArray) (a0_12 : Int) (a0_13 : Bool) (a0_14 : Bool) : Option (Bool) := (spec_IsFile.f k a0_0 a0_1 a0_2 a0_3 a0_4 a0_5 a0_6 a0_7 a0_8 a0_9 a0_10 a0_11 a0_12 a0_13 a0_14).bind fun t115 => (if t115 = true then (if a0_13 = true then (some false) else (some (!a0_14))) else (some false))
set_option maxHeartbeats 8000000 in
set_option maxRecDepth 100000 in
theorem spec_IsPlainFile.calls (k : Nat) (a0_0 : Int) (a0_1 : Int) (a0_2 : Int) (a0_3 : Int) (a0_4 : Int) (a0_5 : Int) (a0_6 : Int) (a0_7 : Int) (a0_8 : Int) (a0_9 : Int) (a0_10 : ByteArray) (a0_11 : ByteArray) (a0_12 : Int) (a0_13 : Bool) (a0_14 : Bool) (r : Bool) (w : World) (h : spec_IsPlainFile.f k a0_0 a0_1 a0_2 a0_3 a0_4 a0_5 a0_6 a0_7 a0_8 a0_9 a0_10 a0_11 a0_12 a0_13 a0_14 = some r) :
    Calls Tryz.prog 11 #[.agg #[.int .i64 a0_0, .int .i64 a0_1, .int .i64 a0_2, .int .i64 a0_3, .int .u32 a0_4, .int .u32 a0_5, .int .u32 a0_6, .int .u32 a0_7, .int .u32 a0_8, .int .u32 a0_9, .string a0_10, .string a0_11, .int .i64 a0_12, .bool a0_13, .bool a0_14]] w fun e w' => e = .returned (.bool r) ∧ Below w.heap.size w w' := by
  have hu35 := Tryz.underlying35
  have HB := Aside0.mk (Below.refl w.heap.size w)
  have H : ((spec_IsFile.f k a0_0 a0_1 a0_2 a0_3 a0_4 a0_5 a0_6 a0_7 a0_8 a0_9 a0_10 a0_11 a0_12 a0_13 a0_14).bind fun t115 => (if t115 = true then (if a0_13 = true then (some false) else (some (!a0_14))) else (some false))) = some r := h
  clear h
  replace H := Option.bind_eq_some_iff.mp H
  obtain ⟨t115, A20, H⟩ := H
  replace H : (if t115 = true then (if a0_13 = true then (some false) else (some (!a0_14))) else (some false)) = some r := H
  have A2 := Aside0.mk A20
  clear A20
  by_cases c3 : t115 = true
  · subst c3
    have H1 : (if a0_13 = true then (some false) else (some (!a0_14))) = some r := by rw [if_pos rfl] at H; exact H
    clear H
    have H := H1
    clear H1
    by_cases c4 : a0_13 = true
    · subst c4
      have H1 : (some false) = some r := by rw [if_pos rfl] at H; exact H
      clear H
      have H := H1
      clear H1
      obtain rfl := Option.some.inj H
      go_enter Tryz.func11, Tryz.ntmps11
      go_wp2_with (first | ((with_reducible refine gate_dst (N := 1) rfl ?_); refine box_event ?hg (N := 1) ?hd (cs := #[.int .i64 a0_0, .int .i64 a0_1, .int .i64 a0_2, .int .i64 a0_3, .int .u32 a0_4, .int .u32 a0_5, .int .u32 a0_6, .int .u32 a0_7, .int .u32 a0_8, .int .u32 a0_9, .string a0_10, .string a0_11, .int .i64 a0_12, .bool true, .bool a0_14]) (t := 35) ?hr ?_; (case hd => rfl); (case hg => rfl); (case hr => first | (go_simp; done) | (go_simp; rfl)); intro gb114 hg w5 hbox hb; have n0_ := Aside0.mk (below_step (by repeat (first | (with_reducible first | exact HB.out | apply below_alloc | apply pw_below_drewN | apply below_drew1) | exact HB.out)) hb); have n1_ := Aside0.mk (hbox); have n2_ := Aside0.mk ((by rw [hg]; exact (below_size (by repeat (first | (with_reducible first | exact HB.out | apply below_alloc | apply pw_below_drewN | apply below_drew1) | exact HB.out))) : w.heap.size ≤ gb114)); have n3_ := Aside0.mk ((by rw [hg]; exact (below_size (by repeat (first | (with_reducible first | exact HB.out | apply below_alloc | apply pw_below_drewN | apply below_drew1) | exact HB.out))) : w.heap.size ≤ gb114)); clear HB; have HB := n0_; have BK114 := n1_; have GW114 := n2_; have GE114 := n3_; clear n0_ n1_ n2_ n3_; clear hb hbox hg; have hcz6_0 : w5.cell? ⟨gb114, 0, none⟩ = some (.int .i64 a0_0) := (blk_cell BK114.out 0).trans rfl; have hcz6_1 : w5.cell? ⟨gb114, 1, none⟩ = some (.int .i64 a0_1) := (blk_cell BK114.out 1).trans rfl; have hcz6_2 : w5.cell? ⟨gb114, 2, none⟩ = some (.int .i64 a0_2) := (blk_cell BK114.out 2).trans rfl; have hcz6_3 : w5.cell? ⟨gb114, 3, none⟩ = some (.int .i64 a0_3) := (blk_cell BK114.out 3).trans rfl; have hcz6_4 : w5.cell? ⟨gb114, 4, none⟩ = some (.int .u32 a0_4) := (blk_cell BK114.out 4).trans rfl; have hcz6_5 : w5.cell? ⟨gb114, 5, none⟩ = some (.int .u32 a0_5) := (blk_cell BK114.out 5).trans rfl; have hcz6_6 : w5.cell? ⟨gb114, 6, none⟩ = some (.int .u32 a0_6) := (blk_cell BK114.out 6).trans rfl; have hcz6_7 : w5.cell? ⟨gb114, 7, none⟩ = some (.int .u32 a0_7) := (blk_cell BK114.out 7).trans rfl; have hcz6_8 : w5.cell? ⟨gb114, 8, none⟩ = some (.int .u32 a0_8) := (blk_cell BK114.out 8).trans rfl; have hcz6_9 : w5.cell? ⟨gb114, 9, none⟩ = some (.int .u32 a0_9) := (blk_cell BK114.out 9).trans rfl; have hcz6_10 : w5.cell? ⟨gb114, 10, none⟩ = some (.string a0_10) := (blk_cell BK114.out 10).trans rfl; have hcz6_11 : w5.cell? ⟨gb114, 11, none⟩ = some (.string a0_11) := (blk_cell BK114.out 11).trans rfl; have hcz6_12 : w5.cell? ⟨gb114, 12, none⟩ = some (.int .i64 a0_12) := (blk_cell BK114.out 12).trans rfl; have hcz6_13 : w5.cell? ⟨gb114, 13, none⟩ = some (.bool true) := (blk_cell BK114.out 13).trans rfl; have hcz6_14 : w5.cell? ⟨gb114, 14, none⟩ = some (.bool a0_14) := (blk_cell BK114.out 14).trans rfl; have hfz6_0 := blk_frozen BK114.out 0; have hfz6_1 := blk_frozen BK114.out 1; have hfz6_2 := blk_frozen BK114.out 2; have hfz6_3 := blk_frozen BK114.out 3; have hfz6_4 := blk_frozen BK114.out 4; have hfz6_5 := blk_frozen BK114.out 5; have hfz6_6 := blk_frozen BK114.out 6; have hfz6_7 := blk_frozen BK114.out 7; have hfz6_8 := blk_frozen BK114.out 8; have hfz6_9 := blk_frozen BK114.out 9; have hfz6_10 := blk_frozen BK114.out 10; have hfz6_11 := blk_frozen BK114.out 11; have hfz6_12 := blk_frozen BK114.out 12; have hfz6_13 := blk_frozen BK114.out 13; have hfz6_14 := blk_frozen BK114.out 14) | ((with_reducible refine gate_callee (f := 21) rfl ?_); refine goesL_ (some 4) rfl rfl Tryz.func21 (by kernel_rfl) rfl #[.agg #[.int .i64 a0_0, .int .i64 a0_1, .int .i64 a0_2, .int .i64 a0_3, .int .u32 a0_4, .int .u32 a0_5, .int .u32 a0_6, .int .u32 a0_7, .int .u32 a0_8, .int .u32 a0_9, .string a0_10, .string a0_11, .int .i64 a0_12, .bool true, .bool a0_14]] rfl (by (try simp only [List.map_toArray, List.map_cons, List.map_nil]); first | done | rfl | (simp only [List.length_drop, List.length_take]; rfl)) ?_; (with_reducible refine (spec_IsFile.calls k a0_0 a0_1 a0_2 a0_3 a0_4 a0_5 a0_6 a0_7 a0_8 a0_9 a0_10 a0_11 a0_12 true a0_14 true _ A2.out).mono ?_); rintro e w7 ⟨rfl, hb⟩; refine ⟨_, rfl, ?_⟩; have n0_ := Aside0.mk (blk_below (g := gb114) (o := .cells #[.int .i64 a0_0, .int .i64 a0_1, .int .i64 a0_2, .int .i64 a0_3, .int .u32 a0_4, .int .u32 a0_5, .int .u32 a0_6, .int .u32 a0_7, .int .u32 a0_8, .int .u32 a0_9, .string a0_10, .string a0_11, .int .i64 a0_12, .bool true, .bool a0_14] 35 (0, 0)) (by (with_reducible repeat (first | refine blk_drewN ?_ _ | refine blk_drew ?_ | refine blk_alloc ?_ _)); exact BK114.out) hb); have n1_ := Aside0.mk (below_step (by repeat (first | (with_reducible first | exact HB.out | apply below_alloc | apply pw_below_drewN | apply below_drew1 | refine below_set ?_ GE114.out) | exact HB.out)) hb); clear BK114; clear HB; have BK114 := n0_; have HB := n1_; clear n0_ n1_; (try clear hb); (try clear hb2); (try clear hk); (try clear hi); have hcz8_0 : w7.cell? ⟨gb114, 0, none⟩ = some (.int .i64 a0_0) := (blk_cell BK114.out 0).trans rfl; have hcz8_1 : w7.cell? ⟨gb114, 1, none⟩ = some (.int .i64 a0_1) := (blk_cell BK114.out 1).trans rfl; have hcz8_2 : w7.cell? ⟨gb114, 2, none⟩ = some (.int .i64 a0_2) := (blk_cell BK114.out 2).trans rfl; have hcz8_3 : w7.cell? ⟨gb114, 3, none⟩ = some (.int .i64 a0_3) := (blk_cell BK114.out 3).trans rfl; have hcz8_4 : w7.cell? ⟨gb114, 4, none⟩ = some (.int .u32 a0_4) := (blk_cell BK114.out 4).trans rfl; have hcz8_5 : w7.cell? ⟨gb114, 5, none⟩ = some (.int .u32 a0_5) := (blk_cell BK114.out 5).trans rfl; have hcz8_6 : w7.cell? ⟨gb114, 6, none⟩ = some (.int .u32 a0_6) := (blk_cell BK114.out 6).trans rfl; have hcz8_7 : w7.cell? ⟨gb114, 7, none⟩ = some (.int .u32 a0_7) := (blk_cell BK114.out 7).trans rfl; have hcz8_8 : w7.cell? ⟨gb114, 8, none⟩ = some (.int .u32 a0_8) := (blk_cell BK114.out 8).trans rfl; have hcz8_9 : w7.cell? ⟨gb114, 9, none⟩ = some (.int .u32 a0_9) := (blk_cell BK114.out 9).trans rfl; have hcz8_10 : w7.cell? ⟨gb114, 10, none⟩ = some (.string a0_10) := (blk_cell BK114.out 10).trans rfl; have hcz8_11 : w7.cell? ⟨gb114, 11, none⟩ = some (.string a0_11) := (blk_cell BK114.out 11).trans rfl; have hcz8_12 : w7.cell? ⟨gb114, 12, none⟩ = some (.int .i64 a0_12) := (blk_cell BK114.out 12).trans rfl; have hcz8_13 : w7.cell? ⟨gb114, 13, none⟩ = some (.bool true) := (blk_cell BK114.out 13).trans rfl; have hcz8_14 : w7.cell? ⟨gb114, 14, none⟩ = some (.bool a0_14) := (blk_cell BK114.out 14).trans rfl; have hfz8_0 := blk_frozen BK114.out 0; have hfz8_1 := blk_frozen BK114.out 1; have hfz8_2 := blk_frozen BK114.out 2; have hfz8_3 := blk_frozen BK114.out 3; have hfz8_4 := blk_frozen BK114.out 4; have hfz8_5 := blk_frozen BK114.out 5; have hfz8_6 := blk_frozen BK114.out 6; have hfz8_7 := blk_frozen BK114.out 7; have hfz8_8 := blk_frozen BK114.out 8; have hfz8_9 := blk_frozen BK114.out 9; have hfz8_10 := blk_frozen BK114.out 10; have hfz8_11 := blk_frozen BK114.out 11; have hfz8_12 := blk_frozen BK114.out 12; have hfz8_13 := blk_frozen BK114.out 13; have hfz8_14 := blk_frozen BK114.out 14))
      go_ret
      exact ⟨by first | rfl | (simp [errW_none, errW_some] <;> rfl) | (simp [*, errW_none, errW_some] <;> rfl), by repeat (first | (with_reducible first | exact HB.out | apply below_alloc | apply pw_below_drewN | apply below_drew1 | refine below_set ?_ GE114.out) | exact HB.out)⟩
    · replace c4 := Bool.eq_false_iff.mpr c4
      subst c4
      have H1 : (some (!a0_14)) = some r := by rw [if_neg (show ¬ (false = true) by decide)] at H; exact H
      clear H
      have H := H1
      clear H1
      obtain rfl := Option.some.inj H
      go_enter Tryz.func11, Tryz.ntmps11
      go_wp2_with (first | ((with_reducible refine gate_dst (N := 1) rfl ?_); refine box_event ?hg (N := 1) ?hd (cs := #[.int .i64 a0_0, .int .i64 a0_1, .int .i64 a0_2, .int .i64 a0_3, .int .u32 a0_4, .int .u32 a0_5, .int .u32 a0_6, .int .u32 a0_7, .int .u32 a0_8, .int .u32 a0_9, .string a0_10, .string a0_11, .int .i64 a0_12, .bool false, .bool a0_14]) (t := 35) ?hr ?_; (case hd => rfl); (case hg => rfl); (case hr => first | (go_simp; done) | (go_simp; rfl)); intro gb114 hg w9 hbox hb; have n0_ := Aside0.mk (below_step (by repeat (first | (with_reducible first | exact HB.out | apply below_alloc | apply pw_below_drewN | apply below_drew1) | exact HB.out)) hb); have n1_ := Aside0.mk (hbox); have n2_ := Aside0.mk ((by rw [hg]; exact (below_size (by repeat (first | (with_reducible first | exact HB.out | apply below_alloc | apply pw_below_drewN | apply below_drew1) | exact HB.out))) : w.heap.size ≤ gb114)); have n3_ := Aside0.mk ((by rw [hg]; exact (below_size (by repeat (first | (with_reducible first | exact HB.out | apply below_alloc | apply pw_below_drewN | apply below_drew1) | exact HB.out))) : w.heap.size ≤ gb114)); clear HB; have HB := n0_; have BK114 := n1_; have GW114 := n2_; have GE114 := n3_; clear n0_ n1_ n2_ n3_; clear hb hbox hg; have hcz10_0 : w9.cell? ⟨gb114, 0, none⟩ = some (.int .i64 a0_0) := (blk_cell BK114.out 0).trans rfl; have hcz10_1 : w9.cell? ⟨gb114, 1, none⟩ = some (.int .i64 a0_1) := (blk_cell BK114.out 1).trans rfl; have hcz10_2 : w9.cell? ⟨gb114, 2, none⟩ = some (.int .i64 a0_2) := (blk_cell BK114.out 2).trans rfl; have hcz10_3 : w9.cell? ⟨gb114, 3, none⟩ = some (.int .i64 a0_3) := (blk_cell BK114.out 3).trans rfl; have hcz10_4 : w9.cell? ⟨gb114, 4, none⟩ = some (.int .u32 a0_4) := (blk_cell BK114.out 4).trans rfl; have hcz10_5 : w9.cell? ⟨gb114, 5, none⟩ = some (.int .u32 a0_5) := (blk_cell BK114.out 5).trans rfl; have hcz10_6 : w9.cell? ⟨gb114, 6, none⟩ = some (.int .u32 a0_6) := (blk_cell BK114.out 6).trans rfl; have hcz10_7 : w9.cell? ⟨gb114, 7, none⟩ = some (.int .u32 a0_7) := (blk_cell BK114.out 7).trans rfl; have hcz10_8 : w9.cell? ⟨gb114, 8, none⟩ = some (.int .u32 a0_8) := (blk_cell BK114.out 8).trans rfl; have hcz10_9 : w9.cell? ⟨gb114, 9, none⟩ = some (.int .u32 a0_9) := (blk_cell BK114.out 9).trans rfl; have hcz10_10 : w9.cell? ⟨gb114, 10, none⟩ = some (.string a0_10) := (blk_cell BK114.out 10).trans rfl; have hcz10_11 : w9.cell? ⟨gb114, 11, none⟩ = some (.string a0_11) := (blk_cell BK114.out 11).trans rfl; have hcz10_12 : w9.cell? ⟨gb114, 12, none⟩ = some (.int .i64 a0_12) := (blk_cell BK114.out 12).trans rfl; have hcz10_13 : w9.cell? ⟨gb114, 13, none⟩ = some (.bool false) := (blk_cell BK114.out 13).trans rfl; have hcz10_14 : w9.cell? ⟨gb114, 14, none⟩ = some (.bool a0_14) := (blk_cell BK114.out 14).trans rfl; have hfz10_0 := blk_frozen BK114.out 0; have hfz10_1 := blk_frozen BK114.out 1; have hfz10_2 := blk_frozen BK114.out 2; have hfz10_3 := blk_frozen BK114.out 3; have hfz10_4 := blk_frozen BK114.out 4; have hfz10_5 := blk_frozen BK114.out 5; have hfz10_6 := blk_frozen BK114.out 6; have hfz10_7 := blk_frozen BK114.out 7; have hfz10_8 := blk_frozen BK114.out 8; have hfz10_9 := blk_frozen BK114.out 9; have hfz10_10 := blk_frozen BK114.out 10; have hfz10_11 := blk_frozen BK114.out 11; have hfz10_12 := blk_frozen BK114.out 12; have hfz10_13 := blk_frozen BK114.out 13; have hfz10_14 := blk_frozen BK114.out 14) | ((with_reducible refine gate_callee (f := 21) rfl ?_); refine goesL_ (some 4) rfl rfl Tryz.func21 (by kernel_rfl) rfl #[.agg #[.int .i64 a0_0, .int .i64 a0_1, .int .i64 a0_2, .int .i64 a0_3, .int .u32 a0_4, .int .u32 a0_5, .int .u32 a0_6, .int .u32 a0_7, .int .u32 a0_8, .int .u32 a0_9, .string a0_10, .string a0_11, .int .i64 a0_12, .bool false, .bool a0_14]] rfl (by (try simp only [List.map_toArray, List.map_cons, List.map_nil]); first | done | rfl | (simp only [List.length_drop, List.length_take]; rfl)) ?_; (with_reducible refine (spec_IsFile.calls k a0_0 a0_1 a0_2 a0_3 a0_4 a0_5 a0_6 a0_7 a0_8 a0_9 a0_10 a0_11 a0_12 false a0_14 true _ A2.out).mono ?_); rintro e w11 ⟨rfl, hb⟩; refine ⟨_, rfl, ?_⟩; have n0_ := Aside0.mk (blk_below (g := gb114) (o := .cells #[.int .i64 a0_0, .int .i64 a0_1, .int .i64 a0_2, .int .i64 a0_3, .int .u32 a0_4, .int .u32 a0_5, .int .u32 a0_6, .int .u32 a0_7, .int .u32 a0_8, .int .u32 a0_9, .string a0_10, .string a0_11, .int .i64 a0_12, .bool false, .bool a0_14] 35 (0, 0)) (by (with_reducible repeat (first | refine blk_drewN ?_ _ | refine blk_drew ?_ | refine blk_alloc ?_ _)); exact BK114.out) hb); have n1_ := Aside0.mk (below_step (by repeat (first | (with_reducible first | exact HB.out | apply below_alloc | apply pw_below_drewN | apply below_drew1 | refine below_set ?_ GE114.out) | exact HB.out)) hb); clear BK114; clear HB; have BK114 := n0_; have HB := n1_; clear n0_ n1_; (try clear hb); (try clear hb2); (try clear hk); (try clear hi); have hcz12_0 : w11.cell? ⟨gb114, 0, none⟩ = some (.int .i64 a0_0) := (blk_cell BK114.out 0).trans rfl; have hcz12_1 : w11.cell? ⟨gb114, 1, none⟩ = some (.int .i64 a0_1) := (blk_cell BK114.out 1).trans rfl; have hcz12_2 : w11.cell? ⟨gb114, 2, none⟩ = some (.int .i64 a0_2) := (blk_cell BK114.out 2).trans rfl; have hcz12_3 : w11.cell? ⟨gb114, 3, none⟩ = some (.int .i64 a0_3) := (blk_cell BK114.out 3).trans rfl; have hcz12_4 : w11.cell? ⟨gb114, 4, none⟩ = some (.int .u32 a0_4) := (blk_cell BK114.out 4).trans rfl; have hcz12_5 : w11.cell? ⟨gb114, 5, none⟩ = some (.int .u32 a0_5) := (blk_cell BK114.out 5).trans rfl; have hcz12_6 : w11.cell? ⟨gb114, 6, none⟩ = some (.int .u32 a0_6) := (blk_cell BK114.out 6).trans rfl; have hcz12_7 : w11.cell? ⟨gb114, 7, none⟩ = some (.int .u32 a0_7) := (blk_cell BK114.out 7).trans rfl; have hcz12_8 : w11.cell? ⟨gb114, 8, none⟩ = some (.int .u32 a0_8) := (blk_cell BK114.out 8).trans rfl; have hcz12_9 : w11.cell? ⟨gb114, 9, none⟩ = some (.int .u32 a0_9) := (blk_cell BK114.out 9).trans rfl; have hcz12_10 : w11.cell? ⟨gb114, 10, none⟩ = some (.string a0_10) := (blk_cell BK114.out 10).trans rfl; have hcz12_11 : w11.cell? ⟨gb114, 11, none⟩ = some (.string a0_11) := (blk_cell BK114.out 11).trans rfl; have hcz12_12 : w11.cell? ⟨gb114, 12, none⟩ = some (.int .i64 a0_12) := (blk_cell BK114.out 12).trans rfl; have hcz12_13 : w11.cell? ⟨gb114, 13, none⟩ = some (.bool false) := (blk_cell BK114.out 13).trans rfl; have hcz12_14 : w11.cell? ⟨gb114, 14, none⟩ = some (.bool a0_14) := (blk_cell BK114.out 14).trans rfl; have hfz12_0 := blk_frozen BK114.out 0; have hfz12_1 := blk_frozen BK114.out 1; have hfz12_2 := blk_frozen BK114.out 2; have hfz12_3 := blk_frozen BK114.out 3; have hfz12_4 := blk_frozen BK114.out 4; have hfz12_5 := blk_frozen BK114.out 5; have hfz12_6 := blk_frozen BK114.out 6; have hfz12_7 := blk_frozen BK114.out 7; have hfz12_8 := blk_frozen BK114.out 8; have hfz12_9 := blk_frozen BK114.out 9; have hfz12_10 := blk_frozen BK114.out 10; have hfz12_11 := blk_frozen BK114.out 11; have hfz12_12 := blk_frozen BK114.out 12; have hfz12_13 := blk_frozen BK114.out 13; have hfz12_14 := blk_frozen BK114.out 14))
      go_ret
      exact ⟨by first | rfl | (simp [errW_none, errW_some] <;> rfl) | (simp [*, errW_none, errW_some] <;> rfl), by repeat (first | (with_reducible first | exact HB.out | apply below_alloc | apply pw_below_drewN | apply below_drew1 | refine below_set ?_ GE114.out) | exact HB.out)⟩
  · replace c3 := Bool.eq_false_iff.mpr c3
    subst c3
    have H1 : (some false) = some r := by rw [if_neg (show ¬ (false = true) by decide)] at H; exact H
    clear H
    have H := H1
    clear H1
    obtain rfl := Option.some.inj H
    go_enter Tryz.func11, Tryz.ntmps11
    go_wp2_with (first | ((with_reducible refine gate_dst (N := 1) rfl ?_); refine box_event ?hg (N := 1) ?hd (cs := #[.int .i64 a0_0, .int .i64 a0_1, .int .i64 a0_2, .int .i64 a0_3, .int .u32 a0_4, .int .u32 a0_5, .int .u32 a0_6, .int .u32 a0_7, .int .u32 a0_8, .int .u32 a0_9, .string a0_10, .string a0_11, .int .i64 a0_12, .bool a0_13, .bool a0_14]) (t := 35) ?hr ?_; (case hd => rfl); (case hg => rfl); (case hr => first | (go_simp; done) | (go_simp; rfl)); intro gb114 hg w13 hbox hb; have n0_ := Aside0.mk (below_step (by repeat (first | (with_reducible first | exact HB.out | apply below_alloc | apply pw_below_drewN | apply below_drew1) | exact HB.out)) hb); have n1_ := Aside0.mk (hbox); have n2_ := Aside0.mk ((by rw [hg]; exact (below_size (by repeat (first | (with_reducible first | exact HB.out | apply below_alloc | apply pw_below_drewN | apply below_drew1) | exact HB.out))) : w.heap.size ≤ gb114)); have n3_ := Aside0.mk ((by rw [hg]; exact (below_size (by repeat (first | (with_reducible first | exact HB.out | apply below_alloc | apply pw_below_drewN | apply below_drew1) | exact HB.out))) : w.heap.size ≤ gb114)); clear HB; have HB := n0_; have BK114 := n1_; have GW114 := n2_; have GE114 := n3_; clear n0_ n1_ n2_ n3_; clear hb hbox hg; have hcz14_0 : w13.cell? ⟨gb114, 0, none⟩ = some (.int .i64 a0_0) := (blk_cell BK114.out 0).trans rfl; have hcz14_1 : w13.cell? ⟨gb114, 1, none⟩ = some (.int .i64 a0_1) := (blk_cell BK114.out 1).trans rfl; have hcz14_2 : w13.cell? ⟨gb114, 2, none⟩ = some (.int .i64 a0_2) := (blk_cell BK114.out 2).trans rfl; have hcz14_3 : w13.cell? ⟨gb114, 3, none⟩ = some (.int .i64 a0_3) := (blk_cell BK114.out 3).trans rfl; have hcz14_4 : w13.cell? ⟨gb114, 4, none⟩ = some (.int .u32 a0_4) := (blk_cell BK114.out 4).trans rfl; have hcz14_5 : w13.cell? ⟨gb114, 5, none⟩ = some (.int .u32 a0_5) := (blk_cell BK114.out 5).trans rfl; have hcz14_6 : w13.cell? ⟨gb114, 6, none⟩ = some (.int .u32 a0_6) := (blk_cell BK114.out 6).trans rfl; have hcz14_7 : w13.cell? ⟨gb114, 7, none⟩ = some (.int .u32 a0_7) := (blk_cell BK114.out 7).trans rfl; have hcz14_8 : w13.cell? ⟨gb114, 8, none⟩ = some (.int .u32 a0_8) := (blk_cell BK114.out 8).trans rfl; have hcz14_9 : w13.cell? ⟨gb114, 9, none⟩ = some (.int .u32 a0_9) := (blk_cell BK114.out 9).trans rfl; have hcz14_10 : w13.cell? ⟨gb114, 10, none⟩ = some (.string a0_10) := (blk_cell BK114.out 10).trans rfl; have hcz14_11 : w13.cell? ⟨gb114, 11, none⟩ = some (.string a0_11) := (blk_cell BK114.out 11).trans rfl; have hcz14_12 : w13.cell? ⟨gb114, 12, none⟩ = some (.int .i64 a0_12) := (blk_cell BK114.out 12).trans rfl; have hcz14_13 : w13.cell? ⟨gb114, 13, none⟩ = some (.bool a0_13) := (blk_cell BK114.out 13).trans rfl; have hcz14_14 : w13.cell? ⟨gb114, 14, none⟩ = some (.bool a0_14) := (blk_cell BK114.out 14).trans rfl; have hfz14_0 := blk_frozen BK114.out 0; have hfz14_1 := blk_frozen BK114.out 1; have hfz14_2 := blk_frozen BK114.out 2; have hfz14_3 := blk_frozen BK114.out 3; have hfz14_4 := blk_frozen BK114.out 4; have hfz14_5 := blk_frozen BK114.out 5; have hfz14_6 := blk_frozen BK114.out 6; have hfz14_7 := blk_frozen BK114.out 7; have hfz14_8 := blk_frozen BK114.out 8; have hfz14_9 := blk_frozen BK114.out 9; have hfz14_10 := blk_frozen BK114.out 10; have hfz14_11 := blk_frozen BK114.out 11; have hfz14_12 := blk_frozen BK114.out 12; have hfz14_13 := blk_frozen BK114.out 13; have hfz14_14 := blk_frozen BK114.out 14) | ((with_reducible refine gate_callee (f := 21) rfl ?_); refine goesL_ (some 4) rfl rfl Tryz.func21 (by kernel_rfl) rfl #[.agg #[.int .i64 a0_0, .int .i64 a0_1, .int .i64 a0_2, .int .i64 a0_3, .int .u32 a0_4, .int .u32 a0_5, .int .u32 a0_6, .int .u32 a0_7, .int .u32 a0_8, .int .u32 a0_9, .string a0_10, .string a0_11, .int .i64 a0_12, .bool a0_13, .bool a0_14]] rfl (by (try simp only [List.map_toArray, List.map_cons, List.map_nil]); first | done | rfl | (simp only [List.length_drop, List.length_take]; rfl)) ?_; (with_reducible refine (spec_IsFile.calls k a0_0 a0_1 a0_2 a0_3 a0_4 a0_5 a0_6 a0_7 a0_8 a0_9 a0_10 a0_11 a0_12 a0_13 a0_14 false _ A2.out).mono ?_); rintro e w15 ⟨rfl, hb⟩; refine ⟨_, rfl, ?_⟩; have n0_ := Aside0.mk (blk_below (g := gb114) (o := .cells #[.int .i64 a0_0, .int .i64 a0_1, .int .i64 a0_2, .int .i64 a0_3, .int .u32 a0_4, .int .u32 a0_5, .int .u32 a0_6, .int .u32 a0_7, .int .u32 a0_8, .int .u32 a0_9, .string a0_10, .string a0_11, .int .i64 a0_12, .bool a0_13, .bool a0_14] 35 (0, 0)) (by (with_reducible repeat (first | refine blk_drewN ?_ _ | refine blk_drew ?_ | refine blk_alloc ?_ _)); exact BK114.out) hb); have n1_ := Aside0.mk (below_step (by repeat (first | (with_reducible first | exact HB.out | apply below_alloc | apply pw_below_drewN | apply below_drew1 | refine below_set ?_ GE114.out) | exact HB.out)) hb); clear BK114; clear HB; have BK114 := n0_; have HB := n1_; clear n0_ n1_; (try clear hb); (try clear hb2); (try clear hk); (try clear hi)))
    go_ret
    exact ⟨by first | rfl | (simp [errW_none, errW_some] <;> rfl) | (simp [*, errW_none, errW_some] <;> rfl), by repeat (first | (with_reducible first | exact HB.out | apply below_alloc | apply pw_below_drewN | apply below_drew1 | refine below_set ?_ GE114.out) | exact HB.out)⟩

end Go.Proofs.YtllikhbafaohgaaGreatDoor.PFnIdxSum
