/- The law FnDeltaDiffRead, walked. -/
import Derived.Test.YtkknoionjppegaaDoorEA
namespace Go.Proofs.YtkknoionjppegaaDoor.Delta
open Go.RowKit Go.Proofs.YtkknoionjppegaaDoorW.PrintWords Go.Proofs.YtkknoionjppegaaDoorW.PrintLast Go.Proofs.YtkknoionjppegaaDoorW.PrintMore Go.Proofs.YtkknoionjppegaaDoor.PFnDeltaDiffRead

theorem two_rows {w : World} {g : Nat} {A0 A1 : Option Addr} {c0 c1 : Nat} {x y : List Int} (hg : w.heap[g]? = some (.cells #[.slice A0 x.length c0, .slice A1 y.length c1] 22 (0, 0))) (h0 : Rd w A0 x.length x) (h1 : Rd w A1 y.length y) (hc0 : x.length ≤ c0) (hc1 : y.length ≤ c1) : Kd.C (Kd.slice 5 (Kd.int .u8)) w (some ⟨g, 0, none⟩) 2 [x, y] := by
  refine ⟨rfl, by omega, fun _ => ⟨_, rfl, fun j p hp => ?_⟩⟩
  have hj : j = 0 ∨ j = 1 := by
    have : j < [x, y].length := (List.getElem?_eq_some_iff.1 hp).1
    simp at this
    omega
  rcases hj with rfl | rfl
  · obtain rfl : x = p := by simpa using hp
    refine ⟨[.slice A0 x.length c0], rfl, ⟨A0, c0, rfl, hc0, h0⟩, fun i u hu => ?_⟩
    obtain rfl : i = 0 := by
      have : i < [Value.slice A0 x.length c0].length := (List.getElem?_eq_some_iff.1 hu).1
      simp at this
      omega
    rw [addr_add0]
    exact cell_of hg 0 (by simpa using hu)
  · obtain rfl : y = p := by simpa using hp
    refine ⟨[.slice A1 y.length c1], rfl, ⟨A1, c1, rfl, hc1, h1⟩, fun i u hu => ?_⟩
    obtain rfl : i = 0 := by
      have : i < [Value.slice A1 y.length c1].length := (List.getElem?_eq_some_iff.1 hu).1
      simp at this
      omega
    rw [addr_add0]
    exact cell_of hg 1 (by simpa using hu)
theorem few_two (x y : List Int) : laws_deltaFew.f 4 [x, y] = some (decide (x.length ≤ 400000 ∧ y.length ≤ 400000)) := by
  have e0 : rd_L1 [x, y] 0 = x := rfl
  have e1 : rd_L1 [x, y] 1 = y := rfl
  have w0 : wrap64 (0 + 1) = 1 := by rw [wrap64_in _ (by omega) (by omega)]; rfl
  have w1 : wrap64 (1 + 1) = 2 := by rw [wrap64_in _ (by omega) (by omega)]; rfl
  show laws_deltaFew.l0 (3 + 1) [x, y] 2 0 = _
  rw [laws_deltaFew.l0, if_pos (by omega), if_pos (by omega), if_pos (by simp), e0]
  by_cases hx : x.length ≤ 400000
  · rw [if_neg (by omega), w0]
    show laws_deltaFew.l0 (2 + 1) [x, y] 2 1 = _
    rw [laws_deltaFew.l0, if_pos (by omega), if_pos (by omega), if_pos (by simp), e1]
    by_cases hy : y.length ≤ 400000
    · rw [if_neg (by omega), w1]
      show laws_deltaFew.l0 (1 + 1) [x, y] 2 2 = _
      rw [laws_deltaFew.l0, if_neg (by omega), decide_eq_true ⟨hx, hy⟩]
    · rw [if_pos (by omega), decide_eq_false (fun h => hy h.2)]
  · rw [if_pos (by omega), decide_eq_false (fun h => hx h.1)]
theorem same_self (x : List Int) : laws_deltaSame.f x x = some true := by simp [laws_deltaSame.f]

/-- What the laws need of the laid variables. -/
structure Laid (w : World) (T0 : Addr) : Prop where
  T : Tab w T0
  L : LTab w
  O : CTab w 3 4 0
  Z : CTab w 4 3 4
set_option maxHeartbeats 8000000 in
set_option maxRecDepth 100000 in
theorem read_calls (A0 A1 : Option Addr) (c0 c1 : Nat) (T0 : Addr) (src tgt : List Int) (w : World) (h0 : Rd w A0 src.length src) (h1 : Rd w A1 tgt.length tgt) (hc0 : src.length ≤ c0) (hc1 : tgt.length ≤ c1) (x0 : ∀ x ∈ src, 0 ≤ x ∧ x < 256) (x1 : ∀ x ∈ tgt, 0 ≤ x ∧ x < 256) (hL : Laid w T0) :
    Calls Tryd.prog 4 #[.slice A0 src.length c0, .slice A1 tgt.length c1] w fun e w' => e = .returned (.bool true) ∧ Below w.heap.size w w' := by
  have HI := Lib.hid (⟨h0, h1, hc0, hc1, x0, x1, hL⟩ : Rd w A0 src.length src ∧ Rd w A1 tgt.length tgt ∧ src.length ≤ c0 ∧ tgt.length ≤ c1 ∧ (∀ x ∈ src, 0 ≤ x ∧ x < 256) ∧ (∀ x ∈ tgt, 0 ≤ x ∧ x < 256) ∧ Laid w T0)
  have HWk : Hid (∀ w1, Below w.heap.size w w1 → Calls Tryd.prog 6 #[] w1 _) := Lib.hid fun w1 hB => works_calls w1 (hL.O.below hB) (hL.Z.below hB)
  obtain ⟨n, hn⟩ : ∃ n, n = src.length := ⟨_, rfl⟩
  obtain ⟨m, hm⟩ : ∃ m, m = tgt.length := ⟨_, rfl⟩
  have HN := Lib.hid (⟨hn, hm⟩ : n = src.length ∧ m = tgt.length)
  rw [← hn, ← hm]
  have hn63 : n ≤ 9223372036854775807 := by rw [hn]; exact h0.2.1
  have hm63 : m ≤ 9223372036854775807 := by rw [hm]; exact h1.2.1
  obtain ⟨w1, hw1⟩ : ∃ w1, w1 = w.alloc (.cells #[.slice A0 n c0, .slice A1 m c1] 22) := ⟨_, rfl⟩
  have hB1 : Below w.heap.size w w1 := by rw [hw1]; exact below_alloc (Below.refl _ _) _
  have HB1 := Lib.hid hB1
  have HW1 := Lib.hid hw1
  have HFew := Lib.hid (laws_deltaFew.calls 4 (some ⟨w.heap.size, 0, none⟩) 2 [src, tgt] (decide (src.length ≤ 400000 ∧ tgt.length ≤ 400000)) w1 (two_rows (by rw [hw1, hn, hm]; exact heap_alloc_new w _) (h0.keep (Keep.of_below hB1 (fun _ => False)) (fun _ _ h => h)) (h1.keep (Keep.of_below hB1 (fun _ => False)) (fun _ _ h => h)) hc0 hc1) (Nat.le_refl _) (few_two src tgt))
  rw [← hn, ← hm, show ([src, tgt] : List (List Int)).length = 2 from rfl] at HFew
  clear h0 h1 hc0 hc1 x0 x1 hL hn hm hB1 hw1
  by_cases hbig : 2147483647 < n ∨ 2147483647 < m
  · go_enter Tryd.func4, Tryd.ntmps4
    go_wp2
    all_goals (go_ret; exact ⟨rfl, Below.refl _ _⟩)
  · have hn2 : n ≤ 2147483647 := by omega
    have hm2 : m ≤ 2147483647 := by omega
    have g1 : decide (2147483647 < (n : Int)) = false := by simp; omega
    have g2 : decide (2147483647 < (m : Int)) = false := by simp; omega
    clear hbig hn63 hm63
    by_cases hn0 : n = 0
    · have HC := Lib.hid (HWk.out w (Below.refl _ _))
      have zn : ((n : Int) == 0) = true := by rw [beq_iff_eq]; omega
      clear hn0
      go_enter Tryd.func4, Tryd.ntmps4
      go_wp2_with (go_at_call 6; refine HC.out.mono ?_; rintro e w2 ⟨rfl, hb⟩; have HB2 := Lib.hid hb; clear hb)
      go_ret
      exact ⟨rfl, HB2.out⟩
    · have zn : ((n : Int) == 0) = false := by rw [beq_eq_false_iff_ne]; omega
      by_cases hm0 : m = 0
      · have HC := Lib.hid (HWk.out w (Below.refl _ _))
        have zm : ((m : Int) == 0) = true := by rw [beq_iff_eq]; omega
        clear hm0 hn0
        go_enter Tryd.func4, Tryd.ntmps4
        go_wp2_with (go_at_call 6; refine HC.out.mono ?_; rintro e w2 ⟨rfl, hb⟩; have HB2 := Lib.hid hb; clear hb)
        go_ret
        exact ⟨rfl, HB2.out⟩
      · have zm : ((m : Int) == 0) = false := by rw [beq_eq_false_iff_ne]; omega
        have p0 : 0 < n := by omega
        have p1 : 0 < m := by omega
        by_cases hf : n ≤ 400000 ∧ m ≤ 400000
        · rw [decide_eq_true hf] at HFew
          obtain ⟨f0, f1⟩ := hf
          have HDiff : Hid (∀ w2, Below w.heap.size w w2 → Calls Tryd.prog 7 #[.slice A0 n c0, .slice A1 m c1] w2 _) := Lib.hid fun w2 hB => by
            have h := implDiff_calls A0 A1 c0 c1 T0 src tgt w2 (HI.out.1.keep (Keep.of_below hB (fun _ => False)) (fun _ _ h => h)) (HI.out.2.1.keep (Keep.of_below hB (fun _ => False)) (fun _ _ h => h)) (by rw [← HN.out.1]; exact p0) (by rw [← HN.out.2]; exact p1) (by rw [← HN.out.1]; omega) (by rw [← HN.out.2]; omega) HI.out.2.2.2.2.1 HI.out.2.2.2.2.2.1 (HI.out.2.2.2.2.2.2.T.keep (Keep.of_below hB (fun _ => False)) (fun h => h) (fun h => h)) (HI.out.2.2.2.2.2.2.L.keep (Keep.of_below hB (fun _ => False)) (fun h => h))
            rw [← HN.out.1, ← HN.out.2] at h
            exact h
          clear hn0 hm0 hn2 hm2
          go_enter Tryd.func4, Tryd.ntmps4
          go_wp2_with (go_at_call 5; rw [← HW1.out]; refine HFew.out.mono ?_; rintro e w2 ⟨rfl, hd⟩; have HB2 := Lib.hid (HB1.out.trans (hd.below.mono HB1.out.size)); clear hd; refine Hid.out ?_)
          have HC := Lib.hid (HDiff.out w2 HB2.out)
          refine Lib.hid ?_
          go_wp2_with (go_at_call 7; refine HC.out.mono ?_; rintro e w3 ⟨v, d, rfl, hd, hr, hb⟩; have HD := Lib.hid hd; have HR := Lib.hid hr; have HB3 := Lib.hid (HB2.out.trans (hb.mono HB2.out.size)); clear hd hr hb; refine Hid.out ?_)
          obtain ⟨Ad, cd, hv⟩ := Kd.R_slice HR.out
          subst hv
          have HP := Lib.hid (patched_calls A0 Ad c0 cd src tgt d w3 (HI.out.1.keep (Keep.of_below HB3.out (fun _ => False)) (fun _ _ h => h)) HI.out.2.2.1 (Kd.V_mono (Kd.R_V HR.out) (fun _ _ => trivial)) (by rw [← HN.out.1]; exact p0) (by rw [← HN.out.2]; exact p1) (by rw [← HN.out.1]; omega) (by rw [← HN.out.2]; omega) (by
            obtain ⟨ops, _, _, hE, hlen⟩ := HD.out
            rw [hE, List.length_append]
            have := heads_len src tgt
            have := HN.out.2
            omega) HD.out)
          rw [← HN.out.1] at HP
          clear HC HDiff HFew
          refine Lib.hid ?_
          go_wp2_with (go_at_call 9; refine HP.out.mono ?_; rintro e w4 ⟨v4, rfl, hr, hb⟩; have HR4 := Lib.hid hr; have HB4 := Lib.hid (HB3.out.trans (hb.mono HB3.out.size)); clear hr hb; refine Hid.out ?_)
          obtain ⟨A4, c4, hv⟩ := Kd.R_slice HR4.out
          subst hv
          have HS := Lib.hid (laws_deltaSame.calls A4 c4 tgt A1 c1 tgt true w4 (Kd.R_reads' HR4.out).2.2 (Kd.R_reads' HR4.out).2.1 (HI.out.2.1.keep (Keep.of_below HB4.out (fun _ => False)) (fun _ _ h => h)) HI.out.2.2.2.1 (same_self tgt))
          rw [← HN.out.2] at HS ⊢
          refine Lib.hid ?_
          go_wp2_with (go_at_call 10; refine HS.out.mono ?_; rintro e w5 ⟨rfl, hd⟩; have HB5 := Lib.hid (HB4.out.trans (hd.below.mono HB4.out.size)); clear hd)
          go_ret
          exact ⟨rfl, HB5.out⟩
        · rw [decide_eq_false hf] at HFew
          clear hn0 hm0 hf
          go_enter Tryd.func4, Tryd.ntmps4
          go_wp2_with (go_at_call 5; rw [← HW1.out]; refine HFew.out.mono ?_; rintro e w2 ⟨rfl, hd⟩; have HB2 := Lib.hid (HB1.out.trans (hd.below.mono HB1.out.size)); clear hd; refine Hid.out ?_)
          have HC := Lib.hid (HWk.out w2 HB2.out)
          refine Lib.hid ?_
          go_wp2_with (go_at_call 6; refine HC.out.mono ?_; rintro e w3 ⟨rfl, hb⟩; have HB3 := Lib.hid (HB2.out.trans (hb.mono HB2.out.size)); clear hb)
          go_ret
          exact ⟨rfl, HB3.out⟩
end Go.Proofs.YtkknoionjppegaaDoor.Delta
