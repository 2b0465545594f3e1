/- The law FnDeltaDiffEdit, walked. -/
import Derived.Test.YtkknoionjppegaaDoorED
import Derived.IntWalk
namespace Go.Proofs.YtkknoionjppegaaDoor.Delta
open Go.RowKit Go.Proofs.YtkknoionjppegaaDoorW.PrintWords Go.Proofs.YtkknoionjppegaaDoorW.PrintLast Go.Proofs.YtkknoionjppegaaDoorW.PrintMore Go.Proofs.YtkknoionjppegaaDoor.PFnDeltaDiffRead

theorem C_head {A : Option Addr} {c : Nat} {xs : List Int} (hc : xs.length ≤ c) (j : Nat) (hj : j ≤ xs.length) :
    (∀ W, (Instr.slice 22 (.slice A xs.length c) none (some (.int .i64 (j : Int))) none).run Tryd.prog W = .ok (.slice A j c) W) ∧ ∀ w', Rd w' A xs.length xs → Rd w' A j (xs.take j) := by
  obtain ⟨i0, hi, _, hsz, _⟩ := info_parts info5
  have hcut := cut_to (P := Tryd.prog) 22 5 .i64 Tryd.underlying22 hi A xs.length c (j : Int) (by omega) (by omega) hc
  rw [Int.toNat_natCast] at hcut
  refine ⟨hcut, fun w' h' => ?_⟩
  have := Kd.C_take (m := j) h' hj
  have hl : (xs.take j).length = j := by rw [List.length_take]; omega
  rwa [hl] at this
theorem C_tail {A : Option Addr} {c : Nat} {xs : List Int} (hc : xs.length ≤ c) (i s : Nat) (hj : i + s ≤ xs.length) :
    ∃ A', (∀ W, (Instr.slice 22 (.slice A xs.length c) (some (.int .i64 ((i : Int) + (s : Int)))) none none).run Tryd.prog W = .ok (.slice A' (xs.length - (i + s)) (c - (i + s))) W) ∧ ∀ w', Rd w' A xs.length xs → Rd w' A' (xs.length - (i + s)) (xs.drop (i + s)) := by
  obtain ⟨i0, hi, _, hsz, _⟩ := info_parts info5
  have hcut := cut_from (P := Tryd.prog) 22 5 .i64 Tryd.underlying22 hi 1 hsz A xs.length c ((i : Int) + (s : Int)) (by omega) (by omega)
  rw [show ((i : Int) + (s : Int)).toNat = i + s by omega] at hcut
  refine ⟨_, hcut, fun w' h' => ?_⟩
  have := Kd.C_drop (m := i + s) (c := c) h' (by omega) hc
  have hl : (xs.drop (i + s)).length = xs.length - (i + s) := by rw [List.length_drop]
  rwa [hl] at this
set_option maxHeartbeats 8000000 in
set_option maxRecDepth 100000 in
theorem edit_calls (A0 A1 : Option Addr) (c0 c1 : Nat) (T0 : Addr) (src put : List Int) (fr sz : Int) (w : World) (h0 : Rd w A0 src.length src) (h1 : Rd w A1 put.length put) (hc0 : src.length ≤ c0) (hc1 : put.length ≤ c1) (x0 : ∀ x ∈ src, 0 ≤ x ∧ x < 256) (x1 : ∀ x ∈ put, 0 ≤ x ∧ x < 256) (hL : Laid w T0) (hfr : -9223372036854775808 ≤ fr ∧ fr ≤ 9223372036854775807) (hsz : -9223372036854775808 ≤ sz ∧ sz ≤ 9223372036854775807) :
    Calls Tryd.prog 3 #[.slice A0 src.length c0, .slice A1 put.length c1, .int .i64 fr, .int .i64 sz] w fun e w' => e = .returned (.bool true) ∧ Below w.heap.size w w' := by
  have HI := Lib.hid (⟨h0, h1, hc0, hc1, x0, x1, hL⟩ : Rd w A0 src.length src ∧ Rd w A1 put.length put ∧ src.length ≤ c0 ∧ put.length ≤ c1 ∧ (∀ x ∈ src, 0 ≤ x ∧ x < 256) ∧ (∀ x ∈ put, 0 ≤ x ∧ x < 256) ∧ Laid w T0)
  have HWk : Hid (∀ w1, Below w.heap.size w w1 → Calls Tryd.prog 6 #[] w1 _) := Lib.hid fun w1 hB => works_calls w1 (hL.O.below hB) (hL.Z.below hB)
  obtain ⟨n, hn⟩ : ∃ n, n = src.length := ⟨_, rfl⟩
  obtain ⟨m, hm⟩ : ∃ m, m = put.length := ⟨_, rfl⟩
  have HN := Lib.hid (⟨hn, hm⟩ : n = src.length ∧ m = put.length)
  rw [← hn, ← hm]
  have hn63 : n ≤ 9223372036854775807 := by rw [hn]; exact h0.2.1
  have hm63 : m ≤ 9223372036854775807 := by rw [hm]; exact h1.2.1
  obtain ⟨w1, hw1⟩ : ∃ w1, w1 = w.alloc (.cells #[.slice A0 n c0, .slice A1 m c1] 22) := ⟨_, rfl⟩
  have hB1 : Below w.heap.size w w1 := by rw [hw1]; exact below_alloc (Below.refl _ _) _
  have HB1 := Lib.hid hB1
  have HW1 := Lib.hid hw1
  have HFew := Lib.hid (laws_deltaFew.calls 4 (some ⟨w.heap.size, 0, none⟩) 2 [src, put] (decide (src.length ≤ 400000 ∧ put.length ≤ 400000)) w1 (two_rows (by rw [hw1, hn, hm]; exact heap_alloc_new w _) (h0.keep (Keep.of_below hB1 (fun _ => False)) (fun _ _ h => h)) (h1.keep (Keep.of_below hB1 (fun _ => False)) (fun _ _ h => h)) hc0 hc1) (Nat.le_refl _) (few_two src put))
  rw [← hn, ← hm, show ([src, put] : List (List Int)).length = 2 from rfl] at HFew
  clear h0 h1 hc0 hc1 x0 x1 hL hn hm hB1 hw1
  by_cases hbig : 2147483647 < n ∨ 2147483647 < m
  · go_enter Tryd.func3, Tryd.ntmps3
    go_wp2
    all_goals (go_ret; exact ⟨rfl, Below.refl _ _⟩)
  · have hn2 : n ≤ 2147483647 := by omega
    have hm2 : m ≤ 2147483647 := by omega
    have g1 : decide (2147483647 < (n : Int)) = false := by simp; omega
    have g2 : decide (2147483647 < (m : Int)) = false := by simp; omega
    clear hbig hn63 hm63
    by_cases hn0 : n = 0
    · have HC := Lib.hid (HWk.out w (Below.refl _ _))
      have zn : ((n : Int) == 0) = true := by rw [beq_iff_eq]; omega
      clear hn0
      go_enter Tryd.func3, Tryd.ntmps3
      go_wp2_with (go_at_call 6; refine HC.out.mono ?_; rintro e w2 ⟨rfl, hb⟩; have HB2 := Lib.hid hb; clear hb)
      go_ret
      exact ⟨rfl, HB2.out⟩
    · have zn : ((n : Int) == 0) = false := by rw [beq_eq_false_iff_ne]; omega
      have p0 : 0 < n := by omega
      by_cases hf : n ≤ 400000 ∧ m ≤ 400000
      · rw [decide_eq_true hf] at HFew
        obtain ⟨f0, f1⟩ := hf
        by_cases q1 : fr < 0
        · have d1 : decide (fr < 0) = true := decide_eq_true q1
          clear q1 hfr hsz hn0
          go_enter Tryd.func3, Tryd.ntmps3
          go_wp2_with (go_at_call 5; rw [← HW1.out]; refine HFew.out.mono ?_; rintro e w2 ⟨rfl, hd⟩; have HB2 := Lib.hid (HB1.out.trans (hd.below.mono HB1.out.size)); clear hd; refine Hid.out ?_)
          have HC := Lib.hid (HWk.out w2 HB2.out)
          refine Lib.hid ?_
          go_wp2_with (go_at_call 6; refine HC.out.mono ?_; rintro e w3 ⟨rfl, hb⟩; have HB3 := Lib.hid (HB2.out.trans (hb.mono HB2.out.size)); clear hb)
          go_ret
          exact ⟨rfl, HB3.out⟩
        · by_cases q2 : sz < 0
          · have d1 : decide (fr < 0) = false := decide_eq_false q1
            have d2 : decide (sz < 0) = true := decide_eq_true q2
            clear q1 q2 hfr hsz hn0
            go_enter Tryd.func3, Tryd.ntmps3
            go_wp2_with (go_at_call 5; rw [← HW1.out]; refine HFew.out.mono ?_; rintro e w2 ⟨rfl, hd⟩; have HB2 := Lib.hid (HB1.out.trans (hd.below.mono HB1.out.size)); clear hd; refine Hid.out ?_)
            have HC := Lib.hid (HWk.out w2 HB2.out)
            refine Lib.hid ?_
            go_wp2_with (go_at_call 6; refine HC.out.mono ?_; rintro e w3 ⟨rfl, hb⟩; have HB3 := Lib.hid (HB2.out.trans (hb.mono HB2.out.size)); clear hb)
            go_ret
            exact ⟨rfl, HB3.out⟩
          · obtain ⟨a, rfl⟩ : ∃ a : Nat, fr = (a : Int) := ⟨fr.toNat, by omega⟩
            obtain ⟨s, rfl⟩ : ∃ s : Nat, sz = (s : Int) := ⟨sz.toNat, by omega⟩
            have d1 : decide ((a : Int) < 0) = false := decide_eq_false q1
            have d2 : decide ((s : Int) < 0) = false := decide_eq_false q2
            clear q1 q2
            by_cases q3 : n < a
            · have d3 : decide (n < a) = true := decide_eq_true q3
              have d3' : decide ((n : Int) < (a : Int)) = true := decide_eq_true (by omega)
              clear hfr hsz hn0
              go_enter Tryd.func3, Tryd.ntmps3
              go_wp2_with (go_at_call 5; rw [← HW1.out]; refine HFew.out.mono ?_; rintro e w2 ⟨rfl, hd⟩; have HB2 := Lib.hid (HB1.out.trans (hd.below.mono HB1.out.size)); clear hd; refine Hid.out ?_)
              have HC := Lib.hid (HWk.out w2 HB2.out)
              refine Lib.hid ?_
              go_wp2_with (go_at_call 6; refine HC.out.mono ?_; rintro e w3 ⟨rfl, hb⟩; have HB3 := Lib.hid (HB2.out.trans (hb.mono HB2.out.size)); clear hb)
              go_ret
              exact ⟨rfl, HB3.out⟩
            · have d3 : decide (n < a) = false := decide_eq_false q3
              have d3' : decide ((n : Int) < (a : Int)) = false := decide_eq_false (by omega)
              have hle : a ≤ n := by omega
              by_cases q4 : n < a + s
              · have d4 : decide ((n : Int) - (a : Int) < (s : Int)) = true := decide_eq_true (by omega)
                clear hfr hsz hn0 q3
                go_enter Tryd.func3, Tryd.ntmps3
                go_wp2_with (go_at_call 5; rw [← HW1.out]; refine HFew.out.mono ?_; rintro e w2 ⟨rfl, hd⟩; have HB2 := Lib.hid (HB1.out.trans (hd.below.mono HB1.out.size)); clear hd; refine Hid.out ?_)
                have HC := Lib.hid (HWk.out w2 HB2.out)
                refine Lib.hid ?_
                go_wp2_with (go_at_call 6; refine HC.out.mono ?_; rintro e w3 ⟨rfl, hb⟩; have HB3 := Lib.hid (HB2.out.trans (hb.mono HB2.out.size)); clear hb)
                go_ret
                exact ⟨rfl, HB3.out⟩
              · have d4 : decide ((n : Int) - (a : Int) < (s : Int)) = false := decide_eq_false (by omega)
                have w1s : wrap64 (wrap64 ((n : Int) - (s : Int)) + (m : Int)) = (n : Int) - (s : Int) + (m : Int) := by
                  rw [wrap64_in ((n : Int) - (s : Int)) (by omega) (by omega), wrap64_in _ (by omega) (by omega)]
                by_cases q5 : n - s + m = 0
                · have d5 : (wrap64 (wrap64 ((n : Int) - (s : Int)) + (m : Int)) == 0) = true := by rw [w1s, beq_iff_eq]; omega
                  have d6 : ((n : Int) - (s : Int) + (m : Int) == 0) = true := by rw [beq_iff_eq]; omega
                  clear hfr hsz hn0 q3 q5 w1s
                  go_enter Tryd.func3, Tryd.ntmps3
                  go_wp2_with (go_at_call 5; rw [← HW1.out]; refine HFew.out.mono ?_; rintro e w2 ⟨rfl, hd⟩; have HB2 := Lib.hid (HB1.out.trans (hd.below.mono HB1.out.size)); clear hd; refine Hid.out ?_)
                  have HC := Lib.hid (HWk.out w2 HB2.out)
                  refine Lib.hid ?_
                  go_wp2_with (go_at_call 6; refine HC.out.mono ?_; rintro e w3 ⟨rfl, hb⟩; have HB3 := Lib.hid (HB2.out.trans (hb.mono HB2.out.size)); clear hb)
                  go_ret
                  exact ⟨rfl, HB3.out⟩
                · have d5 : (wrap64 (wrap64 ((n : Int) - (s : Int)) + (m : Int)) == 0) = false := by rw [w1s, beq_eq_false_iff_ne]; omega
                  have d6 : ((n : Int) - (s : Int) + (m : Int) == 0) = false := by rw [beq_eq_false_iff_ne]; omega
                  have HSum : Hid (IntKind.i64.wrap ((a : Int) + (s : Int)) = (a : Int) + (s : Int)) := Lib.hid (IntWalk.i64_in _ (by omega))
                  obtain ⟨hcut1, hk1⟩ := C_head (A := A0) (c := c0) (xs := src) HI.out.2.2.1 a (by rw [← HN.out.1]; exact hle)
                  obtain ⟨A3, hcut2, hk2⟩ := C_tail (A := A0) (c := c0) (xs := src) HI.out.2.2.1 a s (by rw [← HN.out.1]; omega)
                  rw [← HN.out.1] at hcut1 hcut2
                  obtain ⟨k3, hk3⟩ : ∃ k, k = n - (a + s) := ⟨_, rfl⟩
                  obtain ⟨c3, hc3⟩ : ∃ k, k = c0 - (a + s) := ⟨_, rfl⟩
                  rw [← hk3, ← hc3] at hcut2
                  obtain ⟨tgt, htg⟩ : ∃ t, t = ([] ++ src.take a) ++ put ++ src.drop (a + s) := ⟨_, rfl⟩
                  have HTg := Lib.hid htg
                  have hlen : tgt.length = n - s + m := by
                    rw [htg, List.length_append, List.length_append, List.nil_append, List.length_take, List.length_drop, ← HN.out.1, ← HN.out.2]
                    omega
                  have HQ := Lib.hid (⟨hlen, by omega, by omega⟩ : tgt.length = n - s + m ∧ 0 < tgt.length ∧ tgt.length ≤ 800000)
                  have HX : Hid (∀ x ∈ tgt, 0 ≤ x ∧ x < 256) := Lib.hid (by
                    intro x hx
                    rw [htg, List.nil_append, List.mem_append, List.mem_append] at hx
                    rcases hx with (hx | hx) | hx
                    · exact HI.out.2.2.2.2.1 x (List.mem_of_mem_take hx)
                    · exact HI.out.2.2.2.2.2.1 x hx
                    · exact HI.out.2.2.2.2.1 x (List.mem_of_mem_drop hx))
                  have HR0 : Hid (∀ w', Below w.heap.size w w' → Rd w' A0 n src ∧ Rd w' A0 a (src.take a) ∧ Rd w' A1 m put ∧ Rd w' A3 k3 (src.drop (a + s))) := Lib.hid fun w' hB => by
                    have r0 := HI.out.1.keep (Keep.of_below hB (fun _ => False)) (fun _ _ h => h)
                    refine ⟨by rw [HN.out.1]; exact r0, hk1 w' r0, by rw [HN.out.2]; exact HI.out.2.1.keep (Keep.of_below hB (fun _ => False)) (fun _ _ h => h), ?_⟩
                    rw [hk3, HN.out.1]
                    exact hk2 w' r0
                  have HL1 : Hid ((([] : List Int).length + a) * 1 ≤ 140737488355328) := Lib.hid (by simp; omega)
                  have HL2 : Hid ((([] ++ src.take a).length + m) * 1 ≤ 140737488355328) := Lib.hid (by rw [List.nil_append, List.length_take]; omega)
                  have HL3 : Hid ((([] ++ src.take a ++ put).length + k3) * 1 ≤ 140737488355328) := Lib.hid (by rw [List.nil_append, List.length_append, List.length_take, ← HN.out.2]; omega)
                  clear hfr hsz hn0 q3 q4 q5 w1s hk1 hk2 hk3 hc3 htg hlen
                  go_enter Tryd.func3, Tryd.ntmps3
                  go_wp2_with (go_at_call 5; rw [← HW1.out]; refine HFew.out.mono ?_; rintro e w2 ⟨rfl, hd⟩; have HB2 := Lib.hid (HB1.out.trans (hd.below.mono HB1.out.size)); clear hd; refine Hid.out ?_)
                  have HO5 : Hid (Kd.R (Kd.int .u8) 5 (w2.alloc (.cells #[] 5)).drew w.heap.size (fun _ => True) (.slice (some ⟨w2.heap.size, 0, none⟩) 0 0) []) := Lib.hid (Kd.R_mono (Kd.R_drew (empty_R w2 HB2.out.size)) (fun _ _ => trivial))
                  have HB5 : Hid (Below w.heap.size w (w2.alloc (.cells #[] 5)).drew) := Lib.hid ((below_alloc HB2.out _).drew)
                  have HC5 := Lib.hid (HR0.out _ HB5.out).2.1
                  refine Lib.hid ?_
                  go_wp2_with fail
                  have e6 := HSum.out
                  go_region_held3 (fun _ => True) (exact trivial) ((first
                    | (refine Kd.R_append_rows_step (Kd.int .u8) (w0 := w) w.heap.size ?hw (.tmp 66) (.tmp 69) 22 5 (.int .u8 0) 1 ?ho Tryd.underlying22 PFnDeltaDiffRead.info5 ?hz ?h0 ?hb0 (.slice (some ⟨w2.heap.size, 0, none⟩) 0 0) [] (src.take a) A0 a c0 (fun _ => True) (fun _ => False) ?hs ?hx ?aO ?aR (fun _ _ h => h) (fun _ h => h.elim) (fun _ _ => trivial) ?aB ?aS ?aL ?_; (case hw => rfl); (case ho => rfl); (case hz => rfl); (case h0 => decide); (case hb0 => omega); (case hs => rfl); (case hx => rfl); (case aO => exact HO5.out); (case aR => exact HC5.out); (case aB => exact HB5.out); (case aS => exact HB5.out.size); (case aL => exact HL1.out); rintro v3 w3 hr3 hb3 - -; have HO6 := Lib.hid hr3; have HB6 := Lib.hid hb3; have HC6 := Lib.hid (HR0.out _ hb3).2.2.1; clear hr3 hb3)
                    | (refine Kd.R_append_rows_step (Kd.int .u8) (w0 := w) w.heap.size ?hw (.tmp 70) (.tmp 71) 22 5 (.int .u8 0) 1 ?ho Tryd.underlying22 PFnDeltaDiffRead.info5 ?hz ?h0 ?hb0 v3 ([] ++ src.take a) put A1 m c1 (fun _ => True) (fun _ => False) ?hs ?hx ?aO ?aR (fun _ _ h => h) (fun _ h => h.elim) (fun _ _ => trivial) ?aB ?aS ?aL ?_; (case hw => rfl); (case ho => rfl); (case hz => rfl); (case h0 => decide); (case hb0 => omega); (case hs => rfl); (case hx => rfl); (case aO => exact HO6.out); (case aR => exact HC6.out); (case aB => exact HB6.out); (case aS => exact HB6.out.size); (case aL => exact HL2.out); rintro v4 w4 hr4 hb4 - -; have HO7 := Lib.hid hr4; have HB7 := Lib.hid hb4; have HC7 := Lib.hid (HR0.out _ hb4).2.2.2; clear hr4 hb4)
                    | (refine Kd.R_append_rows_step (Kd.int .u8) (w0 := w) w.heap.size ?hw (.tmp 72) (.tmp 77) 22 5 (.int .u8 0) 1 ?ho Tryd.underlying22 PFnDeltaDiffRead.info5 ?hz ?h0 ?hb0 v4 ([] ++ src.take a ++ put) (src.drop (a + s)) A3 k3 c3 (fun _ => True) (fun _ => False) ?hs ?hx ?aO ?aR (fun _ _ h => h) (fun _ h => h.elim) (fun _ _ => trivial) ?aB ?aS ?aL ?_; (case hw => rfl); (case ho => rfl); (case hz => rfl); (case h0 => decide); (case hb0 => omega); (case hs => rfl); (case hx => rfl); (case aO => exact HO7.out); (case aR => exact HC7.out); (case aB => exact HB7.out); (case aS => exact HB7.out.size); (case aL => exact HL3.out); rintro v5 w5 hr5 hb5 - -; rw [← HTg.out] at hr5; have HO8 := Lib.hid hr5; have HB8 := Lib.hid hb5; clear hr5 hb5)))
                  obtain ⟨A5, c5, hv5⟩ := Kd.R_slice HO8.out
                  subst hv5
                  obtain ⟨q, hq⟩ : ∃ q, q = tgt.length := ⟨_, rfl⟩
                  have HT5 := Lib.hid (Kd.R_reads' HO8.out)
                  have HC := Lib.hid (implDiff_calls A0 A5 c0 c5 T0 src tgt w5 (by rw [← HN.out.1]; exact (HR0.out _ HB8.out).1) HT5.out.2.2 (by rw [← HN.out.1]; exact p0) HQ.out.2.1 (by rw [← HN.out.1]; omega) (by have := HQ.out.2.2; omega) HI.out.2.2.2.2.1 HX.out (HI.out.2.2.2.2.2.2.T.keep (Keep.of_below HB8.out (fun _ => False)) (fun h => h) (fun h => h)) (HI.out.2.2.2.2.2.2.L.keep (Keep.of_below HB8.out (fun _ => False)) (fun h => h)))
                  rw [← HN.out.1, ← hq] at HC
                  rw [← hq]
                  have HQq := Lib.hid hq
                  clear hq e6 hcut1 hcut2 HO5 HB5 HC5 HO6 HB6 HC6 HO7 HB7 HC7 HL1 HL2 HL3 HFew
                  clear d1 d2 d3 d3' d4 d5 d6
                  go_wp2_with (go_at_call 7; refine HC.out.mono ?_; rintro e w6 ⟨v, d, rfl, hd, hr, hb⟩; have HD := Lib.hid hd; have HR := Lib.hid hr; have HB9 := Lib.hid (HB8.out.trans (hb.mono HB8.out.size)); have HB96 := Lib.hid hb; clear hd hr hb; refine Hid.out ?_)
                  obtain ⟨Ad, cd, hv⟩ := Kd.R_slice HR.out
                  subst hv
                  have HDl : Hid (d.length ≤ 1000000) := Lib.hid (by
                    obtain ⟨ops, _, _, hE, hlen⟩ := HD.out
                    rw [hE, List.length_append]
                    have := heads_len src tgt
                    have := HQ.out.2.2
                    omega)
                  have HC8 := Lib.hid (patch_calls A0 Ad c0 cd src tgt d w6 (by rw [← HN.out.1]; exact (HR0.out _ HB9.out).1) (Kd.R_reads' HR.out).2.2 (by rw [← HN.out.1]; exact p0) HQ.out.2.1 (by rw [← HN.out.1]; omega) (by have := HQ.out.2.2; omega) (by have := HDl.out; omega) HD.out (HI.out.2.2.2.2.2.2.O.below HB9.out) (HI.out.2.2.2.2.2.2.Z.below HB9.out))
                  rw [← HN.out.1, ← HQq.out] at HC8
                  clear HC
                  refine Lib.hid ?_
                  go_wp2_with (go_at_call 8; refine HC8.out.mono ?_; rintro e w7 ⟨A7, c7, rfl, hc7, hr7, hb7⟩; have HE7 := Lib.hid hc7; have HR7 := Lib.hid hr7; have HBd := Lib.hid hb7; have HB10 := Lib.hid (HB9.out.trans (hb7.mono HB9.out.size)); clear hc7 hr7 hb7; refine Hid.out ?_)
                  have HP := Lib.hid (patched_calls A0 Ad c0 cd src tgt d w7 (by rw [← HN.out.1]; exact (HR0.out _ HB10.out).1) HI.out.2.2.1 (Kd.V_mono (Kd.V_below (base := w7.heap.size) (Kd.R_V HR.out) HBd.out) (fun _ _ => trivial)) (by rw [← HN.out.1]; exact p0) HQ.out.2.1 (by rw [← HN.out.1]; omega) (by have := HQ.out.2.2; omega) HDl.out HD.out)
                  rw [← HN.out.1] at HP
                  clear HC8
                  refine Lib.hid ?_
                  go_wp2_with (go_at_call 9; refine HP.out.mono ?_; rintro e w8 ⟨v8, rfl, hr8, hb8⟩; have HR8 := Lib.hid hr8; have HB8' := Lib.hid hb8; have HB11 := Lib.hid (HB10.out.trans (hb8.mono HB10.out.size)); clear hr8 hb8; refine Hid.out ?_)
                  obtain ⟨A8, c8, hv⟩ := Kd.R_slice HR8.out
                  subst hv
                  have HT8 := Lib.hid (Rd.keep HT5.out.2.2 (Keep.of_below (HB96.out.trans ((HBd.out.trans (HB8'.out.mono HBd.out.size)).mono HB96.out.size)) (fun _ => False)) (fun _ _ h => h))
                  have HS1 := Lib.hid (laws_deltaSame.calls A7 c7 tgt A5 c5 tgt true w8 (by rw [HQq.out] at HR7; exact HR7.out.keep (Keep.of_below HB8'.out (fun _ => False)) (fun _ _ h => h)) (by rw [HQq.out] at HE7; exact HE7.out) HT8.out HT5.out.2.1 (same_self tgt))
                  have HS2 : Hid (∀ w9, Below w8.heap.size w8 w9 → Calls Tryd.prog 10 #[.slice A8 tgt.length c8, .slice A5 tgt.length c5] w9 _) := Lib.hid fun w9 hb9 => laws_deltaSame.calls A8 c8 tgt A5 c5 tgt true w9 (Rd.keep (Kd.R_reads' HR8.out).2.2 (Keep.of_below hb9 (fun _ => False)) (fun _ _ h => h)) (Kd.R_reads' HR8.out).2.1 (Rd.keep HT8.out (Keep.of_below hb9 (fun _ => False)) (fun _ _ h => h)) HT5.out.2.1 (same_self tgt)
                  rw [← HQq.out] at HS1 HS2 ⊢
                  clear HP
                  refine Lib.hid ?_
                  go_wp2_with (go_at_call 10; refine HS1.out.mono ?_; rintro e w9 ⟨rfl, hd⟩; have HB12 := Lib.hid hd.below; clear hd; refine Hid.out ?_)
                  have HS3 := Lib.hid (HS2.out w9 HB12.out)
                  have HB13 := Lib.hid (HB11.out.trans (HB12.out.mono HB11.out.size))
                  clear HS1 HS2
                  refine Lib.hid ?_
                  go_wp2_with (go_at_call 10; refine HS3.out.mono ?_; rintro e w10 ⟨rfl, hd⟩; have HB14 := Lib.hid (HB13.out.trans (hd.below.mono HB13.out.size)); clear hd)
                  go_ret
                  exact ⟨rfl, HB14.out⟩
      · rw [decide_eq_false hf] at HFew
        clear hn0 hf hfr hsz
        go_enter Tryd.func3, Tryd.ntmps3
        go_wp2_with (go_at_call 5; rw [← HW1.out]; refine HFew.out.mono ?_; rintro e w2 ⟨rfl, hd⟩; have HB2 := Lib.hid (HB1.out.trans (hd.below.mono HB1.out.size)); clear hd; refine Hid.out ?_)
        have HC := Lib.hid (HWk.out w2 HB2.out)
        refine Lib.hid ?_
        go_wp2_with (go_at_call 6; refine HC.out.mono ?_; rintro e w3 ⟨rfl, hb⟩; have HB3 := Lib.hid (HB2.out.trans (hb.mono HB2.out.size)); clear hb)
        go_ret
        exact ⟨rfl, HB3.out⟩
end Go.Proofs.YtkknoionjppegaaDoor.Delta
