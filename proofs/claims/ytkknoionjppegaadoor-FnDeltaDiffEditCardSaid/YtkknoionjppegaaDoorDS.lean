/- A delta is found between two texts: Diff. -/
import Derived.Test.YtkknoionjppegaaDoorDR
namespace Go.Proofs.YtkknoionjppegaaDoor.Delta
open Go.RowKit Go.Proofs.YtkknoionjppegaaDoorW.PrintWords Go.Proofs.YtkknoionjppegaaDoorW.PrintLast Go.Proofs.YtkknoionjppegaaDoorW.PrintMore Go.Proofs.YtkknoionjppegaaDoor.PFnDeltaDiffRead

theorem Given.below {w w' : World} {ix cs ct : Nat} {As At T0 : Addr} {src tgt : List Int} (h : Given w ix cs ct As At T0 src tgt) (k : Below w.heap.size w w') : Given w' ix cs ct As At T0 src tgt := h.keep (Keep.of_below k (fun _ => False)) (fun _ _ h => h.elim)
set_option maxHeartbeats 1600000 in
set_option maxRecDepth 100000 in
theorem diffDelta_calls (cs ct : Nat) (As At T0 : Addr) (src tgt : List Int) (w : World) (hG : Given w w.heap.size cs ct As At T0 src tgt) :
    Calls Tryd.prog 11 #[.slice (some As) src.length cs, .slice (some At) tgt.length ct] w fun e w' => ∃ v d, e = .returned v ∧ IsDelta src tgt d ∧ Kd.R (Kd.int .u8) 5 w' w.heap.size (fun _ => True) v d ∧ Below w.heap.size w w' := by
  have HD := Lib.hid (diff_calls w.heap.size cs ct As At T0 src tgt (w.alloc (.cells #[.slice none 0 0, .slice none 0 0, .int .i64 0] 45)) (hG.below (below_alloc (Below.refl _ _) _)) (heap_alloc_new w _))
  obtain ⟨n, hn⟩ : ∃ n, n = src.length := ⟨_, rfl⟩
  obtain ⟨m, hm⟩ : ∃ m, m = tgt.length := ⟨_, rfl⟩
  rw [← hn, ← hm] at HD ⊢
  clear hG hn hm
  go_enter Tryd.func11, Tryd.ntmps11
  go_wp2_with (go_at_call 15; refine HD.out.mono ?_; rintro e w1 ⟨v, d, rfl, h1, h2, h3⟩; have H1 := Lib.hid h1; have H2 := Lib.hid h2; have H3 := Lib.hid h3; clear h1 h2 h3)
  go_ret
  exact ⟨v, d, rfl, H1.out, Kd.R_lower H2.out (by rw [alloc_size]; omega), (below_alloc (Below.refl _ _) _).trans (H3.out.below (by rintro k rfl; exact Nat.le_refl _) (by rw [alloc_size]; omega))⟩

theorem six_lt {w : World} {T0 : Addr} (h : Tab w T0) : 6 < w.heap.size := by
  obtain ⟨c, h, _⟩ := h
  exact World.block_lt_of_cell? w _ h
theorem seven_lt {w : World} (h : LTab w) : 7 < w.heap.size := by
  obtain ⟨v, h, _⟩ := h 0 (by omega)
  exact World.block_lt_of_cell? w _ h
set_option maxHeartbeats 4000000 in
set_option maxRecDepth 100000 in
theorem implDiff_calls (A0 A1 : Option Addr) (c0 c1 : Nat) (T0 : Addr) (src tgt : List Int) (w : World) (h0 : Rd w A0 src.length src) (h1 : Rd w A1 tgt.length tgt) (p0 : 0 < src.length) (p1 : 0 < tgt.length) (l0 : src.length ≤ 1000000) (l1 : tgt.length ≤ 1000000) (x0 : ∀ x ∈ src, 0 ≤ x ∧ x < 256) (x1 : ∀ x ∈ tgt, 0 ≤ x ∧ x < 256) (hT : Tab w T0) (hL : LTab w) :
    Calls Tryd.prog 7 #[.slice A0 src.length c0, .slice A1 tgt.length c1] w fun e w' => ∃ v d, e = .returned v ∧ IsDelta src tgt d ∧ Kd.R (Kd.int .u8) 5 w' w.heap.size (fun _ => True) v d ∧ Below w.heap.size w w' := by
  have hT0 : T0.block < w.heap.size := by
    obtain ⟨c, _, _, h⟩ := hT
    obtain ⟨t, h, _⟩ := h 0 (by omega)
    have := World.block_lt_of_cell? w _ h
    rwa [add_block] at this
  have HI := Lib.hid (⟨h0, h1, p0, p1, l0, l1, x0, x1⟩ : Rd w A0 src.length src ∧ Rd w A1 tgt.length tgt ∧ 0 < src.length ∧ 0 < tgt.length ∧ src.length ≤ 1000000 ∧ tgt.length ≤ 1000000 ∧ (∀ x ∈ src, 0 ≤ x ∧ x < 256) ∧ ∀ x ∈ tgt, 0 ≤ x ∧ x < 256)
  have HT := Lib.hid (⟨hT, hL, hT0⟩ : Tab w T0 ∧ LTab w ∧ T0.block < w.heap.size)
  have HO1 := Lib.hid (empty_R (base := w.heap.size) w (Nat.le_refl _))
  have HB1 : Hid (Below w.heap.size w (w.alloc (.cells #[] 5))) := Lib.hid (below_alloc (Below.refl _ _) _)
  have HC1 := Lib.hid (h0.keep (Keep.of_below HB1.out (fun _ => False)) (fun _ _ h => h))
  have HF1 : Hid (∀ k, (w.alloc (.cells #[] 5)).heap.size ≤ k → w.heap.size ≤ k) := Lib.hid (fun k hk => Nat.le_trans HB1.out.size hk)
  obtain ⟨n, hn⟩ : ∃ n, n = src.length := ⟨_, rfl⟩
  obtain ⟨m, hm⟩ : ∃ m, m = tgt.length := ⟨_, rfl⟩
  have HN := Lib.hid (⟨hn, hm⟩ : n = src.length ∧ m = tgt.length)
  rw [← hn] at HC1
  rw [← hn, ← hm]
  clear h0 h1 p0 p1 l0 l1 x0 x1 hT hL hT0 hn hm
  go_enter Tryd.func7, Tryd.ntmps7
  go_wp2_with (at_builtin; refine Kd.R_append_rows (Kd.int .u8) (w0 := w) w.heap.size rfl (.tmp 5) (.tmp 6) 22 5 (.int .u8 0) 1 rfl Tryd.underlying22 PFnDeltaDiffRead.info5 rfl (by decide) (by omega) (.slice (some ⟨w.heap.size, 0, none⟩) 0 0) [] src _ _ _ (fun k => w.heap.size ≤ k) (fun _ => False) rfl rfl ?aO ?aR (fun _ _ h => h) (fun _ h => h.elim) ?aF ?aB ?aS ?aL ?_; (case aR => exact HC1.out); (case aO => exact HO1.out); (case aF => exact HF1.out); (case aB => exact HB1.out); (case aS => exact HB1.out.size); (case aL => have := HI.out.2.2.2.2.1; have := HN.out.1; simp; omega); rintro v1 w1 hr1 hb1 hg1 -; have HR1 := Lib.hid hr1; have HBb1 := Lib.hid hb1; clear hr1 hb1 hg1; refine Hid.out ?_)
  have HW1 : Hid (Below w.heap.size w w1) := Lib.hid HBb1.out
  obtain ⟨As, cs, hv1, hcs, hrs, has⟩ := R_rd HR1.out
  rw [List.nil_append] at hv1 hcs hrs
  obtain ⟨sa, has2, -⟩ := Rd.cells hrs HI.out.2.2.1
  subst has2
  rw [← HN.out.1] at hv1
  subst hv1
  have HS1 := Lib.hid (⟨hcs, hrs, has sa rfl⟩ : src.length ≤ cs ∧ Rd w1 (some sa) src.length src ∧ w.heap.size ≤ sa.block)
  have HO2 := Lib.hid (empty_R (base := w1.heap.size) w1 (Nat.le_refl _))
  have HB2 : Hid (Below w1.heap.size w1 (w1.alloc (.cells #[] 5))) := Lib.hid (below_alloc (Below.refl _ _) _)
  have HC2 : Hid (Kd.C (Kd.int .u8) (w1.alloc (.cells #[] 5)) A1 m tgt) := Lib.hid (by rw [HN.out.2]; exact (HI.out.2.1.keep (Keep.of_below HW1.out (fun _ => False)) (fun _ _ h => h)).keep (Keep.of_below HB2.out (fun _ => False)) (fun _ _ h => h))
  have HF2 : Hid (∀ k, (w1.alloc (.cells #[] 5)).heap.size ≤ k → w1.heap.size ≤ k) := Lib.hid (fun k hk => Nat.le_trans HB2.out.size hk)
  clear hcs hrs has HO1 HB1 HC1 HF1
  refine Lib.hid ?_
  go_wp2_with (at_builtin; refine Kd.R_append_rows (Kd.int .u8) (w0 := w1) w1.heap.size rfl (.tmp 8) (.tmp 9) 22 5 (.int .u8 0) 1 rfl Tryd.underlying22 PFnDeltaDiffRead.info5 rfl (by decide) (by omega) (.slice (some ⟨w1.heap.size, 0, none⟩) 0 0) [] tgt _ _ _ (fun k => w1.heap.size ≤ k) (fun _ => False) rfl rfl ?aO ?aR (fun _ _ h => h) (fun _ h => h.elim) ?aF ?aB ?aS ?aL ?_; (case aR => exact HC2.out); (case aO => exact HO2.out); (case aF => exact HF2.out); (case aB => exact HB2.out); (case aS => exact HB2.out.size); (case aL => have := HI.out.2.2.2.2.2.1; have := HN.out.2; simp; omega); rintro v2 w2 hr2 hb2 hg2 -; have HR2 := Lib.hid hr2; have HBb2 := Lib.hid hb2; clear hr2 hb2 hg2; refine Hid.out ?_)
  obtain ⟨At, ct, hv2, hct, hrt, hat⟩ := R_rd HR2.out
  rw [List.nil_append] at hv2 hct hrt
  obtain ⟨ta, hat2, -⟩ := Rd.cells hrt HI.out.2.2.2.1
  subst hat2
  rw [← HN.out.2] at hv2
  subst hv2
  have HW2 : Hid (Below w.heap.size w w2) := Lib.hid (HW1.out.trans (HBb2.out.mono HW1.out.size))
  have HG2 : Hid (Given w2 w2.heap.size cs ct sa ta T0 src tgt) := Lib.hid (by
    have k1 := Keep.of_below HBb2.out (fun _ => False)
    have k2 := Keep.of_below HW2.out (fun _ => False)
    have s1 := HW2.out.size
    have r1 : Rd w2 (some sa) src.length src := HS1.out.2.1.keep k1 (fun _ _ h => h)
    have b1 : sa.block < w2.heap.size := by
      obtain ⟨a, ha, hc⟩ := r1.cells HI.out.2.2.1
      cases ha
      have := World.block_lt_of_cell? w2 _ (hc 0 _ (by simp [nums, HI.out.2.2.1]; rfl))
      rwa [add_block] at this
    have b2 : ta.block < w2.heap.size := by
      obtain ⟨a, ha, hc⟩ := hrt.cells HI.out.2.2.2.1
      cases ha
      have := World.block_lt_of_cell? w2 _ (hc 0 _ (by simp [nums, HI.out.2.2.2.1]; rfl))
      rwa [add_block] at this
    have s6 := six_lt HT.out.1
    have s7 := seven_lt HT.out.2.1
    have s8 := HT.out.2.2
    exact ⟨r1, hrt, HS1.out.1, hct, HI.out.2.2.2.2.1, HI.out.2.2.2.2.2.1, HI.out.2.2.2.2.2.2.1, HI.out.2.2.2.2.2.2.2, HT.out.1.keep k2 (fun h => h) (fun h => h), HT.out.2.1.keep k2 (fun h => h), b1, b2, by omega, by omega⟩)
  have HD := Lib.hid (diffDelta_calls cs ct sa ta T0 src tgt w2 HG2.out)
  rw [← HN.out.1, ← HN.out.2] at HD
  clear hct hrt hat HO2 HB2 HC2 HF2
  refine Lib.hid ?_
  go_wp2_with (go_at_call 11; refine HD.out.mono ?_; rintro e w3 ⟨v, d, rfl, h1, h2, h3⟩; have H1 := Lib.hid h1; have H2 := Lib.hid h2; have H3 := Lib.hid h3; clear h1 h2 h3)
  go_ret
  exact ⟨v, d, rfl, H1.out, Kd.R_lower H2.out HW2.out.size, HW2.out.trans (H3.out.mono HW2.out.size)⟩
end Go.Proofs.YtkknoionjppegaaDoor.Delta
