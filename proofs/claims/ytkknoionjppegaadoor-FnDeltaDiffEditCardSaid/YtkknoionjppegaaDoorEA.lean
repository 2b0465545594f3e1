/- A delta is applied: PatchDelta, Patch; and the small delta of the laws works. -/
import Derived.Test.YtkknoionjppegaaDoorDZ
import Derived.Lib.SlBytesConst
namespace Go.Proofs.YtkknoionjppegaaDoor.Delta
open Go.RowKit Go.Proofs.YtkknoionjppegaaDoorW.PrintWords Go.Proofs.YtkknoionjppegaaDoorW.PrintLast Go.Proofs.YtkknoionjppegaaDoorW.PrintMore Go.Proofs.YtkknoionjppegaaDoor.PFnDeltaDiffRead

theorem CTab.up {w w' : World} {g q s : Nat} (h : CTab w g q s) (hk : ∀ j, j < w.heap.size → w'.heap[j]? = w.heap[j]?) : CTab w' g q s := by
  obtain ⟨A, c, h1, h2, h3⟩ := h
  have hc : ∀ {a : Addr} {v : Value}, w.cell? a = some v → w'.cell? a = some v := fun {a v} hv => (World.cell?_of_block (hk a.block (World.block_lt_of_cell? w a hv))).trans hv
  exact ⟨A, c, hc h1, h2, fun i hi => ⟨hc (h3 i hi).1, hc (h3 i hi).2⟩⟩
theorem CTab.below {w w' : World} {g q s : Nat} (h : CTab w g q s) (hB : Below w.heap.size w w') : CTab w' g q s := h.up (fun j hj => hB.block j hj)

set_option maxHeartbeats 8000000 in
set_option maxRecDepth 100000 in
theorem patchPub_calls (As Ad : Option Addr) (cs cd : Nat) (src tgt d : List Int) (w : World) (hs : Kd.V (Kd.int .u8) 5 w 0 (fun _ => True) (.slice As src.length cs) src) (hd : Kd.V (Kd.int .u8) 5 w 0 (fun _ => True) (.slice Ad d.length cd) d) (p0 : 0 < src.length) (p1 : 0 < tgt.length) (l0 : src.length ≤ 1000000) (l1 : tgt.length ≤ 1000000) (l2 : d.length ≤ 2000000) (hD : IsDelta src tgt d) (hO : CTab w 3 4 0) (hZ : CTab w 4 3 4) :
    Calls Tryd.prog 12 #[.slice As src.length cs, .slice Ad d.length cd] w fun e w' => ∃ A c, e = .returned (.tuple #[.slice A tgt.length c, .nilIface]) ∧ tgt.length ≤ c ∧ Rd w' A tgt.length tgt ∧ Below w.heap.size w w' := by
  have h2 : 2 ≤ d.length := by
    obtain ⟨ops, _, _, hE, _⟩ := hD
    rw [hE]
    unfold heads
    have h1 : ∀ n, 1 ≤ (size7 4 n).length := fun n => by simp only [size7]; split <;> simp
    have := h1 src.length
    have := h1 tgt.length
    simp only [List.length_append]
    omega
  have HC := Lib.hid (patchDelta_calls As Ad cs d.length cd w.heap.size src tgt d (w.alloc (.cells #[.slice none 0 0, .int .i64 0, .int .i8 0] 50)) (heap_alloc_new w _) (Kd.F_now (Kd.V_F (Kd.V_alloc hs _))) (Kd.V_at hs).2.1 (fun a ha => by subst ha; have := V_block (Kd.V_bound hs) p0; exact this.2) (Kd.V_mono (Kd.V_alloc (Kd.V_bound hd) _) (fun _ h => h.2)) p0 p1 l0 l1 l2 hD
    (fun w' k => hO.up (fun j hj => (k.block j (by rw [alloc_size]; omega) (by omega)).trans (Below.heap_alloc w _ j hj)))
    (fun w' k => hZ.up (fun j hj => (k.block j (by rw [alloc_size]; omega) (by omega)).trans (Below.heap_alloc w _ j hj))))
  obtain ⟨n, hn⟩ : ∃ n, n = src.length := ⟨_, rfl⟩
  obtain ⟨nd, hnd⟩ : ∃ nd, nd = d.length := ⟨_, rfl⟩
  rw [← hn, ← hnd] at HC ⊢
  rw [← hn] at p0
  rw [← hnd] at h2
  have zn : ((n : Int) == 0) = false := by rw [beq_eq_false_iff_ne]; omega
  clear hs hd l0 l1 l2 hD hO hZ hn hnd p1
  go_enter Tryd.func12, Tryd.ntmps12
  go_wp2_with (go_at_call 16; refine HC.out.mono ?_; rintro e w1 ⟨rfl, r, hb, hr, hk⟩; have HB := Lib.hid hb; have HK := Lib.hid hk; clear hb hr hk; refine Hid.out ?_)
  have HC2 := Lib.hid (bytes_calls w.heap.size r tgt w1 HB.out)
  refine Lib.hid ?_
  go_wp2_with (go_at_call 17; refine HC2.out.mono ?_; rintro e w2 ⟨⟨A, c, rfl, hc, hR, -⟩, k2, hw2⟩; have HR := Lib.hid hR; have HW2 := Lib.hid hw2; have Hc := Lib.hid hc; clear hR hw2 hc; refine Hid.out ?_)
  refine Lib.hid ?_
  go_wp2
  go_ret2
  have hB1 : Below w.heap.size w w1 := (below_alloc (Below.refl _ _) _).trans (HK.out.below (fun _ h => h) (by rw [alloc_size]; omega))
  refine ⟨A, c, rfl, Hc.out, ?_, ?_⟩
  · rw [HW2.out]
    exact HR.out.keep ((Keep.refl w1 (fun _ => False)).drewN k2) (fun _ _ h => h)
  · rw [HW2.out]
    exact hB1.trans ((below_drewN w1 k2).mono hB1.size)
end Go.Proofs.YtkknoionjppegaaDoor.Delta
namespace Go.Proofs.YtkknoionjppegaaDoor.Delta
open Go.RowKit Go.Proofs.YtkknoionjppegaaDoorW.PrintWords Go.Proofs.YtkknoionjppegaaDoorW.PrintLast Go.Proofs.YtkknoionjppegaaDoorW.PrintMore Go.Proofs.YtkknoionjppegaaDoor.PFnDeltaDiffRead

set_option maxHeartbeats 8000000 in
set_option maxRecDepth 100000 in
theorem patch_calls (A0 A1 : Option Addr) (c0 c1 : Nat) (src tgt d : List Int) (w : World) (h0 : Rd w A0 src.length src) (h1 : Rd w A1 d.length d) (p0 : 0 < src.length) (p1 : 0 < tgt.length) (l0 : src.length ≤ 1000000) (l1 : tgt.length ≤ 1000000) (l2 : d.length ≤ 2000000) (hD : IsDelta src tgt d) (hO : CTab w 3 4 0) (hZ : CTab w 4 3 4) :
    Calls Tryd.prog 8 #[.slice A0 src.length c0, .slice A1 d.length c1] w fun e w' => ∃ A c, e = .returned (.tuple #[.slice A tgt.length c, .bool true]) ∧ tgt.length ≤ c ∧ Rd w' A tgt.length tgt ∧ Below w.heap.size w w' := by
  have HI := Lib.hid (⟨h0, h1, p0, p1, l0, l1, l2, hD, hO, hZ⟩ : Rd w A0 src.length src ∧ Rd w A1 d.length d ∧ 0 < src.length ∧ 0 < tgt.length ∧ src.length ≤ 1000000 ∧ tgt.length ≤ 1000000 ∧ d.length ≤ 2000000 ∧ IsDelta src tgt d ∧ CTab w 3 4 0 ∧ CTab w 4 3 4)
  have HO1 := Lib.hid (empty_R (base := w.heap.size) w (Nat.le_refl _))
  have HB1 : Hid (Below w.heap.size w (w.alloc (.cells #[] 5))) := Lib.hid (below_alloc (Below.refl _ _) _)
  have HC1 := Lib.hid (h0.keep (Keep.of_below HB1.out (fun _ => False)) (fun _ _ h => h))
  have HF1 : Hid (∀ k, (w.alloc (.cells #[] 5)).heap.size ≤ k → w.heap.size ≤ k) := Lib.hid (fun k hk => Nat.le_trans HB1.out.size hk)
  obtain ⟨n, hn⟩ : ∃ n, n = src.length := ⟨_, rfl⟩
  obtain ⟨m, hm⟩ : ∃ m, m = d.length := ⟨_, rfl⟩
  have HN := Lib.hid (⟨hn, hm⟩ : n = src.length ∧ m = d.length)
  rw [← hn] at HC1
  rw [← hn, ← hm]
  clear h0 h1 p0 p1 l0 l1 l2 hD hO hZ hn hm
  go_enter Tryd.func8, Tryd.ntmps8
  go_wp2_with (at_builtin; refine Hid.out ?_)
  refine Lib.hid ?_
  refine Kd.R_append_rows (Kd.int .u8) (w0 := w) w.heap.size rfl (.tmp 9) (.tmp 10) 22 5 (.int .u8 0) 1 rfl Tryd.underlying22 PFnDeltaDiffRead.info5 rfl (by decide) (by omega) (.slice (some ⟨w.heap.size, 0, none⟩) 0 0) [] src _ _ _ (fun k => w.heap.size ≤ k) (fun _ => False) rfl rfl ?aO ?aR (fun _ _ h => h) (fun _ h => h.elim) ?aF ?aB ?aS ?aL ?_
  case aR => exact HC1.out
  case aO => exact HO1.out
  case aF => exact HF1.out
  case aB => exact HB1.out
  case aS => exact HB1.out.size
  case aL => have := HI.out.2.2.2.2.1; have := HN.out.1; simp; omega
  rintro v1 w1 hr hb - -
  have HR1 := Lib.hid hr
  have HBb1 := Lib.hid hb
  clear hr hb
  obtain ⟨sa, ca, hv1⟩ := Kd.R_slice HR1.out
  rw [List.nil_append, ← HN.out.1] at hv1
  subst hv1
  have HO2 := Lib.hid (empty_R (base := w1.heap.size) w1 (Nat.le_refl _))
  have HB2 : Hid (Below w1.heap.size w1 (w1.alloc (.cells #[] 5))) := Lib.hid (below_alloc (Below.refl _ _) _)
  have HC2 : Hid (Kd.C (Kd.int .u8) (w1.alloc (.cells #[] 5)) A1 m d) := Lib.hid (by rw [HN.out.2]; exact (HI.out.2.1.keep (Keep.of_below HBb1.out (fun _ => False)) (fun _ _ h => h)).keep (Keep.of_below HB2.out (fun _ => False)) (fun _ _ h => h))
  have HF2 : Hid (∀ k, (w1.alloc (.cells #[] 5)).heap.size ≤ k → w1.heap.size ≤ k) := Lib.hid (fun k hk => Nat.le_trans HB2.out.size hk)
  clear HO1 HB1 HC1 HF1
  go_wp2_with (at_builtin; refine Hid.out ?_)
  refine Lib.hid ?_
  refine Kd.R_append_rows (Kd.int .u8) (w0 := w1) w1.heap.size rfl (.tmp 12) (.tmp 13) 22 5 (.int .u8 0) 1 rfl Tryd.underlying22 PFnDeltaDiffRead.info5 rfl (by decide) (by omega) (.slice (some ⟨w1.heap.size, 0, none⟩) 0 0) [] d _ _ _ (fun k => w1.heap.size ≤ k) (fun _ => False) rfl rfl ?aO ?aR (fun _ _ h => h) (fun _ h => h.elim) ?aF ?aB ?aS ?aL ?_
  case aR => exact HC2.out
  case aO => exact HO2.out
  case aF => exact HF2.out
  case aB => exact HB2.out
  case aS => exact HB2.out.size
  case aL => have := HI.out.2.2.2.2.2.2.1; have := HN.out.2; simp; omega
  rintro v2 w2 hr hb - -
  have HR2 := Lib.hid hr
  have HBb2 := Lib.hid hb
  clear hr hb
  obtain ⟨ta, ct, hv2⟩ := Kd.R_slice HR2.out
  rw [List.nil_append, ← HN.out.2] at hv2
  subst hv2
  have HW2 : Hid (Below w.heap.size w w2) := Lib.hid (HBb1.out.trans (HBb2.out.mono HBb1.out.size))
  have HC := Lib.hid (patchPub_calls sa ta ca ct src tgt d w2 (by
      rw [← HN.out.1]
      exact Kd.V_mono (Kd.V_below (base := 0) (Kd.R_V HR1.out) HBb2.out) (fun _ _ => trivial)) (by
      rw [← HN.out.2]
      exact Kd.V_mono (Kd.R_V (base' := 0) HR2.out) (fun _ _ => trivial)) HI.out.2.2.1 HI.out.2.2.2.1 HI.out.2.2.2.2.1 HI.out.2.2.2.2.2.1 HI.out.2.2.2.2.2.2.1 HI.out.2.2.2.2.2.2.2.1 (HI.out.2.2.2.2.2.2.2.2.1.below HW2.out) (HI.out.2.2.2.2.2.2.2.2.2.below HW2.out))
  rw [← HN.out.1, ← HN.out.2] at HC
  clear HO2 HB2 HC2 HF2
  go_wp2_with (go_at_call 12; refine HC.out.mono ?_; rintro e w3 ⟨A, c, rfl, hc, hr, hb⟩; have H1 := Lib.hid hc; have H2 := Lib.hid hr; have H3 := Lib.hid hb; clear hc hr hb; refine Hid.out ?_)
  obtain ⟨q, hq⟩ : ∃ q, q = tgt.length := ⟨_, rfl⟩
  rw [← hq] at H1 H2 ⊢
  have HQ := Lib.hid hq
  clear hq
  refine Lib.hid ?_
  go_wp2
  repeat (go_quiet (fail); try go_wp2)
  go_ret2
  have hq := HQ.out
  subst hq
  exact ⟨A, c, rfl, H1.out, by repeat (first | exact H2.out | exact Rd.keep H2.out ((Keep.refl _ (fun _ => False)).drewN _) (fun _ _ h => h)), by repeat (first | exact HW2.out.trans (H3.out.mono HW2.out.size) | apply pw_below_drewN | apply below_drew1)⟩
end Go.Proofs.YtkknoionjppegaaDoor.Delta
namespace Go.Proofs.YtkknoionjppegaaDoor.Delta
open Go.RowKit Go.Proofs.YtkknoionjppegaaDoorW.PrintWords Go.Proofs.YtkknoionjppegaaDoorW.PrintLast Go.Proofs.YtkknoionjppegaaDoorW.PrintMore Go.Proofs.YtkknoionjppegaaDoor.PFnDeltaDiffRead

def wS : List Int := [98, 97, 115, 101]
def wT : List Int := [98, 97, 115, 101, 45, 33]
def wD : List Int := [4, 6, 144, 4, 2, 45, 33]
theorem works_delta : IsDelta wS wT wD := ⟨[.copy 0 4, .ins [45, 33]], by
  intro op h
  simp only [List.mem_cons, List.not_mem_nil, or_false] at h
  rcases h with rfl | rfl
  · exact ⟨by decide, by decide, by decide⟩
  · exact ⟨by decide, by decide⟩, by decide +kernel, by decide +kernel, by decide +kernel⟩
theorem Rd.row {w : World} {g : Nat} {xs : List Int} {fr : Nat × Nat} (h : w.heap[g]? = some (.cells (nums .u8 xs).toArray 5 fr)) (hl : xs.length ≤ 9223372036854775807) : Rd w (some ⟨g, 0, none⟩) xs.length xs :=
  Rd.mk rfl hl (fun j v hj => by
    rw [show (⟨g, 0, none⟩ : Addr).add j = ⟨g, j, none⟩ from addr_add0 g j]
    exact cell_of h j (by rw [List.getElem?_toArray]; exact hj))
set_option maxHeartbeats 8000000 in
set_option maxRecDepth 100000 in
theorem works_calls (w : World) (hO : CTab w 3 4 0) (hZ : CTab w 4 3 4) : Calls Tryd.prog 6 #[] w fun e w' => e = .returned (.bool true) ∧ Below w.heap.size w w' := by
  obtain ⟨w1, hw1⟩ : ∃ w1, w1 = (w.alloc (.cells #[.int .u8 98, .int .u8 97, .int .u8 115, .int .u8 101] 5 (4, 5))).alloc (.cells #[.int .u8 4, .int .u8 6, .int .u8 144, .int .u8 4, .int .u8 2, .int .u8 45, .int .u8 33] 5) := ⟨_, rfl⟩
  have hB : Below w.heap.size w w1 := by rw [hw1]; exact below_alloc (below_alloc (Below.refl _ _) _) _
  have HB := Lib.hid hB
  have HC := Lib.hid (patch_calls (some ⟨w.heap.size, 0, none⟩) (some ⟨w.heap.size + 1, 0, none⟩) 4 7 wS wT wD w1 (Rd.row (by rw [hw1]; exact alloc_old (heap_alloc_new w _) _) (by decide)) (Rd.row (by
      rw [hw1]
      have := heap_alloc_new (w.alloc (.cells #[.int .u8 98, .int .u8 97, .int .u8 115, .int .u8 101] 5 (4, 5))) (.cells #[.int .u8 4, .int .u8 6, .int .u8 144, .int .u8 4, .int .u8 2, .int .u8 45, .int .u8 33] 5)
      rw [alloc_size] at this
      exact this) (by decide)) (by decide) (by decide) (by decide) (by decide) (by decide) works_delta (hO.below hB) (hZ.below hB))
  have HW := Lib.hid hw1
  have HC' : Hid (Calls Tryd.prog 8 #[.slice (some ⟨w.heap.size, 0, none⟩) 4 4, .slice (some ⟨w.heap.size + 1, 0, none⟩) 7 7] w1 fun e w' => ∃ A c, e = .returned (.tuple #[.slice A 6 c, .bool true]) ∧ 6 ≤ c ∧ Rd w' A 6 wT ∧ Below w1.heap.size w1 w') := HC
  have kc := fun (w : World) (C : Array Value) (n c : Nat) => Lib.run_convert_bytes_const (P := Tryd.prog) w 22 5 C n c Tryd.underlying22 Tryd.underlying5
  clear hw1 hB hO hZ HC
  go_enter Tryd.func6, Tryd.ntmps6
  go_wp2_with (go_at_call 8; refine Hid.out ?_)
  refine Lib.hid ?_
  go_wp2_with (go_at_call 8; rw [← HW.out]; refine HC'.out.mono ?_; rintro e w2 ⟨A, c, rfl, hc, hr, hb⟩; have H1 := Lib.hid hc; have H2 := Lib.hid hr; have H3 := Lib.hid hb; clear hc hr hb; refine Hid.out ?_)
  have hcv := Kd.C_string (P := Tryd.prog) (A := A) (c := c) (n := 6) (xs := wT) Tryd.underlying22 Tryd.underlying5 Tryd.underlying9 H2.out
  refine Lib.hid ?_
  go_wp2
  have hw : ((strOfNums wT).toList == [98, 97, 115, 101, 45, 33]) = true := by decide +kernel
  go_ret
  refine ⟨congrArg (fun b => Ending.returned (Value.bool b)) hw, HB.out.trans (H3.out.mono HB.out.size)⟩
end Go.Proofs.YtkknoionjppegaaDoor.Delta
