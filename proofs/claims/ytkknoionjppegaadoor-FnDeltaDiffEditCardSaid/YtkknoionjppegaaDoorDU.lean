/- The reference makes of a delta what its instructions make: spec.Patched. -/
import Derived.Test.YtkknoionjppegaaDoorDT
namespace Go.Proofs.YtkknoionjppegaaDoor.Delta
open Go.RowKit Go.Proofs.YtkknoionjppegaaDoorW.PrintWords Go.Proofs.YtkknoionjppegaaDoorW.PrintLast Go.Proofs.YtkknoionjppegaaDoorW.PrintMore Go.Proofs.YtkknoionjppegaaDoor.PFnDeltaDiffRead

theorem V_from {w : World} {base n c : Nat} {ok : Nat → Prop} {A : Option Addr} {xs : List Int} (h : Kd.V (Kd.int .u8) 5 w base ok (.slice A n c) xs) (k : IntKind) (j : Nat) (ji : Int) (hji : ji = j) (hj : j ≤ n) :
    ∃ A', (∀ W, (Instr.slice 22 (.slice A n c) (some (.int k ji)) none none).run Tryd.prog W = .ok (.slice A' (n - j) (c - j)) W) ∧ Kd.V (Kd.int .u8) 5 w base ok (.slice A' (n - j) (c - j)) (xs.drop j) := by
  obtain ⟨hn, hc, hF⟩ := Kd.V_at h
  obtain ⟨i0, hi, _, hsz, _⟩ := info_parts info5
  subst hji
  have hcut := cut_from (P := Tryd.prog) 22 5 k Tryd.underlying22 hi 1 hsz A n c (j : Int) (by omega) (by omega)
  have hr := Kd.F_cut (m := j) (c := c) hF (by omega) (by omega)
  rw [Int.toNat_natCast] at hcut
  refine ⟨_, hcut, ?_⟩
  have hl : (xs.drop j).length = n - j := by rw [List.length_drop, hn]
  rw [← hl]
  exact Kd.V_mk (by rw [hl]; omega) hr
theorem C_to {w : World} {base n c : Nat} {ok : Nat → Prop} {A : Option Addr} {xs : List Int} (h : Kd.V (Kd.int .u8) 5 w base ok (.slice A n c) xs) (k : IntKind) (j : Nat) (hj : j ≤ n) :
    (∀ W, (Instr.slice 22 (.slice A n c) none (some (.int k (j : Int))) none).run Tryd.prog W = .ok (.slice A j c) W) ∧ Kd.C (Kd.int .u8) w A j (xs.take j) := by
  obtain ⟨hn, hc, hF⟩ := Kd.V_at h
  obtain ⟨i0, hi, _, hsz, _⟩ := info_parts info5
  have hcut := cut_to (P := Tryd.prog) 22 5 k Tryd.underlying22 hi A n c (j : Int) (by omega) (by omega) hc
  rw [Int.toNat_natCast] at hcut
  refine ⟨hcut, ?_⟩
  have := Kd.F_now (Kd.F_take (m := j) hF (by omega))
  have hl : (xs.take j).length = j := by rw [List.length_take]; omega
  rwa [hl] at this
theorem C_midd {w : World} {c : Nat} {A : Option Addr} {xs : List Int} (h : Rd w A xs.length xs) (hc : xs.length ≤ c) (o n : Nat) (hn : o + n ≤ xs.length) :
    ∃ A', (∀ W, (Instr.slice 22 (.slice A xs.length c) (some (.int .i64 (o : Int))) (some (.int .i64 ((o : Int) + (n : Int)))) none).run Tryd.prog W = .ok (.slice A' n (c - o)) W) ∧ ∀ w', Rd w' A xs.length xs → Rd w' A' n ((xs.drop o).take n) := by
  obtain ⟨i0, hi, _, hsz, _⟩ := info_parts info5
  have hcut := cut_mid (P := Tryd.prog) 22 5 .i64 .i64 Tryd.underlying22 hi 1 hsz A xs.length c (o : Int) ((o : Int) + (n : Int)) (by omega) (by omega) (by omega) hc
  rw [Int.toNat_natCast, show ((o : Int) + (n : Int)).toNat = o + n by omega, Nat.add_sub_cancel_left] at hcut
  refine ⟨_, hcut, fun w' h' => ?_⟩
  have := Kd.C_mid (lo := o) (hi := o + n) (c := c) h' (by omega) hn hc
  have e : (xs.take (o + n)).drop o = (xs.drop o).take n := by rw [List.drop_take, Nat.add_sub_cancel_left]
  have hl : ((xs.drop o).take n).length = n := by rw [List.length_take, List.length_drop]; omega
  rw [e, hl] at this
  exact this

structure PatAt (w0 w' : World) (src tgt : List Int) (A O : Option Addr) (n c m co : Nat) (ops : List Op) (pre : List Int) : Prop where
  good : Goods src ops
  made : pre ++ makes src ops = tgt
  out : Kd.R (Kd.int .u8) 5 w' w0.heap.size (fun _ => True) (.slice O m co) pre
  rest : Kd.V (Kd.int .u8) 5 w' w0.heap.size (fun k => some k ≠ (Value.slice O m co).ownBlock) (.slice A n c) (encs ops)
  below : Below w0.heap.size w0 w'

set_option maxHeartbeats 8000000 in
set_option maxRecDepth 100000 in
theorem patched_calls (As Ad : Option Addr) (cs cd : Nat) (src tgt d : List Int) (w : World) (hs : Rd w As src.length src) (hcs : src.length ≤ cs) (hd : Kd.V (Kd.int .u8) 5 w w.heap.size (fun _ => True) (.slice Ad d.length cd) d) (p0 : 0 < src.length) (p1 : 0 < tgt.length) (l0 : src.length ≤ 1000000) (l1 : tgt.length ≤ 1000000) (l2 : d.length ≤ 1000000) (hD : IsDelta src tgt d) :
    Calls Tryd.prog 9 #[.slice As src.length cs, .slice Ad d.length cd] w fun e w' => ∃ v, e = .returned (.tuple #[v, .int .i64 0]) ∧ Kd.R (Kd.int .u8) 5 w' w.heap.size (fun _ => True) v tgt ∧ Below w.heap.size w w' := by
  obtain ⟨ops0, hG, hM, hE, -⟩ := hD
  have HR1 := Lib.hid (spec_readSize7.calls 4 (fun _ => True) (.slice Ad d.length cd) d (src.length : Int) (size7 4 tgt.length ++ encs ops0) 0 w w (Below.refl _ _) hd (by rw [hE]; unfold heads; rw [List.append_assoc]; exact readSize7_f _ _ (by omega)))
  have HR2 : Hid (∀ v1 w1, Kd.V (Kd.int .u8) 5 w1 w.heap.size (fun k => True ∨ w.heap.size ≤ k) v1 (size7 4 tgt.length ++ encs ops0) → Below w.heap.size w w1 → Calls Tryd.prog 13 #[v1] w1 _) := Lib.hid fun v1 w1 hv hb => spec_readSize7.calls 4 _ v1 _ (tgt.length : Int) (encs ops0) 0 w w1 hb hv (readSize7_f _ _ (by omega))
  have HI := Lib.hid (⟨hG, hM, hs, hcs⟩ : Goods src ops0 ∧ makes src ops0 = tgt ∧ Rd w As src.length src ∧ src.length ≤ cs)
  obtain ⟨n, hn⟩ : ∃ n, n = src.length := ⟨_, rfl⟩
  obtain ⟨m, hm⟩ : ∃ m, m = tgt.length := ⟨_, rfl⟩
  obtain ⟨nd, hnd⟩ : ∃ nd, nd = d.length := ⟨_, rfl⟩
  rw [← hn] at p0 l0
  rw [← hm] at p1 l1
  rw [← hnd] at l2
  rw [← hn, ← hnd, ← hm] at HR1
  rw [← hn, ← hnd]
  rw [← hm] at HR2
  have HN := Lib.hid (⟨hn, hm⟩ : n = src.length ∧ m = tgt.length)
  clear hG hM hE hs hcs hd hn hm hnd
  have zn : ((n : Int) == 0) = false := by rw [beq_eq_false_iff_ne]; omega
  have zm : ((m : Int) == 0) = false := by rw [beq_eq_false_iff_ne]; omega
  have g1 : decide (1000000 < (m : Int)) = false := by simp; omega
  have g2 : decide (1000000 < (n : Int)) = false := by simp; omega
  have g3 : decide (1000000 < (nd : Int)) = false := by simp; omega
  go_enter Tryd.func9, Tryd.ntmps9
  go_wp2_with (go_at_call 13; refine HR1.out.mono ?_; rintro e w1 ⟨v1, rfl, hv, hb, -⟩; have HV1 := Lib.hid hv; have HB1 := Lib.hid hb; clear hv hb; refine Hid.out ?_)
  have HC2 := Lib.hid (HR2.out v1 w1 HV1.out HB1.out)
  clear HR1 HR2
  refine Lib.hid ?_
  go_wp2_with (go_at_call 13; refine HC2.out.mono ?_; rintro e w2 ⟨v2, rfl, hv, hb, -⟩; have HV2 := Lib.hid hv; have HB2 := Lib.hid hb; clear hv hb; refine Hid.out ?_)
  obtain ⟨A2, c2, hv2⟩ := Kd.V_slice HV2.out
  subst hv2
  refine Lib.hid ?_
  obtain ⟨n2, hn2⟩ : ∃ k, k = (encs ops0).length := ⟨_, rfl⟩
  rw [← hn2] at HV2 ⊢
  clear hn2
  go_wp2
  go_loopg [7, 10] ops0.length (fun gq v7 v10 w' => ∃ (A O : Option Addr) (n7 c7 n10 c10 : Nat), v7 = .slice A n7 c7 ∧ v10 = .slice O n10 c10 ∧ Aside0 (∃ ops pre, gq = ops.length ∧ PatAt w w' src tgt A O n7 c7 n10 c10 ops pre))
  case atStart => exact ⟨A2, none, n2, c2, 0, 0, rfl, rfl, ⟨ops0, [], rfl, HI.out.1, HI.out.2.1, Kd.R_nil _ _ _ _ _, Kd.V_mono HV2.out (fun k _ => by simp [Value.ownBlock]), HB2.out⟩⟩
  case round =>
    clear HV2 HB2 HV1 HB1 HC2
    obtain ⟨A, O, n7, c7, n10, c10, rfl, rfl, HA⟩ := hrel
    obtain ⟨ops, pre, hg, hP⟩ := HA.out
    have HP := Lib.hid hP
    obtain ⟨hn7, hc7, -⟩ := Kd.V_at hP.rest
    obtain ⟨hn10, hc10, -⟩ := Kd.R_reads' hP.out
    have hpl : pre.length + (makes src ops).length = m := by rw [HN.out.2, ← hP.made, List.length_append]
    have HS : Hid (Rd wr As src.length src) := Lib.hid (HI.out.2.2.1.keep (Keep.of_below hP.below (fun _ => False)) (fun _ _ h => h))
    clear HA hP
    cases ops with
    | nil =>
      have hgk : gk = 0 := hg
      have h7 : n7 = 0 := hn7
      have h10 : n10 = m := by rw [hn10]; exact hpl
      clear hn7 hn10 hpl hg
      subst h7
      subst h10
      go_wp2
      go_ret2
      have hm := HP.out.made
      simp only [makes, List.flatMap_nil, List.append_nil] at hm
      rw [← hm]
      exact ⟨_, rfl, HP.out.out, HP.out.below⟩
    | cons op ops =>
      cases op with
      | ins bs =>
        have hgo := HP.out.good (.ins bs) (by simp)
        obtain ⟨hb1, hb2⟩ := hgo
        obtain ⟨L, hL⟩ : ∃ L, L = bs.length := ⟨_, rfl⟩
        have hmk : (makes src (.ins bs :: ops)).length = L + (makes src ops).length := by rw [hL]; simp [makes, Op.make]
        have hen : encs (.ins bs :: ops) = (L : Int) :: (bs ++ encs ops) := by rw [hL]; simp [encs, Op.enc]
        have hV0 := HP.out.rest
        rw [hen] at hV0 hn7
        have hn7' : n7 = L + (encs ops).length + 1 := by rw [hn7, hL]; simp
        have hlt : n10 + L ≤ m := by omega
        have hL1 : 1 ≤ L := by omega
        have hL2 : L ≤ 127 := by omega
        have hnn : n10 = pre.length := hn10
        obtain ⟨x, hx⟩ : ∃ x, x = (encs ops).length := ⟨_, rfl⟩
        rw [← hx] at hn7'
        obtain ⟨ad, e, hcell⟩ := Kd.at_int (Kd.V_reads' hV0).2.2 0 (by omega) (by rw [← hn7]; omega)
        subst e
        rw [show ((0 : Int)).toNat = 0 from rfl, Addr.add_zero', rd_zero] at hcell
        obtain ⟨A8, hcut8, hV8⟩ := V_from hV0 .i64 1 1 rfl (by omega)
        obtain ⟨n8, hn8⟩ : ∃ k, k = n7 - 1 := ⟨_, rfl⟩
        obtain ⟨c8, hc8⟩ : ∃ k, k = c7 - 1 := ⟨_, rfl⟩
        rw [← hn8, ← hc8] at hcut8 hV8
        rw [show ((L : Int) :: (bs ++ encs ops)).drop 1 = bs ++ encs ops from rfl] at hV8
        obtain ⟨hcutT, hCT⟩ := C_to hV8 .u8 L (by omega)
        rw [show (bs ++ encs ops).take L = bs from by rw [hL]; simp] at hCT
        obtain ⟨A9, hcut9, hV9⟩ := V_from hV8 .u8 L (L : Int) rfl (by omega)
        rw [show (bs ++ encs ops).drop L = encs ops from by rw [hL]; simp] at hV9
        obtain ⟨n9, hn9⟩ : ∃ k, k = n8 - L := ⟨_, rfl⟩
        obtain ⟨c9, hc9⟩ : ∃ k, k = c8 - L := ⟨_, rfl⟩
        rw [← hn9, ← hc9] at hcut9 hV9
        have HCT := Lib.hid hCT
        have HV9 := Lib.hid hV9
        have HL := Lib.hid hL
        have HNN := Lib.hid hnn
        have hLn8 : L ≤ n8 := by omega
        have p7 : 1 ≤ n7 := by omega
        have z7 : ((n7 : Int) == 0) = false := by rw [beq_eq_false_iff_ne]; omega
        have zL : ((L : Int) == 0) = false := by rw [beq_eq_false_iff_ne]; omega
        have HG := Lib.hid (show gk = ops.length + 1 from hg)
        have HF : Hid (∀ k, wr.heap.size ≤ k → (fun _ : Nat => True) k) := Lib.hid (fun _ _ => trivial)
        have HBs : Hid (w.heap.size ≤ wr.heap.size) := Lib.hid HP.out.below.size
        have HLm : Hid ((pre.length + L) * 1 ≤ 140737488355328) := Lib.hid (by omega)
        clear hmk hen hV0 hn7 hn7' hb1 hb2 hx hV8 hCT hV9 hL hnn hn10 hpl hg hn8 hc8 hn9 hc9 HS
        go_wp2_with (at_builtin; refine Hid.out ?_)
        refine Lib.hid ?_
        refine Kd.R_append_rows (Kd.int .u8) (w0 := w) w.heap.size rfl (.tmp 93) (.tmp 96) 22 5 (.int .u8 0) 1 rfl Tryd.underlying22 PFnDeltaDiffRead.info5 rfl (by decide) (by omega) (.slice O n10 c10) pre bs _ _ _ (fun _ => True) (fun _ => False) rfl rfl ?aO ?aR (fun _ _ h => h) (fun _ h => h.elim) ?aF ?aB ?aS ?aL ?_
        case aR => exact HCT.out
        case aO => exact HP.out.out
        case aF => exact HF.out
        case aB => exact HP.out.below
        case aS => exact HBs.out
        case aL => exact HLm.out
        rintro v4 w4 hR hB hg hat
        obtain ⟨O4, c4, e4⟩ := Kd.R_slice hR
        subst e4
        have HR4 := Lib.hid hR
        have HB4 := Lib.hid hB
        have HG4 := Lib.hid hg
        have HA4 := Lib.hid hat
        clear hR hB hg hat
        have HV4 := Lib.hid (Kd.V_afterv (Kd.V_mono HV9.out (ok' := fun k => True ∧ some k ≠ (Value.slice O n10 c10).ownBlock) (fun _ h => ⟨trivial, h⟩)) HG4.out HA4.out)
        obtain ⟨n4, hn4⟩ : ∃ k, k = (pre ++ bs).length := ⟨_, rfl⟩
        rw [← hn4] at HR4 HV4 ⊢
        clear HG4 HA4 hn4 HCT HV9
        go_wp2
        obtain ⟨g, hgg⟩ : ∃ g, gk = g + 1 := ⟨ops.length, HG.out⟩
        go_roundg g
        case measure => omega
        case rel => exact ⟨_, _, _, _, _, _, rfl, rfl, ⟨ops, pre ++ bs, by have := HG.out; omega, ⟨fun op h => HP.out.good op (List.mem_cons_of_mem _ h), by rw [← HP.out.made]; simp [makes, Op.make], HR4.out, Kd.V_mono HV4.out (fun _ h => h.2), HB4.out⟩⟩⟩
      | copy o k =>
        have hgo := HP.out.good (.copy o k) (by simp)
        obtain ⟨hk1, hk2, hok⟩ := hgo
        rw [← HN.out.1] at hok
        have hml : (((src.drop o).take k)).length = k := by rw [List.length_take, List.length_drop, ← HN.out.1]; omega
        have hmk : (makes src (.copy o k :: ops)).length = k + (makes src ops).length := by
          simp only [makes, List.flatMap_cons, Op.make, List.length_append]
          rw [hml]
        obtain ⟨C, hC⟩ : ∃ C, C = codeOf o k := ⟨_, rfl⟩
        have hcb := code_bound o k
        rw [← hC] at hcb
        have hen : encs (.copy o k :: ops) = (C : Int) :: (argsOf o k ++ encs ops) := by rw [hC]; simp [encs, Op.enc, copyBytes]
        have hV0 := HP.out.rest
        rw [hen] at hV0 hn7
        have hlt : n10 + k ≤ m := by omega
        have hnn : n10 = pre.length := hn10
        have p7 : 1 ≤ n7 := by rw [hn7]; simp
        obtain ⟨ad, e, hcell⟩ := Kd.at_int (Kd.V_reads' hV0).2.2 0 (by omega) (by rw [← hn7]; omega)
        subst e
        rw [show ((0 : Int)).toNat = 0 from rfl, Addr.add_zero', rd_zero] at hcell
        obtain ⟨A8, hcut8, hV8⟩ := V_from hV0 .i64 1 1 rfl (by omega)
        obtain ⟨n8, hn8⟩ : ∃ k, k = n7 - 1 := ⟨_, rfl⟩
        obtain ⟨c8, hc8⟩ : ∃ k, k = c7 - 1 := ⟨_, rfl⟩
        rw [← hn8, ← hc8] at hcut8 hV8
        rw [show ((C : Int) :: (argsOf o k ++ encs ops)).drop 1 = argsOf o k ++ encs ops from rfl] at hV8
        have hn8' : n8 = (argsOf o k ++ encs ops).length := (Kd.V_at hV8).1
        have HCall := Lib.hid (spec_readCopy.calls 8 (C : Int) _ A8 c8 (argsOf o k ++ encs ops) (o : Int) (k : Int) (encs ops) 0 wr (by rw [← hn8']; exact hV8) (by rw [hC]; exact readCopy o k (by omega) (by omega) hk1 _))
        rw [← hn8'] at HCall
        obtain ⟨AM, hcutM, hCM⟩ := C_midd HS.out HI.out.2.2.2 o k (by rw [← HN.out.1]; exact hok)
        rw [← HN.out.1] at hcutM hCM
        have HCM := Lib.hid hCM
        have HNN := Lib.hid hnn
        have z7 : ((n7 : Int) == 0) = false := by rw [beq_eq_false_iff_ne]; omega
        have zC : ((C : Int) == 0) = false := by rw [beq_eq_false_iff_ne]; omega
        have zC2 : ¬ (C : Int) < 128 := by omega
        have hC1 : C < 256 := hcb.2
        have hC0 : 128 ≤ C := hcb.1
        have HG := Lib.hid (show gk = ops.length + 1 from hg)
        have HBs : Hid (w.heap.size ≤ wr.heap.size) := Lib.hid HP.out.below.size
        have HLm : Hid ((pre.length + k) * 1 ≤ 140737488355328) := Lib.hid (by omega)
        clear hmk hen hV0 hn7 hn8 hn8' hV8 hCM hnn hn10 hpl hg hc8 hcb hC hml
        go_wp2_with (go_at_call 14; refine HCall.out.mono ?_; rintro e w4 ⟨v4, rfl, hv, hb⟩; have HV4 := Lib.hid hv; have HB4 := Lib.hid hb; clear hv hb; refine Hid.out ?_)
        obtain ⟨A4, c4, e4⟩ := Kd.V_slice HV4.out
        subst e4
        obtain ⟨n4, hn4⟩ : ∃ k, k = (encs ops).length := ⟨_, rfl⟩
        rw [← hn4] at HV4 ⊢
        have HO4 := Lib.hid (Kd.R_below HP.out.out HB4.out)
        have HB5 := Lib.hid (HP.out.below.trans (HB4.out.mono HBs.out))
        have HS4 : Hid (Rd w4 As n src) := Lib.hid (by rw [HN.out.1]; exact HS.out.keep (Keep.of_below HB4.out (fun _ => False)) (fun _ _ h => h))
        have HCT := Lib.hid (HCM.out w4 HS4.out)
        have HBs4 : Hid (w.heap.size ≤ w4.heap.size) := Lib.hid (Nat.le_trans HBs.out HB4.out.size)
        have HF : Hid (∀ k, w4.heap.size ≤ k → (fun _ : Nat => True) k) := Lib.hid (fun _ _ => trivial)
        have HV6 : Hid (Kd.V (Kd.int .u8) 5 w4 w.heap.size (fun j => True ∧ some j ≠ (Value.slice O n10 c10).ownBlock) (.slice A4 n4 c4) (encs ops)) := Lib.hid (Kd.V_mono HV4.out (fun j hj => ⟨trivial, fun e => hj.elim (fun h => h e) (fun h => by have := Kd.R_lt HP.out.out j e.symm; omega)⟩))
        clear hn4 HCall HV4 HCM HS4
        refine Lib.hid ?_
        go_wp2_with (at_builtin; refine Hid.out ?_)
        refine Lib.hid ?_
        refine Kd.R_append_rows (Kd.int .u8) (w0 := w) w.heap.size rfl (.tmp 133) (.tmp 139) 22 5 (.int .u8 0) 1 rfl Tryd.underlying22 PFnDeltaDiffRead.info5 rfl (by decide) (by omega) (.slice O n10 c10) pre ((src.drop o).take k) _ _ _ (fun _ => True) (fun _ => False) rfl rfl ?aO ?aR (fun _ _ h => h) (fun _ h => h.elim) ?aF ?aB ?aS ?aL ?_
        case aR => exact HCT.out
        case aO => exact HO4.out
        case aF => exact HF.out
        case aB => exact HB5.out
        case aS => exact HBs4.out
        case aL => exact HLm.out
        rintro v5 w5 hR hB hg hat
        obtain ⟨O5, c5, e5⟩ := Kd.R_slice hR
        subst e5
        have HR5 := Lib.hid hR
        have HB6 := Lib.hid hB
        have HG5 := Lib.hid hg
        have HA5 := Lib.hid hat
        clear hR hB hg hat
        have HV5 := Lib.hid (Kd.V_afterv HV6.out HG5.out HA5.out)
        obtain ⟨n5, hn5⟩ : ∃ j, j = (pre ++ (src.drop o).take k).length := ⟨_, rfl⟩
        rw [← hn5] at HR5 HV5 ⊢
        clear HG5 HA5 hn5 HCT HV6 HO4 HB5
        go_wp2
        obtain ⟨g, hgg⟩ : ∃ g, gk = g + 1 := ⟨ops.length, HG.out⟩
        go_roundg g
        case measure => omega
        case rel => exact ⟨_, _, _, _, _, _, rfl, rfl, ⟨ops, pre ++ (src.drop o).take k, by have := HG.out; omega, ⟨fun op h => HP.out.good op (List.mem_cons_of_mem _ h), by rw [← HP.out.made]; simp [makes, Op.make], HR5.out, Kd.V_mono HV5.out (fun _ h => h.2), HB6.out⟩⟩⟩
end Go.Proofs.YtkknoionjppegaaDoor.Delta
