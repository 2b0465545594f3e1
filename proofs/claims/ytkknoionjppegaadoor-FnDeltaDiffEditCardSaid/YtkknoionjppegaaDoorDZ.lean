/- A delta is applied: patchDelta. -/
import Derived.Test.YtkknoionjppegaaDoorDV
namespace Go.Proofs.YtkknoionjppegaaDoor.Delta
open Go.RowKit Go.Proofs.YtkknoionjppegaaDoorW.PrintWords Go.Proofs.YtkknoionjppegaaDoorW.PrintLast Go.Proofs.YtkknoionjppegaaDoorW.PrintMore Go.Proofs.YtkknoionjppegaaDoor.PFnDeltaDiffRead

theorem V_block {w : World} {base n c : Nat} {ok : Nat → Prop} {a : Addr} {xs : List Int} (h : Kd.V (Kd.int .u8) 5 w base ok (.slice (some a) n c) xs) (hn : 0 < n) : ok a.block := by
  by_cases hno : ok a.block
  · exact hno
  · obtain ⟨hl, hc, hF⟩ := Kd.V_at h
    have := hF (w.setRow a.block #[]) (fun k hk _ => setRow_other w a.block k #[] (by rintro rfl; exact hno hk))
    obtain ⟨a', e, hcell⟩ := Kd.at_int this 0 (by omega) (by omega)
    cases e
    have hb : (a.add ((0 : Int)).toNat).block = a.block := add_block _ _
    exfalso
    revert hcell
    simp only [World.cell?, World.setRow, hb]
    split
    · rename_i c' t' fr' heq
      have hc' : c' = #[] := by
        rw [Array.getElem?_modify, if_pos rfl] at heq
        cases hh : w.heap[a.block]? with
        | none => rw [hh] at heq; cases heq
        | some x =>
          rw [hh] at heq
          cases x <;> simp at heq
          exact heq.1
      subst hc'
      simp
    · simp
theorem left4 (o k : Nat) (X : List Int) : argsOf o k ++ X = left o 4 4 ++ (left k 3 3 ++ X) := by simp [argsOf, left]
theorem low4 (o : Nat) (h : o < 4294967296) : low o 4 = o := by
  have := join4 o h
  simpa [low] using this
theorem low3 (k : Nat) (h : k < 16777216) : low k 3 = k := by
  have := join3 k h
  simpa [low] using this

theorem V_mid0 {w : World} {base n c : Nat} {ok : Nat → Prop} {A : Option Addr} {xs : List Int} (h : Kd.V (Kd.int .u8) 5 w base ok (.slice A n c) xs) (j : Nat) (hj : j ≤ n) :
    ∃ A', (∀ W, (Instr.slice 22 (.slice A n c) (some (.int .i64 0)) (some (.int .u64 (j : Int))) none).run Tryd.prog W = .ok (.slice A' j c) W) ∧ Kd.V (Kd.int .u8) 5 w base ok (.slice A' j c) (xs.take j) := by
  obtain ⟨hn, hc, hF⟩ := Kd.V_at h
  obtain ⟨i0, hi, _, hsz, _⟩ := info_parts info5
  have hcut := cut_mid (P := Tryd.prog) 22 5 .i64 .u64 Tryd.underlying22 hi 1 hsz A n c 0 (j : Int) (by omega) (by omega) (by omega) hc
  rw [Int.toNat_natCast, show ((0 : Int)).toNat = 0 from rfl, Nat.sub_zero, Nat.sub_zero] at hcut
  have hF2 := Kd.F_mid (lo := 0) (hi := j) (c := c) hF (by omega) (by omega) (by omega)
  have hl : (xs.take j).length = j := by rw [List.length_take]; omega
  rw [List.drop_zero] at hF2
  refine ⟨_, hcut, ?_⟩
  have := Kd.V_mk (base := base) (e := 5) (c := c) (by rw [hl]; omega) hF2
  rw [hl] at this
  exact this
theorem C_midu {c : Nat} {A : Option Addr} {xs : List Int} (hc : xs.length ≤ c) (o n : Nat) (hn : o + n ≤ xs.length) :
    ∃ A', (∀ W, (Instr.slice 22 (.slice A xs.length c) (some (.int .u64 (o : Int))) (some (.int .u64 ((o : Int) + (n : Int)))) none).run Tryd.prog W = .ok (.slice A' n (c - o)) W) ∧ (∀ w', Rd w' A xs.length xs → Rd w' A' n ((xs.drop o).take n)) ∧ ∀ a, A' = some a → ∃ a0, A = some a0 ∧ a.block = a0.block := by
  obtain ⟨i0, hi, _, hsz, _⟩ := info_parts info5
  have hcut := cut_mid (P := Tryd.prog) 22 5 .u64 .u64 Tryd.underlying22 hi 1 hsz A xs.length c (o : Int) ((o : Int) + (n : Int)) (by omega) (by omega) (by omega) hc
  rw [Int.toNat_natCast, show ((o : Int) + (n : Int)).toNat = o + n by omega, Nat.add_sub_cancel_left] at hcut
  refine ⟨_, hcut, fun w' h' => ?_, fun a ha => ?_⟩
  · have := Kd.C_mid (lo := o) (hi := o + n) (c := c) h' (by omega) hn hc
    have e : (xs.take (o + n)).drop o = (xs.drop o).take n := by rw [List.drop_take, Nat.add_sub_cancel_left]
    have hl : ((xs.drop o).take n).length = n := by rw [List.length_take, List.length_drop]; omega
    rw [e, hl] at this
    exact this
  · split at ha
    · exact ⟨a, ha, rfl⟩
    · cases A with
      | none => cases ha
      | some a0 =>
        cases ha
        exact ⟨a0, rfl, add_block _ _⟩
theorem and128b : ∀ c : Fin 256, (Go.bits .and .u8 ((c.val : Nat) : Int) 128 != 0) = decide (128 ≤ c.val) := by decide +kernel
theorem fromSrc (c : Nat) (hc : c < 256) : packfile_isCopyFromSrc.f (c : Int) = some (decide (128 ≤ c)) := by
  unfold packfile_isCopyFromSrc.f
  rw [and128b ⟨c, hc⟩]
theorem fromDelta (c : Nat) (hc : c < 128) (h1 : 1 ≤ c) : packfile_isCopyFromDelta.f (c : Int) = some true := by
  unfold packfile_isCopyFromDelta.f
  have h := and128b ⟨c, by omega⟩
  rw [show decide (128 ≤ c) = false from decide_eq_false (by omega)] at h
  rw [if_pos (bne_eq_false_iff_eq.1 h)]
  congr 1
  rw [bne_iff_ne]
  omega
theorem fineSize (a r : Nat) (h : a ≤ r) : packfile_invalidSize.f (a : Int) (r : Int) = some false := by
  unfold packfile_invalidSize.f
  rw [decide_eq_false (by omega)]
theorem fineOff (o k n : Nat) (h : o + k ≤ n) (hn : n ≤ 1000000) : packfile_invalidOffsetSize.f (o : Int) (k : Int) (n : Int) = some false := by
  unfold packfile_invalidOffsetSize.f packfile_sumOverflows.f
  rw [wraps_u64 _ (by omega) (by omega), decide_eq_false (by omega)]
  simp only [Option.bind_some]
  rw [if_neg (by decide), decide_eq_false (by omega)]

structure PDAt (w0 w' : World) (b r : Nat) (src tgt : List Int) (A : Option Addr) (n c : Nat) (ops : List Op) (pre : List Int) : Prop where
  good : Goods src ops
  made : pre ++ makes src ops = tgt
  bf : Bf w' b r pre
  br : b ≤ r
  rest : Kd.V (Kd.int .u8) 5 w' 0 (fun k => k < b) (.slice A n c) (encs ops)
  keep : Keep w0 w' (fun k => b ≤ k)
theorem PDAt.below {w0 w w' : World} {b r : Nat} {src tgt : List Int} {A : Option Addr} {n c : Nat} {ops : List Op} {pre : List Int} (h : PDAt w0 w b r src tgt A n c ops pre) (k : Below w.heap.size w w') : PDAt w0 w' b r src tgt A n c ops pre :=
  ⟨h.good, h.made, h.bf.keep (Keep.of_below k (fun _ => False)) (fun h => h) (fun h => h), h.br, Kd.V_below h.rest k, h.keep.trans (Keep.of_below k (fun _ => False)) (fun _ _ h => h.elim)⟩
theorem PDAt.step {w wr w5 w6 : World} {b r r6 : Nat} {src tgt : List Int} {A A9 : Option Addr} {n c n9 c9 : Nat} {ops0 ops : List Op} {pre x : List Int} (h : PDAt w wr b r src tgt A n c ops0 pre) (hD : Below wr.heap.size wr w5) (hV : Kd.V (Kd.int .u8) 5 w5 0 (fun k => k < b) (.slice A9 n9 c9) (encs ops)) (h6 : r6 = r ∨ w5.heap.size ≤ r6) (hB : Bf w6 b r6 (pre ++ x)) (hK : Keep w5 w6 (fun k => k = b ∨ k = r)) (hbw : b < w.heap.size) (hg : Goods src ops) (hm : pre ++ x ++ makes src ops = tgt) : PDAt w w6 b r6 src tgt A9 n9 c9 ops (pre ++ x) := by
  have hbr := h.br
  have s1 := h.keep.size
  have s2 := hD.size
  refine ⟨hg, hm, hB, ?_, Kd.V_step hV (fun k hk hlt => hK.block k hlt (by omega)), (h.keep.trans (Keep.of_below hD _) (fun _ _ h => h)).trans hK (fun k _ e => by rcases e with rfl | rfl; exact Nat.le_refl _; exact hbr)⟩
  rcases h6 with rfl | h6
  · exact hbr
  · omega

set_option maxHeartbeats 8000000 in
set_option maxRecDepth 100000 in
theorem patchDelta_calls (As Ad : Option Addr) (cs nd cd b : Nat) (src tgt d : List Int) (w : World) (hb : w.heap[b]? = some (.cells #[.slice none 0 0, .int .i64 0, .int .i8 0] 50 (0, 0))) (hs : Rd w As src.length src) (hcs : src.length ≤ cs) (hsb : ∀ a, As = some a → a.block < b) (hd : Kd.V (Kd.int .u8) 5 w 0 (fun k => k < b) (.slice Ad nd cd) d) (p0 : 0 < src.length) (p1 : 0 < tgt.length) (l0 : src.length ≤ 1000000) (l1 : tgt.length ≤ 1000000) (l2 : d.length ≤ 2000000) (hD : IsDelta src tgt d) (hO : ∀ w', Keep w w' (fun k => b ≤ k) → CTab w' 3 4 0) (hZ : ∀ w', Keep w w' (fun k => b ≤ k) → CTab w' 4 3 4) :
    Calls Tryd.prog 16 #[.pointer (some ⟨b, 0, none⟩), .slice As src.length cs, .slice Ad nd cd] w fun e w' => e = .returned .nilIface ∧ ∃ r, Bf w' b r tgt ∧ b ≤ r ∧ Keep w w' (fun k => b ≤ k) := by
  obtain ⟨ops0, hG, hM, hE, -⟩ := hD
  have hle : (encs ops0).length ≤ 2000000 := by rw [hE] at l2; simp at l2; omega
  have hle2 : (size7 4 tgt.length ++ encs ops0).length ≤ 10000000 := by have := size7_len 4 tgt.length; rw [List.length_append]; omega
  have HR1 := Lib.hid (leb_calls Ad nd cd src.length (size7 4 tgt.length ++ encs ops0) 0 (fun k => k < b) w (by omega) (by rw [hE] at hd; unfold heads at hd; rw [List.append_assoc] at hd; exact hd) hle2)
  have HR2 : Hid (∀ (A1 : Option Addr) (n1 c1 : Nat) (w1 : World), Kd.V (Kd.int .u8) 5 w1 0 (fun k => k < b) (.slice A1 n1 c1) (size7 4 tgt.length ++ encs ops0) → Calls Tryd.prog 27 #[.slice A1 n1 c1] w1 _) := Lib.hid fun A1 n1 c1 w1 hv => leb_calls A1 n1 c1 tgt.length (encs ops0) 0 (fun k => k < b) w1 (by omega) hv (by omega)
  have HLe := Lib.hid hle
  have HI := Lib.hid (⟨hG, hM, hs, hcs, hsb⟩ : Goods src ops0 ∧ makes src ops0 = tgt ∧ Rd w As src.length src ∧ src.length ≤ cs ∧ ∀ a, As = some a → a.block < b)
  have HB := Lib.hid hb
  have HT := Lib.hid (⟨hO, hZ⟩ : (∀ w', Keep w w' (fun k => b ≤ k) → CTab w' 3 4 0) ∧ ∀ w', Keep w w' (fun k => b ≤ k) → CTab w' 4 3 4)
  obtain ⟨n, hn⟩ : ∃ n, n = src.length := ⟨_, rfl⟩
  obtain ⟨m, hm⟩ : ∃ m, m = tgt.length := ⟨_, rfl⟩
  rw [← hn] at p0 l0
  rw [← hm] at p1 l1
  rw [← hn, ← hm] at HR1
  rw [← hn]
  rw [← hm] at HR2
  have HN := Lib.hid (⟨hn, hm⟩ : n = src.length ∧ m = tgt.length)
  have HGr : Hid (∀ (k : Nat) (w1 : World), Below w.heap.size w w1 → 1 ≤ k → k ≤ 65536 → Calls Tryd.prog 28 #[.pointer (some ⟨b, 0, none⟩), .int .i64 k] w1 _) := Lib.hid fun k w1 hB h1 h2 => growPublic_calls b k w1 ((hB.block b (lt_of_block hb)).trans hb) h1 (by omega)
  clear hG hM hE hs hcs hsb hd hn hm hb hO hZ hle hle2 l2
  go_enter Tryd.func16, Tryd.ntmps16
  go_wp2_with (go_at_call 27; refine HR1.out.mono ?_; rintro e w1 ⟨A1, n1, c1, rfl, hv, hb⟩; have HV1 := Lib.hid hv; have HB1 := Lib.hid hb; clear hv hb; refine Hid.out ?_)
  have HC2 := Lib.hid (HR2.out A1 n1 c1 w1 HV1.out)
  clear HR1 HR2
  refine Lib.hid ?_
  go_wp2_with (go_at_call 27; refine HC2.out.mono ?_; rintro e w2 ⟨A2, n2, c2, rfl, hv, hb⟩; have HV2 := Lib.hid hv; have HB2 := Lib.hid hb; clear hv hb; refine Hid.out ?_)
  have HB3 := Lib.hid (HB1.out.trans (HB2.out.mono HB1.out.size))
  obtain ⟨gq, hgq⟩ : ∃ gq : Nat, gq = min m 65536 := ⟨_, rfl⟩
  have hg1 : 1 ≤ gq := by omega
  have hg2 : gq ≤ 65536 := by omega
  have hmin : min (m : Int) 65536 = (gq : Int) := by omega
  have HC3 := Lib.hid (HGr.out gq w2 HB3.out hg1 hg2)
  clear HC2 HGr hgq
  refine Lib.hid ?_
  go_wp2_with (go_at_call 28; refine HC3.out.mono ?_; rintro e w3 ⟨rfl, r3, hr3, hb3, hk3⟩; have HR3 := Lib.hid hr3; have HBf3 := Lib.hid hb3; have HK3 := Lib.hid hk3; clear hr3 hb3 hk3; refine Hid.out ?_)
  have hbw : b < w.heap.size := lt_of_block HB.out
  have HB0 := Lib.hid hbw
  have HV3 := Lib.hid (Kd.V_step HV2.out (fun k hk hlt => HK3.out.block k hlt (by omega)))
  have HK4 : Hid (Keep w w3 (fun k => b ≤ k)) := Lib.hid ((Keep.of_below HB3.out _).trans HK3.out (fun k _ e => by subst e; exact Nat.le_refl _))
  have HR4 : Hid (b ≤ r3) := Lib.hid (by have := HR3.out; have := HB3.out.size; omega)
  clear hbw HV2 HB3 HB2 HB1 HV1 HC3 HK3 HR3
  refine Lib.hid ?_
  go_wp2
  go_loopg [2, 10] ops0.length (fun gq v2 v10 w' => ∃ (A : Option Addr) (n' c' rem : Nat), v2 = .slice A n' c' ∧ v10 = .int .u64 rem ∧ n' ≤ 2000000 ∧ Aside0 (∃ ops pre r, gq = ops.length ∧ rem + pre.length = m ∧ PDAt w w' b r src tgt A n' c' ops pre))
  case atStart => exact ⟨A2, n2, c2, m, rfl, rfl, by have := (Kd.V_at HV3.out).1; have := HLe.out; omega, ⟨ops0, [], r3, rfl, rfl, ⟨HI.out.1, HI.out.2.1, HBf3.out, HR4.out, HV3.out, HK4.out⟩⟩⟩
  case round =>
    clear HBf3 HV3 HK4 HR4
    obtain ⟨A, n7, c7, rem, rfl, rfl, h7b, HA⟩ := hrel
    obtain ⟨ops, pre, r, hg, hrem, hP⟩ := HA.out
    have HP := Lib.hid hP
    obtain ⟨hn7, hc7, -⟩ := Kd.V_at hP.rest
    have hpl : pre.length + (makes src ops).length = m := by rw [HN.out.2, ← hP.made, List.length_append]
    clear HA hP
    cases ops with
    | nil =>
      have h7 : n7 = 0 := hn7
      have hr0 : rem = 0 := by simp [makes] at hpl; omega
      clear hn7 hpl hrem
      subst h7
      subst hr0
      go_wp2
      go_ret
      have hm := HP.out.made
      simp only [makes, List.flatMap_nil, List.append_nil] at hm
      rw [← hm]
      exact ⟨rfl, r, HP.out.bf, HP.out.br, HP.out.keep⟩
    | cons op ops =>
      cases op with
      | ins bs =>
        obtain ⟨hb1, hb2⟩ := HP.out.good (.ins bs) (by simp)
        obtain ⟨L, hL⟩ : ∃ L, L = bs.length := ⟨_, rfl⟩
        have hmk : (makes src (.ins bs :: ops)).length = L + (makes src ops).length := by rw [hL]; simp [makes, Op.make]
        have hen : encs (.ins bs :: ops) = (L : Int) :: (bs ++ encs ops) := by rw [hL]; simp [encs, Op.enc]
        have hV0 := HP.out.rest
        rw [hen] at hV0 hn7
        have hn7' : n7 = L + (encs ops).length + 1 := by rw [hn7, hL]; simp
        have hL1 : 1 ≤ L := by omega
        have hL2 : L ≤ 127 := by omega
        have hlt : L ≤ rem := by omega
        have hrm : rem ≤ m := by omega
        obtain ⟨ad, e, hcell⟩ := Kd.at_int (Kd.V_reads' hV0).2.2 0 (by omega) (by rw [← hn7]; omega)
        subst e
        rw [show ((0 : Int)).toNat = 0 from rfl, Addr.add_zero', rd_zero] at hcell
        obtain ⟨A8, hcut8, hV8⟩ := V_from hV0 .i64 1 1 rfl (by omega)
        obtain ⟨n8, hn8⟩ : ∃ k, k = n7 - 1 := ⟨_, rfl⟩
        obtain ⟨c8, hc8⟩ : ∃ k, k = c7 - 1 := ⟨_, rfl⟩
        rw [← hn8, ← hc8] at hcut8 hV8
        rw [show ((L : Int) :: (bs ++ encs ops)).drop 1 = bs ++ encs ops from rfl] at hV8
        obtain ⟨AT, hcutT, hVT⟩ := V_mid0 hV8 L (by omega)
        rw [show (bs ++ encs ops).take L = bs from by rw [hL]; simp] at hVT
        obtain ⟨A9, hcut9, hV9⟩ := V_from hV8 .u64 L (L : Int) rfl (by omega)
        rw [show (bs ++ encs ops).drop L = encs ops from by rw [hL]; simp] at hV9
        obtain ⟨n9, hn9⟩ : ∃ k, k = n8 - L := ⟨_, rfl⟩
        obtain ⟨c9, hc9⟩ : ∃ k, k = c8 - L := ⟨_, rfl⟩
        rw [← hn9, ← hc9] at hcut9 hV9
        have h9b : n9 ≤ 2000000 := by omega
        have HVT := Lib.hid hVT
        have HV9 := Lib.hid hV9
        have HL := Lib.hid hL
        have hLn8 : L ≤ n8 := by omega
        have hn8b : n8 ≤ 9223372036854775807 := by have := Kd.F_max (Kd.V_F hV8); omega
        have p7 : 1 ≤ n7 := by omega
        have z7 : ((n7 : Int) == 0) = false := by rw [beq_eq_false_iff_ne]; omega
        have HG := Lib.hid (show gk = ops.length + 1 from hg)
        have HRem := Lib.hid hrem
        have H29 : Hid (∀ w1, Calls Tryd.prog 29 #[.int .u8 (L : Int)] w1 _) := Lib.hid fun w1 => packfile_isCopyFromSrc.calls (L : Int) false w1 (by rw [fromSrc L (by omega), decide_eq_false (by omega)])
        have H34 : Hid (∀ w1, Calls Tryd.prog 34 #[.int .u8 (L : Int)] w1 _) := Lib.hid fun w1 => packfile_isCopyFromDelta.calls (L : Int) true w1 (fromDelta L (by omega) hL1)
        have H32 : Hid (∀ w1, Calls Tryd.prog 32 #[.int .u64 (L : Int), .int .u64 (rem : Int)] w1 _) := Lib.hid fun w1 => packfile_invalidSize.calls (L : Int) (rem : Int) false w1 (fineSize L rem hlt)
        have HLim : Hid (pre.length + L ≤ 140737488355328) := Lib.hid (by omega)
        have HW20 : Hid (∀ w1, Below wr.heap.size wr w1 → Calls Tryd.prog 20 #[.pointer (some ⟨b, 0, none⟩), .slice AT L c8] w1 _) := Lib.hid fun w1 hB => write_calls b r pre bs AT L c8 w1 (HP.out.below hB).bf (Kd.F_now (Kd.V_F (Kd.V_below HVT.out hB))) (fun a ha => by subst ha; have := V_block HVT.out hL1; omega) HLim.out
        clear hmk hen hV0 hn7 hn7' hb1 hb2 hV8 hVT hV9 hL hpl hg hn8 hc8 hn9 hc9 hrem
        go_wp2_with (go_at_call 29; refine (H29.out _).mono ?_; rintro e w1 ⟨rfl, hd⟩; have HD1 := Lib.hid hd.below; clear hd; refine Hid.out ?_)
        refine Lib.hid ?_
        go_wp2_with (go_at_call 34; refine (H34.out _).mono ?_; rintro e w4 ⟨rfl, hd⟩; have HD4 := Lib.hid (HD1.out.trans (hd.below.mono HD1.out.size)); clear hd; refine Hid.out ?_)
        refine Lib.hid ?_
        go_wp2_with (go_at_call 32; refine (H32.out _).mono ?_; rintro e w5 ⟨rfl, hd⟩; have HD5 := Lib.hid (HD4.out.trans (hd.below.mono HD4.out.size)); clear hd; refine Hid.out ?_)
        have HC := Lib.hid (HW20.out w5 HD5.out)
        refine Lib.hid ?_
        go_wp2_with (go_at_call 20; refine HC.out.mono ?_; rintro e w6 ⟨rfl, r6, hr6, hb6, hk6⟩; have HR6 := Lib.hid hr6; have HB6 := Lib.hid hb6; have HK6 := Lib.hid hk6; clear hr6 hb6 hk6; refine Hid.out ?_)
        refine Lib.hid ?_
        go_wp2
        obtain ⟨g, hgg⟩ : ∃ g, gk = g + 1 := ⟨ops.length, HG.out⟩
        go_roundg g
        case measure => omega
        case rel => exact ⟨A9, n9, c9, rem - L, rfl, congrArg (Value.int .u64) (by omega), h9b, ⟨ops, pre ++ bs, r6, by have := HG.out; omega, by rw [List.length_append, ← HL.out]; have := HRem.out; omega, HP.out.step HD5.out (Kd.V_below HV9.out HD5.out) HR6.out HB6.out HK6.out HB0.out (fun op h => HP.out.good op (List.mem_cons_of_mem _ h)) (by rw [← HP.out.made]; simp [makes, Op.make])⟩⟩
      | copy o k =>
        obtain ⟨hk1, hk2, hok⟩ := HP.out.good (.copy o k) (by simp)
        have hok0 := hok
        rw [← HN.out.1] at hok
        have hml : (((src.drop o).take k)).length = k := by rw [List.length_take, List.length_drop, ← HN.out.1]; omega
        have hmk : (makes src (.copy o k :: ops)).length = k + (makes src ops).length := by
          simp only [makes, List.flatMap_cons, Op.make, List.length_append]
          rw [hml]
        have hbits := code_bits o k
        obtain ⟨C, hC⟩ : ∃ C, C = codeOf o k := ⟨_, rfl⟩
        have hcb := code_bound o k
        rw [← hC] at hcb hbits
        obtain ⟨t0, t1, t2, t3, t4, t5, t6⟩ := hbits
        have hbo : ∀ i, i < 4 → C / 2 ^ (0 + i) % 2 = nz (at8 o i) := by
          intro i hi
          rcases (by omega : i = 0 ∨ i = 1 ∨ i = 2 ∨ i = 3) with rfl | rfl | rfl | rfl
          · exact t0
          · exact t1
          · exact t2
          · exact t3
        have hbz : ∀ i, i < 3 → C / 2 ^ (4 + i) % 2 = nz (at8 k i) := by
          intro i hi
          rcases (by omega : i = 0 ∨ i = 1 ∨ i = 2) with rfl | rfl | rfl
          · exact t4
          · exact t5
          · exact t6
        clear t0 t1 t2 t3 t4 t5 t6
        have hen : encs (.copy o k :: ops) = (C : Int) :: (argsOf o k ++ encs ops) := by rw [hC]; simp [encs, Op.enc, copyBytes]
        have hV0 := HP.out.rest
        rw [hen, left4] at hV0
        rw [hen, left4] at hn7
        have hlt : k ≤ rem := by omega
        have hrm : rem ≤ m := by omega
        have p7 : 1 ≤ n7 := by rw [hn7]; simp
        obtain ⟨ad, e, hcell⟩ := Kd.at_int (Kd.V_reads' hV0).2.2 0 (by omega) (by rw [← hn7]; omega)
        subst e
        rw [show ((0 : Int)).toNat = 0 from rfl, Addr.add_zero', rd_zero] at hcell
        obtain ⟨A8, hcut8, hV8⟩ := V_from hV0 .i64 1 1 rfl (by omega)
        obtain ⟨n8, hn8⟩ : ∃ k, k = n7 - 1 := ⟨_, rfl⟩
        obtain ⟨c8, hc8⟩ : ∃ k, k = c7 - 1 := ⟨_, rfl⟩
        rw [← hn8, ← hc8] at hcut8 hV8
        rw [show ((C : Int) :: (left o 4 4 ++ (left k 3 3 ++ encs ops))).drop 1 = left o 4 4 ++ (left k 3 3 ++ encs ops) from rfl] at hV8
        obtain ⟨AM, hcutM, hCM, hAM⟩ := C_midu (A := As) HI.out.2.2.2.1 o k hok0
        rw [← HN.out.1] at hcutM
        have HV8 := Lib.hid hV8
        have h8b : n8 ≤ 2000000 := by omega
        have h8l : (left k 3 3 ++ encs ops).length ≤ n8 := by have h := (Kd.V_at hV8).1; rw [List.length_append] at h; omega
        have H8l := Lib.hid h8l
        have z7 : ((n7 : Int) == 0) = false := by rw [beq_eq_false_iff_ne]; omega
        have HG := Lib.hid (show gk = ops.length + 1 from hg)
        have HRem := Lib.hid hrem
        have HMl := Lib.hid hml
        have hC1 : C < 256 := hcb.2
        have H29 : Hid (∀ w1, Calls Tryd.prog 29 #[.int .u8 (C : Int)] w1 _) := Lib.hid fun w1 => packfile_isCopyFromSrc.calls (C : Int) true w1 (by rw [fromSrc C hC1, decide_eq_true hcb.1])
        have H32 : Hid (∀ w1, Calls Tryd.prog 32 #[.int .u64 (k : Int), .int .u64 (rem : Int)] w1 _) := Lib.hid fun w1 => packfile_invalidSize.calls (k : Int) (rem : Int) false w1 (fineSize k rem hlt)
        have H33 : Hid (∀ w1, Calls Tryd.prog 33 #[.int .u64 (o : Int), .int .u64 (k : Int), .int .u64 (n : Int)] w1 _) := Lib.hid fun w1 => packfile_invalidOffsetSize.calls (o : Int) (k : Int) (n : Int) false w1 (fineOff o k n hok l0)
        have H30 : Hid (∀ w1, Below wr.heap.size wr w1 → Calls Tryd.prog 30 #[.int .u8 (C : Int), .slice A8 n8 c8] w1 (fun e w' => ∃ A' n' c', e = .returned (.tuple #[.int .u64 (o : Int), .slice A' n' c', .nilIface]) ∧ Kd.V (Kd.int .u8) 5 w' 0 (fun j => j < b) (.slice A' n' c') (left k 3 3 ++ encs ops) ∧ Below w1.heap.size w1 w')) := Lib.hid fun w1 hB => by
          have := decOffset_calls A8 n8 c8 C o (left k 3 3 ++ encs ops) 0 (fun j => j < b) w1 (HT.out.1 w1 (HP.out.below hB).keep) hC1 hbo (Kd.V_below HV8.out hB) (by omega)
          rw [low4 o (by omega)] at this
          exact this
        have H31 : Hid (∀ (A' : Option Addr) (n' c' : Nat) (w1 : World), Below wr.heap.size wr w1 → Kd.V (Kd.int .u8) 5 w1 0 (fun j => j < b) (.slice A' n' c') (left k 3 3 ++ encs ops) → Calls Tryd.prog 31 #[.int .u8 (C : Int), .slice A' n' c'] w1 (fun e w' => ∃ A'' n'' c'', e = .returned (.tuple #[.int .u64 (k : Int), .slice A'' n'' c'', .nilIface]) ∧ Kd.V (Kd.int .u8) 5 w' 0 (fun j => j < b) (.slice A'' n'' c'') (encs ops) ∧ Below w1.heap.size w1 w')) := Lib.hid fun A' n' c' w1 hB hV => by
          have hle := (Kd.V_at hV).1
          have := decSize_calls A' n' c' C k (encs ops) 0 (fun j => j < b) w1 (HT.out.2 w1 (HP.out.below hB).keep) hC1 hbz (by rw [low3 k (by omega)]; omega) hV (by omega)
          rw [low3 k (by omega)] at this
          exact this
        have HLim : Hid (pre.length + k ≤ 140737488355328) := Lib.hid (by omega)
        have HW20 : Hid (∀ w1, Below wr.heap.size wr w1 → Calls Tryd.prog 20 #[.pointer (some ⟨b, 0, none⟩), .slice AM k (cs - o)] w1 _) := Lib.hid fun w1 hB => write_calls b r pre ((src.drop o).take k) AM k (cs - o) w1 (HP.out.below hB).bf (hCM w1 (HI.out.2.2.1.keep (HP.out.below hB).keep (fun a ha => by have := HI.out.2.2.2.2 a ha; omega))) (fun a ha => by obtain ⟨a0, h1, h2⟩ := hAM a ha; have := HI.out.2.2.2.2 a0 h1; omega) HLim.out
        clear hmk hen hV0 hn7 hV8 hpl hg hn8 hc8 hrem hbo hbz hCM hAM hcb hC hml h8l hok0 HV8
        go_wp2_with (go_at_call 29; refine (H29.out _).mono ?_; rintro e w1 ⟨rfl, hd⟩; have HD1 := Lib.hid hd.below; clear hd; refine Hid.out ?_)
        have HC30 := Lib.hid (H30.out w1 HD1.out)
        refine Lib.hid ?_
        go_wp2_with (go_at_call 30; refine HC30.out.mono ?_; rintro e w3 ⟨A3, n3, c3, rfl, hv, hd⟩; have HV3 := Lib.hid hv; have HD3 := Lib.hid (HD1.out.trans (hd.mono HD1.out.size)); clear hv hd; refine Hid.out ?_)
        have HC31 := Lib.hid (H31.out A3 n3 c3 w3 HD3.out HV3.out)
        refine Lib.hid ?_
        go_wp2_with (go_at_call 31; refine HC31.out.mono ?_; rintro e w4 ⟨A4, n4, c4, rfl, hv, hd⟩; have HV4 := Lib.hid hv; have HD4 := Lib.hid (HD3.out.trans (hd.mono HD3.out.size)); clear hv hd; refine Hid.out ?_)
        have h4b : n4 ≤ 2000000 := by have h1 := (Kd.V_at HV4.out).1; have h2 := H8l.out; rw [List.length_append] at h2; omega
        clear HC30 HC31 H30 H31 HV3
        refine Lib.hid ?_
        go_wp2_with (go_at_call 32; refine (H32.out _).mono ?_; rintro e w5 ⟨rfl, hd⟩; have HD5 := Lib.hid hd.below; clear hd; refine Hid.out ?_)
        refine Lib.hid ?_
        go_wp2_with (go_at_call 33; refine (H33.out _).mono ?_; rintro e w7 ⟨rfl, hd⟩; have HD7 := Lib.hid hd.below; clear hd; refine Hid.out ?_)
        have HD8 := Lib.hid (HD5.out.trans (HD7.out.mono HD5.out.size))
        have HD9 := Lib.hid (HD4.out.trans (HD8.out.mono HD4.out.size))
        have HC := Lib.hid (HW20.out w7 HD9.out)
        refine Lib.hid ?_
        go_wp2_with (go_at_call 20; refine HC.out.mono ?_; rintro e w6 ⟨rfl, r6, hr6, hb6, hk6⟩; have HR6 := Lib.hid hr6; have HB6 := Lib.hid hb6; have HK6 := Lib.hid hk6; clear hr6 hb6 hk6; refine Hid.out ?_)
        refine Lib.hid ?_
        go_wp2
        obtain ⟨g, hgg⟩ : ∃ g, gk = g + 1 := ⟨ops.length, HG.out⟩
        go_roundg g
        case measure => omega
        case rel => exact ⟨A4, n4, c4, rem - k, rfl, congrArg (Value.int .u64) (by omega), h4b, ⟨ops, pre ++ (src.drop o).take k, r6, by have := HG.out; omega, by rw [List.length_append, HMl.out]; have := HRem.out; omega, HP.out.step HD9.out (Kd.V_below HV4.out HD8.out) HR6.out HB6.out HK6.out HB0.out (fun op h => HP.out.good op (List.mem_cons_of_mem _ h)) (by rw [← HP.out.made]; simp [makes, Op.make])⟩⟩
end Go.Proofs.YtkknoionjppegaaDoor.Delta
