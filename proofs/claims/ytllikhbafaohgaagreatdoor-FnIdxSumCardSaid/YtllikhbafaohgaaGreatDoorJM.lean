/- The law walked. -/
import Derived.Test.YtllikhbafaohgaaGreatDoorJI
import Derived.Test.YtllikhbafaohgaaGreatDoorJD
import Derived.Test.YtllikhbafaohgaaGreatDoorJK
import Derived.Test.YtllikhbafaohgaaGreatDoorJJ
namespace Go.Proofs.YtllikhbafaohgaaGreatDoor.Idx
open Go.RowKit Go.Proofs.YtllikhbafaohgaaGreatDoorW.PrintWords Go.Proofs.YtllikhbafaohgaaGreatDoorW.PrintLast Go.Proofs.YtllikhbafaohgaaGreatDoorW.PrintMore Go.Proofs.YtllikhbafaohgaaGreatDoor.PFnIdxSum
set_option linter.unusedVariables false
set_option linter.unusedSimpArgs false

theorem Errs.below {w w' : World} {a0 a1 a2 a7 : Addr} (h : Errs w a0 a1 a2 a7) (k : Below w.heap.size w w') : Errs w' a0 a1 a2 a7 := by
  have hb : ∀ (a : Addr), (∃ c t, w.heap[a.block]? = some (.cells c t (0, 0))) → a.block < w.heap.size := fun a ⟨_, _, h⟩ => lt_of_block h
  exact h.keep (B := w.heap.size) (Keep.of_below k (fun _ => False)) (fun _ h => h.elim) h.l22 (hb _ h.b0) (hb _ h.b1) (hb _ h.b2)
theorem xor_ne : ∀ {x y : Int}, 0 ≤ x → x < 256 → 0 < y → y < 256 → Go.bits .xor .u8 x y ≠ x := by
  intro x y hx0 hx1 hy0 hy1 h
  have h2 : BitVec.ofInt 8 x ^^^ BitVec.ofInt 8 y = BitVec.ofInt 8 x := by
    apply BitVec.eq_of_toNat_eq
    have e : Go.bits .xor .u8 x y = ((BitVec.ofInt 8 x ^^^ BitVec.ofInt 8 y).toNat : Int) := by
      unfold Go.bits
      simp only [IntKind.wrap, IntKind.bits, IntKind.signed]
      have := (BitVec.ofInt 8 x ^^^ BitVec.ofInt 8 y).isLt
      show ((BitVec.ofInt 8 x ^^^ BitVec.ofInt 8 y).toNat : Int) % 256 = _
      omega
    have e2 : ((BitVec.ofInt 8 x).toNat : Int) = x := by
      rw [BitVec.toNat_ofInt]
      show ((x % 256).toNat : Int) = x
      omega
    rw [e] at h
    omega
  have h3 : BitVec.ofInt 8 y = 0 := by
    have := congrArg (fun z => BitVec.ofInt 8 x ^^^ z) h2
    simpa [← BitVec.xor_assoc] using this
  have h4 : ((BitVec.ofInt 8 y).toNat : Int) = y := by
    rw [BitVec.toNat_ofInt]
    show ((y % 256).toNat : Int) = y
    omega
  rw [h3] at h4
  simp at h4
  omega
theorem wrap_small {z : Nat} (h : z ≤ 16777215) : IntKind.i64.wrap (z : Int) = (z : Int) := by
  rw [i64_w]
  unfold wrap64
  omega
theorem and_low (x : Int) : ∃ an : Nat, Go.bits .and .i64 x 16777215 = (an : Int) ∧ an ≤ 16777215 := by
  have h1 : (BitVec.ofInt 64 x &&& BitVec.ofInt 64 16777215).toNat ≤ 16777215 := by
    rw [BitVec.toNat_and]
    exact Nat.le_trans Nat.and_le_right (by decide)
  refine ⟨(BitVec.ofInt 64 x &&& BitVec.ofInt 64 16777215).toNat, ?_, h1⟩
  exact wrap_small h1
theorem pick_place (x : Int) (m : Nat) (hm : 0 < m) : ∃ kn : Nat, (Go.bits .and .i64 x 16777215).tmod (m : Int) = (kn : Int) ∧ kn < m ∧ kn ≤ 16777215 := by
  obtain ⟨an, h1, h2⟩ := and_low x
  refine ⟨an % m, ?_, Nat.mod_lt _ hm, Nat.le_trans (Nat.mod_le _ _) h2⟩
  rw [h1, Int.tmod_eq_emod_of_nonneg (by omega)]
  rfl
theorem indexB_small {fl : List (List Int × Nat)} (hF : ∀ x ∈ fl, FileB x.1 x.2) (hn : fl.length ≤ 1000) : (indexB fl).length ≤ 5000000 := by
  have h1 := indexB_len fl
  have h2 := posOf_all fl
  have h3 := flat_len hF
  have h4 : (bodyB fl).length = 12 + (flat fl).length := by unfold bodyB; rw [List.length_append, headB_length]
  have h5 : 4070 * fl.length ≤ 4070 * 1000 := Nat.mul_le_mul_left _ hn
  omega
theorem src_of {w0 w : World} {g m c : Nat} {D : List Int} (h : OwnB w0 w (.slice (some ⟨g, 0, none⟩) m c) D) (hm : m = D.length) (hc : m ≤ c) (hs : m ≤ 5000000) (hb : ∀ y ∈ D, 0 ≤ y ∧ y < 256) (h22 : 22 ≤ w.heap.size) : Src w ⟨g, 0, none⟩ m c D :=
  ⟨hm.symm, hc, by omega, hb, own_start h hm, q_lt (q_of_own h.row) g rfl, h22⟩
theorem own_cell {w0 w : World} {g m c : Nat} {D : List Int} (h : OwnB w0 w (.slice (some ⟨g, 0, none⟩) m c) D) (hm : m = D.length) {k : Nat} {y : Int} (hy : D[k]? = some y) : w.cell? ⟨g, k, none⟩ = some (.int .u8 y) ∧ w.frozen? ⟨g, k, none⟩ = false := by
  have h1 := own_start h hm k (.int .u8 y) (by unfold nums; rw [List.getElem?_map, hy]; rfl)
  rw [add_off, Nat.zero_add] at h1
  obtain ⟨_, cs, hc⟩ := q_typed (q_of_own h.row) g rfl
  exact ⟨h1, frozen_of hc k⟩
theorem own_set {w0 w : World} {g m c : Nat} {D : List Int} (h : OwnB w0 w (.slice (some ⟨g, 0, none⟩) m c) D) (hm : m = D.length) (k : Nat) (y : Int) : OwnB w0 (w.setCell ⟨g, k, none⟩ (.int .u8 y)) (.slice (some ⟨g, 0, none⟩) m c) (D.set k y) := by
  subst hm
  obtain ⟨h1, h2⟩ := own_store (k := .u8) (xs := D) (n := D.length) h.row (k : Int) y
  rw [Int.toNat_natCast] at h1 h2
  exact h.grow h2 (by rw [List.length_set]; exact h1)
def lawTb : Bool × List (List Nat × List Nat) := (true, [([], []), ([], []), ([0, 1], [0, 1]), ([2], [2]), ([3], [3]), ([], []), ([], []), ([5, 6], [5, 6]), ([7], [7]), ([4, 8], [4, 8])])
def lawBs : List Nat := [0, 0, 3, 7, 15, 0, 0, 96, 224, 511]
theorem lawT : rtab .any (opsOf Tryz.f3 12) = lawTb := by kernel_rfl
theorem lawW : waitsOk lawTb.2 lawBs = true := by kernel_rfl
theorem tail_conv {w0 w : World} {g m c E : Nat} {D : List Int} {TL : ByteArray} (h : OwnB w0 w (.slice (some ⟨g, 0, none⟩) m c) D) (hm : m = D.length) (hE : m = E + 20) (hT : TL = strOfNums (D.drop E)) : Sem.run Tryz.prog (convert 24 9 (.slice (some ⟨g, E, none⟩) 20 (c - E))) w = .ok (.string TL) w := by
  rw [hT]
  refine string_of_reads Tryz.underlying24 Tryz.underlying5 Tryz.underlying9 ⟨by rw [List.length_drop]; omega, by omega, fun _ => ⟨⟨g, E, none⟩, rfl, fun j hj => ?_⟩⟩
  have hlt : E + j < D.length := by omega
  have := own_start h hm (E + j) (.int .u8 D[E + j]) (by unfold nums; rw [List.getElem?_map, List.getElem?_eq_getElem hlt]; rfl)
  rw [add_off, Nat.zero_add] at this
  rw [add_off, this, List.getD_eq_getElem?_getD, List.getElem?_drop, List.getElem?_eq_getElem hlt]
  rfl
theorem q_conv {w : World} {base n c : Nat} {A : Option Addr} {D : List Int} (h : QRow w base 5 1 (.slice A n c) n (nums .u8 D)) (hn : D.length = n) (h0 : 0 < n) (hs : n ≤ 1000000) : Sem.run Tryz.prog (convert 24 9 (.slice A n c)) w = .ok (.string (strOfNums D)) w := by
  obtain ⟨ad, rfl, hc⟩ := q_cells h h0
  refine string_of_reads Tryz.underlying24 Tryz.underlying5 Tryz.underlying9 ⟨hn, by omega, fun _ => ⟨ad, rfl, fun j hj => ?_⟩⟩
  refine hc j _ ?_
  unfold nums
  rw [List.getElem?_map, List.getElem?_eq_getElem (by omega), List.getD_eq_getElem?_getD, List.getElem?_eq_getElem (by omega)]
  rfl
theorem head_cut (g m c E : Nat) (hE : E ≤ m) (hc : m ≤ c) (W : World) : (Instr.slice 24 (.slice (some ⟨g, 0, none⟩) m c) none (some (.int .i64 (E : Int))) none).run Tryz.prog W = .ok (.slice (some ⟨g, 0, none⟩) E c) W := by
  obtain ⟨i0, hi, _, hsz, _⟩ := info_parts PFnIdxSum.info5
  have := (print_take_int (P := Tryz.prog) (k := .u8) 24 5 Tryz.underlying24 hi hsz (some ⟨g, 0, none⟩) c (List.replicate m 0) (E : Int) (by omega) (by rw [List.length_replicate]; omega) (by rw [List.length_replicate]; exact hc)).1 W
  rw [List.length_replicate, List.length_take, List.length_replicate, Int.toNat_natCast, Nat.min_eq_left hE] at this
  exact this
theorem OwnB.take {w0 w : World} {g m c E : Nat} {D : List Int} (h : OwnB w0 w (.slice (some ⟨g, 0, none⟩) m c) D) (hm : m = D.length) (hE : E ≤ m) : Kd.C (Kd.int .u8) w (some ⟨g, 0, none⟩) E (D.take E) := by
  refine Kd.C_of_reads (d := (0 : Int)) ⟨by rw [List.length_take]; omega, ?_, fun _ => ⟨⟨g, 0, none⟩, rfl, fun j hj => ?_⟩⟩
  · have := q_max (q_of_own h.row)
    omega
  · have hlt : j < D.length := by omega
    have := own_start h hm j (.int .u8 D[j]) (by unfold nums; rw [List.getElem?_map, List.getElem?_eq_getElem hlt]; rfl)
    rw [this, List.getD_eq_getElem?_getD, List.getElem?_take_of_lt hj, List.getElem?_eq_getElem hlt]
    rfl
set_option maxHeartbeats 32000000 in
set_option maxRecDepth 100000 in
theorem law_calls {w : World} {A0 : Option Addr} {c0 : Nat} {l0 : List S35} {at_ by_ : Int} {a0 a1 a2 a7 : Addr} (hr0 : Kd.C k35 w A0 l0.length l0) (hc0 : l0.length ≤ c0) (hby0 : 0 ≤ by_) (hby1 : by_ < 256) (E : Errs w a0 a1 a2 a7) :
    Calls Tryz.prog 3 #[.slice A0 l0.length c0, .int .i64 at_, .int .u8 by_] w fun e w' => e = .returned (.bool true) ∧ Below w.heap.size w w' := by
  obtain ⟨r0, hev, hfit⟩ := fits17 l0
  obtain ⟨k17, hk17⟩ := hev.rounds
  have HC4 := Aside0.mk (laws_zzFits17.calls k17 A0 c0 l0 r0 w hr0 hc0 hk17)
  obtain ⟨n, hn⟩ : ∃ n, n = l0.length := ⟨_, rfl⟩
  rw [← hn] at hr0 HC4 ⊢
  have HR := Aside0.mk hr0
  have HE := Aside0.mk E
  have HL := Aside0.mk hn
  have HBy := Aside0.mk (⟨hby0, hby1⟩ : _ ∧ _)
  clear hr0 hc0 hby0 hby1 E hev hk17 hn
  cases r0 with
  | false =>
    go_enter Tryz.func3, Tryz.ntmps3
    go_wp2_with (go_at_call 4; refine HC4.out.mono ?_; rintro e w2 ⟨rfl, hb2⟩)
    go_ret
    exact ⟨rfl, hb2⟩
  | true =>
  have HF := Aside0.mk (hfit rfl)
  clear hfit
  have HC5 : Aside0 (∀ W, Below w.heap.size w W → Calls Tryz.prog 5 #[.slice A0 n c0] W fun e w' => ∃ v, e = .returned v ∧ Below W.heap.size W w' ∧ AreSays v n l0) := ⟨fun W hW => areFiles_calls (Kd.C_below HR.out hW) HL.out.symm (by have := HF.out.1; have := HL.out; omega) HF.out.2⟩
  go_enter Tryz.func3, Tryz.ntmps3
  go_wp2_with (first | (go_at_call 4; refine HC4.out.mono ?_; rintro e w2 ⟨rfl, hb2⟩; have HB2 := Aside0.mk hb2; clear hb2) | (go_at_call 5; refine (HC5.out _ HB2.out).mono ?_; rintro e w3 ⟨v, rfl, hb3, r, rfl, hr3⟩; have HB3 : Aside0 (Below w.heap.size w w3) := ⟨HB2.out.trans (hb3.mono HB2.out.size)⟩; clear hb3; refine Aside0.out ?_))
  cases r with
  | false =>
    refine Aside0.mk ?_
    go_wp2_with fail
    go_ret
    exact ⟨rfl, HB3.out⟩
  | true =>
  have HT := Aside0.mk (hr3 rfl)
  clear hr3
  by_cases hz : by_ = 0
  · have z1 : (by_ == 0) = true := beq_iff_eq.2 hz
    have z2 : decide (by_ = 0) = true := decide_eq_true hz
    refine Aside0.mk ?_
    go_wp2_with fail
    go_ret
    exact ⟨rfl, HB3.out⟩
  have z1 : (by_ == 0) = false := beq_eq_false_iff_ne.2 hz
  have z2 : decide (by_ = 0) = false := decide_eq_false hz
  have HZ := Aside0.mk hz
  have HC6 := Aside0.mk (indexBytes_calls (c0 := c0) (Kd.C_below HR.out HB3.out) HL.out.symm HT.out.1 HT.out.2)
  clear HC4 HC5 HF
  refine Aside0.mk ?_
  go_upto_region 6 with (first | (go_at_call 6; refine HC6.out.mono ?_; rintro e w4 ⟨fl, g, m, c, rfl, hm, hmc, ho4, hFB, hmap⟩; have HM := Aside0.mk (⟨hm, hmc⟩ : _ ∧ _); have HO4 := Aside0.mk ho4; have HFB := Aside0.mk (⟨hFB, hmap⟩ : _ ∧ _); clear hm hmc ho4 hFB hmap))
  have hm0 : 20 ≤ m := by have := HM.out.1; have := indexB_len fl; omega
  have hmI : (m : Int) ≠ 0 := by omega
  have hmN : ¬ (m = 0) := by omega
  have hmb : ((m : Int) == 0) = false := beq_eq_false_iff_ne.2 hmI
  have hmd : decide ((m : Int) = 0) = false := decide_eq_false hmI
  clear z1 z2 hz HC6
  go_upto_region 7 with (fail)
  obtain ⟨kn, hkn, hkm, hk16⟩ := pick_place at_ m (by omega)
  rw [hkn]
  have HB4 : Aside0 (Below w.heap.size w w4) := ⟨HB3.out.trans (HO4.out.below.mono HB3.out.size)⟩
  have HC7 := Aside0.mk (idxFixed_calls (k := (kn : Int)) (c0 := c0) (Kd.C_below HR.out HB4.out) HL.out.symm HT.out.1 HT.out.2 (by omega) (by omega))
  have HK := Aside0.mk (⟨hkm, hm0⟩ : _ ∧ _)
  clear hkn hmI hmN hmb hmd
  go_wp2_with (go_at_call 7; refine HC7.out.mono ?_; rintro e w5 ⟨v, rfl, hb5, r, rfl, hr5⟩; have HB5 := Aside0.mk hb5; clear hb5; refine Aside0.out ?_)
  cases r with
  | false =>
    refine Aside0.mk ?_
    go_wp2_with fail
    go_ret
    exact ⟨rfl, HB4.out.trans (HB5.out.mono HB4.out.size)⟩
  | true =>
  have HFx := Aside0.mk (hr5 rfl)
  clear hr5 HC7
  have hcnt : fl.length = n := by
    have := congrArg List.length HFB.out.2
    rw [List.length_map, List.length_map] at this
    exact this.trans HL.out.symm
  have HCnt : Aside0 (fl.length = n ∧ fl.length ≤ 1000) := ⟨hcnt, by have := HT.out.1; omega⟩
  have hsm := indexB_small HFB.out.1 HCnt.out.2
  have HSm : Aside0 (m ≤ 5000000) := ⟨by have := HM.out.1; omega⟩
  have HO5 := Aside0.mk (HO4.out.step HB5.out)
  have HE5 : Aside0 (Errs w5 a0 a1 a2 a7) := ⟨HE.out.below (HB4.out.trans (HB5.out.mono HB4.out.size))⟩
  have hhead := indexB_head fl HCnt.out.2
  have HC8 := Aside0.mk (decodeIndex_fine (src_of HO5.out HM.out.1 HM.out.2 HSm.out (indexB_byte fl HFB.out.1) HE5.out.l22) HE5.out hhead.1 hhead.2.1 hhead.2.2 HCnt.out.2 (by have := indexB_lay fl HFB.out.1; rwa [← HM.out.1] at this) (posOf_zero fl) (by rw [indexB_len]; exact HM.out.1.symm) (indexB_sum fl))
  clear hhead hsm hcnt
  refine Aside0.mk ?_
  go_upto_region 10 with (go_at_call 8; refine HC8.out.mono ?_; rintro e w6 ⟨⟨u, v, rfl⟩, hb6⟩; have HB6 := Aside0.mk hb6; clear hb6)
  obtain ⟨y, hy⟩ : ∃ y, (indexB fl)[kn]? = some y := ⟨_, List.getElem?_eq_getElem (by have := HM.out.1; omega)⟩
  have HY := Aside0.mk hy
  have HO6 := Aside0.mk (HO5.out.step HB6.out)
  obtain ⟨cy, fy⟩ := own_cell HO6.out HM.out.1 hy
  have dk : decide (kn < m) = true := decide_eq_true hkm
  have dk' : decide ((kn : Int) < (m : Int)) = true := decide_eq_true (by omega)
  have dk0 : (0 : Int) ≤ (kn : Int) := by omega
  clear hy HC8
  go_upto_region 12 with (fail)
  obtain ⟨E, hE⟩ : ∃ E, m = E + 20 := ⟨m - 20, by omega⟩
  have hw : wrap64 ((m : Int) - 20) = (E : Int) := by have := HSm.out; unfold wrap64; omega
  rw [hw]
  obtain ⟨W7, hW7⟩ : ∃ W7, W7 = w6.setCell ⟨g, kn, none⟩ (.int .u8 (Go.bits .xor .u8 y by_)) := ⟨_, rfl⟩
  rw [← hW7]
  obtain ⟨D', hD'⟩ : ∃ D', D' = (indexB fl).set kn (Go.bits .xor .u8 y by_) := ⟨_, rfl⟩
  have HD' := Aside0.mk hD'
  have HO7 : Aside0 (OwnB w3 W7 (.slice (some ⟨g, 0, none⟩) m c) D') := ⟨by rw [hW7, hD']; exact own_set HO6.out HM.out.1 kn _⟩
  have hDl : m = D'.length := by rw [hD', List.length_set]; exact HM.out.1
  have HDl := Aside0.mk (⟨hDl, hE⟩ : _ ∧ _)
  obtain ⟨TL, hTL⟩ : ∃ TL, TL = strOfNums (D'.drop E) := ⟨_, rfl⟩
  obtain ⟨SL, hSL⟩ : ∃ SL, SL = strOfNums (sha1Of (D'.take E)) := ⟨_, rfl⟩
  have HTL := Aside0.mk hTL
  have HSL := Aside0.mk hSL
  have hs1 := head_cut g m c E (by omega) HM.out.2
  have hs2 : ∀ W : World, (Instr.slice 24 (.slice (some ⟨g, 0, none⟩) m c) (some (.int .i64 (E : Int))) none none).run Tryz.prog W = .ok (.slice (some ⟨g, E, none⟩) 20 (c - E)) W := by
    have := cut_row g 0 m c E (by omega) HM.out.2
    rwa [Nat.zero_add, show m - E = 20 by omega] at this
  have k7 := tail_conv (w := W7.drew) ⟨HO7.out.row, ⟨HO7.out.below.os, HO7.out.below.tape, HO7.out.below.output, HO7.out.below.size, HO7.out.below.block⟩⟩ hDl hE hTL
  have HC9 : Aside0 (Calls Tryz.prog 9 #[.slice (some ⟨g, 0, none⟩) E c] W7.drew fun e w' => ∃ v, e = .returned v ∧ Sem.run Tryz.prog (convert 24 9 v) w' = .ok (.string SL) w' ∧ Below W7.heap.size W7 w') := ⟨by
    refine (sha1_calls (w := W7.drew) (c := c) (OwnB.take (w := W7.drew) ⟨HO7.out.row, ⟨HO7.out.below.os, HO7.out.below.tape, HO7.out.below.output, HO7.out.below.size, HO7.out.below.block⟩⟩ hDl (by omega)) (by rw [List.length_take]; omega) (by have := HSm.out; omega)).mono fun e w' ⟨v, h1, h2, h3⟩ => ?_
    obtain ⟨A, q, hv, _⟩ := q_slice h2
    subst hv
    exact ⟨_, h1, by rw [hSL]; exact q_conv h2 (sha1Of_len _) (by omega) (by omega), ⟨h3.os, h3.tape, h3.output, h3.size, h3.block⟩⟩⟩
  obtain ⟨eb, heb⟩ : ∃ eb : Bool, (SL.toList == TL.toList) = eb := ⟨_, rfl⟩
  have HE6 := Aside0.mk (HE5.out.below HB6.out)
  have HB67 : Aside0 (Below w3.heap.size w3 W7) := ⟨HO7.out.below⟩
  clear hW7 hD' hDl hE hTL hSL hw cy fy dk dk' dk0
  refine start_ (n := 10) (S := fun w' => Sem.run Tryz.prog (convert 24 9 (.slice (some ⟨g, E, none⟩) 20 (c - E))) w' = .ok (.string TL) w') (ds := []) #[false, false, false, false, false, false, false, false, false, false] (by kernel_rfl) rfl rfl k7 (fun hHeld => ?_); refine with_tabW lawT lawW (fun HT_ HW_ => ?_)
  generalize W7.drew = w7 at HC9 hHeld ⊢
  refine pure_ (i := 0) (N := some 53) (v := ?_) (a' := ?_) #[true, false, false, false, false, false, false, false, false, false] rfl rfl (any_of HT_.out (by kernel_rfl)) (fun _ _ _ h => h) (Or.inl ⟨by rfl, ?_⟩) ?_ ?_
  rotate_left
  · intro w'
    go_simp
    with_reducible rfl
  rotate_left
  · simp only [Act.put, List.setIfInBounds_toArray, List.set_cons_zero, List.set_cons_succ, i64_w, i32_w]
    rfl
  refine pure_ (i := 1) (N := some 54) (v := ?_) (a' := ?_) #[true, true, false, false, false, false, false, false, false, false] rfl rfl (any_of HT_.out (by kernel_rfl)) (fun _ _ _ h => h) (Or.inl ⟨by rfl, ?_⟩) ?_ ?_
  rotate_left
  · intro w'
    go_simp
    with_reducible rfl
  rotate_left
  · simp only [Act.put, List.setIfInBounds_toArray, List.set_cons_zero, List.set_cons_succ, i64_w, i32_w]
    rfl
  refine pure_ (i := 2) (N := some 55) (v := ?_) (a' := ?_) #[true, true, true, false, false, false, false, false, false, false] rfl rfl (any_of HT_.out (by kernel_rfl)) (fun _ _ _ h => h) (Or.inl ⟨by rfl, ?_⟩) ?_ ?_
  rotate_left
  · intro w'
    go_simp
    with_reducible rfl
  rotate_left
  · simp only [Act.put, List.setIfInBounds_toArray, List.set_cons_zero, List.set_cons_succ, i64_w, i32_w]
    rfl
  refine pure_ (i := 5) (N := some 58) (v := ?_) (a' := ?_) #[true, true, true, false, false, true, false, false, false, false] rfl rfl (any_of HT_.out (by kernel_rfl)) (fun _ _ _ h => h) (Or.inl ⟨by rfl, ?_⟩) ?_ ?_
  rotate_left
  · intro w'
    go_simp
    with_reducible rfl
  rotate_left
  · simp only [Act.put, List.setIfInBounds_toArray, List.set_cons_zero, List.set_cons_succ, i64_w, i32_w]
    rfl
  refine pure_ (i := 6) (N := some 59) (v := ?_) (a' := ?_) #[true, true, true, false, false, true, true, false, false, false] rfl rfl (any_of HT_.out (by kernel_rfl)) (fun _ _ _ h => h) (Or.inl ⟨by rfl, ?_⟩) ?_ ?_
  rotate_left
  · intro w'
    go_simp
    with_reducible rfl
  rotate_left
  · simp only [Act.put, List.setIfInBounds_toArray, List.set_cons_zero, List.set_cons_succ, i64_w, i32_w]
    rfl
  refine pure_ (i := 7) (N := some 60) (v := ?_) (a' := ?_) #[true, true, true, false, false, true, true, true, false, false] rfl rfl (any_of HT_.out (by kernel_rfl)) (fun _ _ _ h => h) (Or.inl ⟨by rfl, ?_⟩) ?_ ?_
  rotate_left
  · intro w'
    go_simp
    with_reducible rfl
  rotate_left
  · simp only [Act.put, List.setIfInBounds_toArray, List.set_cons_zero, List.set_cons_succ, i64_w, i32_w]
    rfl
  refine take_ (i := 8) (N := some 61) (v := ?_) (a' := ?_) #[true, true, true, false, false, true, true, true, true, false] rfl rfl (take_ofW HT_.out HW_.out (by kernel_rfl)) (fun _ _ _ h => h) (Or.inl ⟨by rfl, ?_⟩) hHeld ?_ ?_
  rotate_left
  · rintro w' s0
    go_simp
    with_reducible rfl
  rotate_left
  · simp only [Act.put, List.setIfInBounds_toArray, List.set_cons_zero, List.set_cons_succ, i64_w, i32_w]
    rfl
  refine one_ (i := 3) (N := some 56) #[true, true, true, true, false, true, true, true, true, false] rfl rfl (one_of HT_.out (by kernel_rfl)) (by decide) (fun K hK => ?_)
  refine goes_ Tryz.func9 (by kernel_rfl) rfl #[.slice (some ⟨g, 0, none⟩) E c] (by rfl) rfl rfl (by (try simp only [List.map_toArray, List.map_cons, List.map_nil]); first | done | rfl) ?_
  refine HC9.out.mono ?_
  rintro e w8 ⟨v8, rfl, hcv8, hb8⟩
  refine ⟨_, rfl, ?_⟩
  have HB8 := Aside0.mk hb8
  have HO8 := Aside0.mk (HO7.out.step hb8)
  have k8 := tail_conv HO8.out HDl.out.1 HDl.out.2 HTL.out
  refine hK.out _ _ k8 (fun hHeld => ?_)
  clear hK K
  refine norm_ (a' := ?_) ?_ ?_
  rotate_left
  · show Act.put _ (some 56) _ = _
    simp only [Act.put, List.setIfInBounds_toArray, List.set_cons_zero, List.set_cons_succ, i64_w, i32_w]
    rfl
  refine one_ (i := 4) (N := some 57) #[true, true, true, true, true, true, true, true, true, false] rfl rfl (one_of HT_.out (by kernel_rfl)) (by decide) (fun K hK => ?_)
  refine value_ (w1 := ?_) (v := ?_) (by rfl) rfl ?_ ?_
  rotate_left 2
  · go_simp
    constructor
    · rfl
    · rfl
  refine hK.out _ _ k8 (fun hHeld => ?_)
  clear hK K
  refine norm_ (a' := ?_) ?_ ?_
  rotate_left
  · show Act.put _ (some 57) _ = _
    simp only [Act.put, List.setIfInBounds_toArray, List.set_cons_zero, List.set_cons_succ, i64_w, i32_w]
    rfl
  refine pure_ (i := 9) (N := some 62) (v := ?_) (a' := ?_) #[true, true, true, true, true, true, true, true, true, true] rfl rfl (any_of HT_.out (by kernel_rfl)) (fun _ _ _ h => h) (Or.inl ⟨by rfl, ?_⟩) ?_ ?_
  rotate_left
  · intro w'
    go_simp
    with_reducible rfl
  rotate_left
  · simp only [Act.put, List.setIfInBounds_toArray, List.set_cons_zero, List.set_cons_succ, i64_w, i32_w]
    rfl
  refine done_ (done_of HT_.out (by kernel_rfl)) ?_
  clear hcv8 hHeld k7 k8 hs1 hs2 HC9 hb8
  cases eb with
  | true =>
    go_wp2_with fail
    go_ret
    exact ⟨rfl, HB3.out.trans (HO8.out.below.mono HB3.out.size)⟩
  | false =>
  have hend : posOf fl fl.length = E := by
    have h1 := indexB_len fl
    have h2 := HM.out.1
    have h3 := HDl.out.2
    omega
  have hsum : (D'.drop E).take 20 ≠ sha1Of (D'.take E) := fun h => by
    have h1 : D'.drop E = sha1Of (D'.take E) := by
      rw [← h, List.take_of_length_le (by rw [List.length_drop]; have := HDl.out; omega)]
    have h2 : SL.toList = TL.toList := by rw [HSL.out, HTL.out, h1]
    rw [beq_iff_eq.2 h2] at heb
    cases heb
  have hyb : 0 ≤ y ∧ y < 256 := indexB_byte fl HFB.out.1 y (List.mem_of_getElem? HY.out)
  have hyne : (indexB fl)[kn]? ≠ some (Go.bits .xor .u8 y by_) := by
    rw [HY.out]
    intro h
    have h1 := Option.some.inj h
    exact xor_ne hyb.1 hyb.2 (by have := HBy.out; have := HZ.out; omega) HBy.out.2 h1.symm
  have HE8 : Aside0 (Errs w8 a0 a1 a2 a7) := ⟨(HE.out.below HB3.out).below HO8.out.below⟩
  have hDb : ∀ y ∈ D', 0 ≤ y ∧ y < 256 := fun z hz => by
    rw [HD'.out] at hz
    rcases List.mem_or_eq_of_mem_set hz with h | h
    · exact indexB_byte fl HFB.out.1 z h
    · rw [h]; exact bits_u8 _ _ _
  have hsrc := src_of HO8.out HDl.out.1 HM.out.2 HSm.out hDb HE8.out.l22
  have hls : lensOf l0 = fl.map (·.2) := HFB.out.2.symm
  have HC8 : Aside0 (Calls Tryz.prog 8 #[.slice (some ⟨g, 0, none⟩) m c] w8 fun e w' => ∃ r : Int, 0 < r ∧ e = .returned (.tuple #[.int .u32 0, .slice none 0 0, .int .i64 r]) ∧ Below w8.heap.size w8 w') := ⟨by
    rcases HFx.out.1 with h4 | h12
    · refine decodeIndex_head hsrc HE8.out (by omega) ?_
      rw [HD'.out]
      exact indexB_bad_head fl kn _ (by omega) hyne
    · have hbad := indexB_bad fl HFB.out.1 HCnt.out.2 kn (Go.bits .xor .u8 y by_) (by omega) (fun a ha => by
        have h1 := HFx.out.2 a (by rw [hls, List.length_map]; exact ha)
        rw [hls, ← posS_is fl HFB.out.1] at h1
        omega)
      dsimp only at hbad
      rw [← HD'.out] at hbad
      exact decodeIndex_sum hsrc HE8.out hbad.1 hbad.2.1 hbad.2.2.1 HCnt.out.2 (by have := hbad.2.2.2; rwa [← HDl.out.1] at this) (posOf_zero fl) (by rw [hend]; exact HDl.out.2.symm) (by rw [hend]; exact hsum)⟩
  clear hend hsum hyb hyne hDb hsrc hls
  go_wp2_with (go_at_call 8; refine HC8.out.mono ?_; rintro e w9 ⟨r, hr, rfl, hb9⟩; have HB9 := Aside0.mk hb9; clear hb9; have dr : decide (0 < r) = true := decide_eq_true hr)
  go_ret
  have h8 := HB3.out.trans (HO8.out.below.mono HB3.out.size)
  exact ⟨rfl, h8.trans (HB9.out.mono h8.size)⟩
end Go.Proofs.YtllikhbafaohgaaGreatDoor.Idx
