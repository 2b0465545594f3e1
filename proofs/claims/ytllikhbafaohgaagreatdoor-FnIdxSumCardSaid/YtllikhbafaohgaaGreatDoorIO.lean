/- bufio.Reader: the buffer is filled; the end is looked at. -/
import Derived.Test.YtllikhbafaohgaaGreatDoorIN
namespace Go.Proofs.YtllikhbafaohgaaGreatDoor.Idx
open Go.RowKit Go.Proofs.YtllikhbafaohgaaGreatDoorW.PrintWords Go.Proofs.YtllikhbafaohgaaGreatDoorW.PrintLast Go.Proofs.YtllikhbafaohgaaGreatDoorW.PrintMore
set_option linter.unusedVariables false
set_option linter.unusedSimpArgs false

set_option maxHeartbeats 1000000 in
set_option maxRecDepth 100000 in
theorem readErr_calls {w : World} {p bb g : Nat} {r wv : Int} {ev : Value} {lb lr : Int} (hb : Bio w p bb g r wv ev lb lr) : Calls Tryz.prog 61 #[.pointer (some ⟨p, 0, none⟩)] w fun e w' => e = .returned ev ∧ Bio w' p bb g r wv .nilIface lb lr ∧ Keep w w' (fun j => j = p) := by
  have HB := Aside0.mk hb
  have c4 := hb.c4
  have f4 := hb.f 4
  clear hb
  go_enter Tryz.func61, Tryz.ntmps61
  go_wp2_with fail
  go_ret
  exact ⟨rfl, HB.out.set4 _, Keep.setCell (F := fun j => j = p) (a := ⟨p, 4, none⟩) (Keep.refl w _) (.inl rfl) _⟩
theorem cut_from0 (bb a : Nat) (h3 : a ≤ 4095) : ∀ W : World, (Instr.slice 24 (.slice (some ⟨bb, 0, none⟩) 4096 4096) (some (.int .i64 (a : Int))) none none).run Tryz.prog W = .ok (.slice (some ⟨bb, a, none⟩) (4096 - a) (4096 - a)) W := by
  obtain ⟨i0, hi, _, hsz, _⟩ := info_parts PFnIdxSum.info5
  intro W
  have := cut_from (P := Tryz.prog) 24 5 .i64 Tryz.underlying24 hi 1 hsz (some ⟨bb, 0, none⟩) 4096 4096 (a : Int) (by omega) (by omega) W
  rw [this, Int.toNat_natCast, if_neg (by omega), Nat.mul_one]
  have e : (⟨bb, 0, none⟩ : Addr).add a = ⟨bb, a, none⟩ := by unfold Addr.add; split <;> simp_all
  rw [Option.map_some, e]
def Frb (c : RC) : Nat → Prop := fun j => j = c.p ∨ j = c.bb ∨ j = c.g
set_option maxHeartbeats 8000000 in
set_option maxRecDepth 100000 in
theorem fill_end {w : World} {c : RC} {i e r wv : Nat} {cs : List Value} {q7 : Addr} (hc : c.Ok) (H : BufS w c i e r wv .nilIface cs) (hav : wv - r < 4096) (he : e = c.n) (hu : w.cell? ⟨7, 0, none⟩ = some (.iface 179 (.pointer (some q7)))) (h7 : ¬ Frb c 7) :
    Calls Tryz.prog 60 #[.pointer (some ⟨c.p, 0, none⟩)] w fun ed w' => ed = .returned (.tuple #[]) ∧ (∃ cs', BufS w' c i e 0 (wv - r) (.iface 179 (.pointer (some q7))) cs') ∧ Keep w w' (Frb c) := by
  have hna : ∀ (x : Addr) (W : World), (nilAhead 394 52 (.pointer (some x)) "Read").run Tryz.prog W = .ok (some false) W := fun _ _ => by kernel_rfl
  have hme : ∀ (x : Addr) (W : World), (method 394 52 (.pointer (some x)) "Read").run Tryz.prog W = .ok (142, .pointer (some x)) W := fun _ _ => by kernel_rfl
  obtain ⟨lb, lr, hbio⟩ := H.bio
  have HC := Aside0.mk hc
  have HS := Aside0.mk H
  have HB := Aside0.mk hbio
  have HE := Aside0.mk he
  have HU := Aside0.mk (⟨hu, h7⟩ : w.cell? ⟨7, 0, none⟩ = some (.iface 179 (.pointer (some q7))) ∧ ¬ Frb c 7)
  have c2 := hbio.c2
  have hrw := H.rw_
  have hfit := H.fit
  clear hc H hbio he hu h7
  go_enter Tryz.func60, Tryz.ntmps60
  go_upto_if 9 with (fail)
  go_cut [] (fun wx => (∃ cs', BufS wx c i e 0 (wv - r) .nilIface cs') ∧ Keep w wx (Frb c))
  case first =>
    rcases Nat.eq_zero_or_pos r with hz | hpos
    · subst hz
      have hS : BufS w c i e 0 (wv - 0) .nilIface cs := HS.out
      have HS' := Aside0.mk hS
      clear hS c2
      go_wp2_with fail
      go_meet
      exact ⟨⟨cs, HS'.out⟩, Keep.refl _ _⟩
    · have d1 : decide ((0 : Int) < (r : Int)) = true := decide_eq_true (by omega)
      have d1' : decide (0 < r) = true := decide_eq_true hpos
      have c0 := HB.out.c0
      have c3 := HB.out.c3
      obtain ⟨k, hk⟩ : ∃ k, k = wv - r := ⟨_, rfl⟩
      have hkw : r + k = wv := by omega
      obtain ⟨xs, hxs⟩ : ∃ xs, xs = (cs.drop r).take k := ⟨_, rfl⟩
      have hxl : xs.length = k := by rw [hxs, List.length_take, List.length_drop, HS.out.len]; omega
      obtain ⟨ad, had⟩ : ∃ ad : Addr, ad = if r = 4096 then ⟨c.bb, 0, none⟩ else ⟨c.bb, r, none⟩ := ⟨_, rfl⟩
      have hcut : ∀ W : World, (Instr.slice 24 (.slice (some ⟨c.bb, 0, none⟩) 4096 4096) (some (.int .i64 (r : Int))) (some (.int .i64 (wv : Int))) none).run Tryz.prog W = .ok (.slice (some ad) k (4096 - r)) W := by
        obtain ⟨i0, hi, _, hsz, _⟩ := info_parts PFnIdxSum.info5
        intro W
        have := cut_mid (P := Tryz.prog) 24 5 .i64 .i64 Tryz.underlying24 hi 1 hsz (some ⟨c.bb, 0, none⟩) 4096 4096 (r : Int) (wv : Int) (by omega) (by omega) (by omega) (by omega) W
        rw [this, Int.toNat_natCast, Int.toNat_natCast, Nat.mul_one, hk, had]
        by_cases h : r = 4096
        · rw [if_pos h, if_pos (by omega)]
        · rw [if_neg h, if_neg (by omega), Option.map_some, add_off, Nat.zero_add]
      have HSr : Aside0 (∀ (j : Nat) (v : Value), xs[j]? = some v → w.cell? (ad.add j) = some v) := ⟨fun j v hv => by
        have hj : j < k := by have := (List.getElem?_eq_some_iff.1 hv).1; omega
        rw [had, if_neg (by omega), add_off]
        refine cell_of HS.out.row (r + j) ?_
        rw [hxs, List.getElem?_take_of_lt hj, List.getElem?_drop] at hv
        rw [List.getElem?_toArray]
        exact hv⟩
      have HX := Aside0.mk hxs
      have HXl := Aside0.mk hxl
      have HKW := Aside0.mk hkw
      have HKk := Aside0.mk hk
      have HNb := Aside0.mk HC.out.pb
      have HXo : Aside0 (∀ u ∈ xs, u.oneCell' = true) := ⟨fun u hu => by
        obtain ⟨j, hj⟩ := List.mem_iff_getElem?.1 hu
        have hjk : j < k := by have := (List.getElem?_eq_some_iff.1 hj).1; omega
        have hat := HS.out.at_
        have hle := HS.out.le
        have hlt : i + j < (nums .u8 c.D).length := by rw [nums_length, HC.out.len]; omega
        have h1 := HS.out.has j _ (by omega) (List.getElem?_eq_getElem hlt)
        rw [hxs, List.getElem?_take_of_lt hjk, List.getElem?_drop, h1] at hj
        cases hj
        exact nums_one _ _ (List.getElem_mem _)⟩
      have i1 : (r : Int) ≤ (wv : Int) := by omega
      have i2 : (wv : Int) ≤ 4096 := by omega
      clear hk hkw hxs hxl had
      go_wp2_with fail
      go_region_held3 (fun w' => w'.cell? ⟨c.p, 0, none⟩ = some (.slice (some ⟨c.bb, 0, none⟩) 4096 4096) ∧ w'.cell? ⟨c.p, 2, none⟩ = some (.int .i64 (r : Int)) ∧ w'.cell? ⟨c.p, 3, none⟩ = some (.int .i64 (wv : Int))) (first | (exact ⟨c0, c2, c3⟩) | (exact k2)) ((refine step_copy_at rfl (.tmp 13) (.tmp 26) 24 24 rfl 5 Tryz.underlying24 size5 c.bb 0 4096 4096 ad k (4096 - r) ?hd ?hs cs 5 ?hg xs ?hn ?hsrc ?hfit ?h1 ?_; (case hd => rfl); (case hs => rfl); (case hg => exact HS.out.row); (case hn => rw [HXl.out]; show k = Nat.min k 4096; exact (Nat.min_eq_left (by have := HKW.out; omega)).symm); (case hsrc => exact HSr.out); (case hfit => rw [HXl.out, HS.out.len]; have := HKW.out; omega); (case h1 => exact HXo.out); intro w2 hw2; have HK2 : Aside0 (Keep w w2 (fun j => j = c.bb)) := ⟨by rw [hw2.out]; exact Keep.setRow (F := fun j => j = c.bb) ((Keep.refl w _).drewN 1) (.inl rfl) _⟩; have HR2 : Aside0 (w2.heap[c.bb]? = some (.cells (splice cs 0 xs).toArray 5 (0, 0))) := ⟨by rw [hw2.out]; exact setRow_heap _ c.bb _ _ 5 _ HS.out.row⟩; have HB2 : Aside0 (Bio w2 c.p c.bb c.g r wv .nilIface lb lr) := ⟨HB.out.keep HK2.out (fun e => HNb.out e)⟩; clear hw2; have k2 : w2.cell? ⟨c.p, 0, none⟩ = some (.slice (some ⟨c.bb, 0, none⟩) 4096 4096) ∧ w2.cell? ⟨c.p, 2, none⟩ = some (.int .i64 (r : Int)) ∧ w2.cell? ⟨c.p, 3, none⟩ = some (.int .i64 (wv : Int)) := ⟨HB2.out.c0, HB2.out.c2, HB2.out.c3⟩))
      have f3 := HB2.out.f 3
      have c2 := k2.2.1
      have c3 := k2.2.2
      have e8 : IntKind.i64.wrap ((wv : Int) - (r : Int)) = (k : Int) := by rw [IntWalk.i64_in _ (by omega)]; have := HKW.out; omega
      clear k2 hcut
      go_wp2_with fail
      go_still_tail 11, (by kernel_rfl)
      change wpList _ _ _ _ _ w2.drew
      have f2 := HB2.out.f 2
      go_wp2_with fail
      go_meet
      obtain ⟨W3, hW3⟩ : ∃ W3, W3 = (w2.setCell ⟨c.p, 3, none⟩ (.int .i64 (k : Int))).setCell ⟨c.p, 2, none⟩ (.int .i64 0) := ⟨_, rfl⟩
      have hK3 : Keep w2 W3 (fun j => j = c.p) := by rw [hW3]; exact Keep.setCell (F := fun j => j = c.p) (a := ⟨c.p, 2, none⟩) (Keep.setCell (F := fun j => j = c.p) (a := ⟨c.p, 3, none⟩) (Keep.refl w2 _) (.inl rfl) _) (.inl rfl) _
      have hK : Keep w W3 (fun j => j = c.p ∨ j = c.bb) := (HK2.out.mono (fun _ h => Or.inr h)).trans hK3 (fun _ _ h => Or.inl h)
      have hB3 : Bio W3 c.p c.bb c.g 0 k .nilIface lb lr := by rw [hW3]; exact (HB2.out.set3 _).set2 _
      obtain ⟨pr, hrd⟩ := HS.out.rd
      have hlen : (splice cs 0 xs).length = 4096 := by rw [splice_length _ _ _ (by rw [HXl.out, HS.out.len]; have := HKW.out; omega)]; exact HS.out.len
      have hgo : BufS W3 c i e 0 k .nilIface (splice cs 0 xs) := by
        refine ⟨⟨pr, hrd.keep hK (fun h => h.elim HC.out.pg.symm HC.out.bg.symm)⟩, ⟨lb, lr, hB3⟩, (hK3.block c.bb (lt_of_block HR2.out) HNb.out.symm).trans HR2.out, hlen, Nat.zero_le _, by have := HKW.out; omega, by have := HS.out.at_; have := HKk.out; omega, HS.out.le, ?_, fun j v hv => hK.cell (HS.out.src j v hv) (by rw [add_block]; exact fun h => h.elim HC.out.Ap HC.out.Ab)⟩
        intro j v hj hv
        have hk := HKk.out
        rw [splice_at _ _ _ _ (by rw [HXl.out]; omega) (Nat.zero_le _), HX.out, List.getElem?_take_of_lt (by omega), List.getElem?_drop]
        exact HS.out.has j v (by omega) hv
      have hkd := ((hK.mono (fun j h => h.elim Or.inl (fun e => Or.inr (Or.inl e)))).drewN 1 : Keep w (W3.drewN 1) (Frb c))
      rw [← HKk.out]
      rw [hW3] at hgo hkd
      exact ⟨⟨_, hgo.keep ((Keep.refl _ (fun _ => False)).drewN 1) id id id id⟩, hkd⟩
  obtain ⟨w4, rfl⟩ : ∃ w4 : World, w4 = wc := ⟨_, rfl⟩
  obtain ⟨⟨cs4, hS4⟩, hK4⟩ := hcut
  obtain ⟨a, ha⟩ : ∃ a, a = wv - r := ⟨_, rfl⟩
  have hav' : a < 4096 := by omega
  rw [← ha] at hS4
  have HAa := Aside0.mk ha
  have HS4 := Aside0.mk hS4
  have HK4 := Aside0.mk hK4
  obtain ⟨lb4, lr4, hb4⟩ := hS4.bio
  have HB4 := Aside0.mk hb4
  obtain ⟨pr4, hr4⟩ := hS4.rd
  have HR4 := Aside0.mk hr4
  have hat := hS4.at_
  have HAt : Aside0 (i + a = e ∧ e ≤ c.n) := ⟨by have := hS4.at_; omega, hS4.le⟩
  have c0 := hb4.c0
  have c3 := hb4.c3
  have d1 : decide (4096 ≤ a) = false := decide_eq_false (by omega)
  clear hS4 hK4 hb4 hr4 hat ha c2 hrw hfit hav HS HB
  go_wp2_with fail
  go_quiet (fail)
  go_wp2_with fail
  obtain ⟨W5, hW5⟩ : ∃ W5, W5 = w4.drewN nq := ⟨_, rfl⟩
  rw [← hW5]
  have HK5 : Aside0 (Keep w4 W5 (fun _ => False)) := ⟨by rw [hW5]; exact (Keep.refl w4 _).drewN nq⟩
  have HB5 : Aside0 (Bio W5 c.p c.bb c.g (0 : Nat) a .nilIface lb4 lr4) := ⟨HB4.out.keep HK5.out id⟩
  have HCr : Aside0 (∀ (q : Nat) (v : Value), Calls Tryz.prog 142 #[.pointer (some ⟨c.g, 0, none⟩), v] (W5.drewN q) fun e w' => e = .returned (.tuple #[.int .i64 0, .iface 179 (.pointer (some q7))]) ∧ Keep W5 w' (fun _ => False)) := ⟨fun q v => by
    have h := HR4.out.keep HK5.out id
    rw [HE.out] at h
    refine (read_end c.g c.A c.n c.cap pr4 v (.iface 179 (.pointer (some q7))) (W5.drewN q) (h.keep ((Keep.refl W5 (fun _ => False)).drewN q) id) ?_).mono fun e w' ⟨h1, h2⟩ => ⟨h1, ((Keep.refl W5 (fun _ => False)).drewN q).trans (keep_of_draw h2 (fun _ => False)) (fun _ _ h => h)⟩
    exact HK5.out.cell (HK4.out.cell HU.out.1 HU.out.2) id⟩
  clear hW5 c0 c3 HB4
  go_loopg [2, 3, 4] 1 (fun kq v2 v3 v4 w' => v2 = .int .i64 100 ∧ w' = W5)
  case atStart => exact ⟨rfl, rfl⟩
  case round =>
    obtain ⟨rfl, hww⟩ := hrel
    subst hww
    have hcut := cut_from0 c.bb a (by omega)
    have c0 := HB5.out.c0
    have c1 := HB5.out.c1
    have c3 := HB5.out.c3
    have i1 : (0 : Int) ≤ (a : Int) := by omega
    have i2 : (a : Int) ≤ 4096 := by omega
    go_wp2_with fail
    go_region_held3 (fun w' => w'.cell? ⟨c.p, 0, none⟩ = some (.slice (some ⟨c.bb, 0, none⟩) 4096 4096) ∧ w'.cell? ⟨c.p, 1, none⟩ = some (.iface 52 (.pointer (some ⟨c.g, 0, none⟩))) ∧ w'.cell? ⟨c.p, 3, none⟩ = some (.int .i64 (a : Int))) (first | (exact ⟨c0, c1, c3⟩) | (exact k2)) ((go_at_call 142; refine (HCr.out _ _).mono ?_; rintro e w6 ⟨rfl, hk6⟩; have HK6 := Aside0.mk hk6; have k2 : w6.cell? ⟨c.p, 0, none⟩ = some (.slice (some ⟨c.bb, 0, none⟩) 4096 4096) ∧ w6.cell? ⟨c.p, 1, none⟩ = some (.iface 52 (.pointer (some ⟨c.g, 0, none⟩))) ∧ w6.cell? ⟨c.p, 3, none⟩ = some (.int .i64 (a : Int)) := ⟨hk6.cell c0 id, hk6.cell c1 id, hk6.cell c3 id⟩; clear hk6))
    have HB6 : Aside0 (Bio w6 c.p c.bb c.g (0 : Nat) a .nilIface lb4 lr4) := ⟨HB5.out.keep HK6.out id⟩
    clear c0 c1 c3 hcut k2
    have c3 := HB6.out.c3
    have f3 := HB6.out.f 3
    have f4 := HB6.out.f 4
    have c4 := HB6.out.c4
    go_wp2_with fail
    (try simp only [Exit.inBlock, Exit.then])
    refine bodyPost_ret (results_none rfl _ _ _) rfl ?_
    rw [← HAa.out]
    have hk46 : Keep w4 w6 (fun _ => False) := HK5.out.trans HK6.out (fun _ _ h => h)
    have hkf : Keep w6 ((w6.setCell ⟨c.p, 3, none⟩ (.int .i64 (a : Int))).setCell ⟨c.p, 4, none⟩ (.iface 179 (.pointer (some q7)))) (fun j => j = c.p) := Keep.setCell (F := fun j => j = c.p) (a := ⟨c.p, 4, none⟩) (Keep.setCell (F := fun j => j = c.p) (a := ⟨c.p, 3, none⟩) (Keep.refl w6 _) (.inl rfl) _) (.inl rfl) _
    have hs6 := HS4.out.keep hk46 id id id id
    obtain ⟨pr6, hr6⟩ := hs6.rd
    refine ⟨rfl, ⟨cs4, ⟨pr6, hr6.keep hkf HC.out.pg.symm⟩, ⟨lb4, lr4, (HB6.out.set3 _).set4 _⟩, (hkf.block c.bb (lt_of_block hs6.row) HC.out.pb.symm).trans hs6.row, hs6.len, hs6.rw_, hs6.fit, hs6.at_, hs6.le, hs6.has, fun j v hv => hkf.cell (hs6.src j v hv) (by rw [add_block]; exact HC.out.Ap)⟩, (HK4.out.trans hk46 (fun _ _ h => h.elim)).trans hkf (fun _ _ h => Or.inl h)⟩
set_option maxHeartbeats 8000000 in
set_option maxRecDepth 100000 in
theorem fill_more {w : World} {c : RC} {i e r wv : Nat} {cs : List Value}  (hc : c.Ok) (H : BufS w c i e r wv .nilIface cs) (hav : wv - r < 4096) (he : e < c.n) :
    Calls Tryz.prog 60 #[.pointer (some ⟨c.p, 0, none⟩)] w fun ed w' => ed = .returned (.tuple #[]) ∧ (∃ k cs', 0 < k ∧ BufS w' c i (e + k) 0 (wv - r + k) .nilIface cs') ∧ Keep w w' (Frb c) := by
  have hna : ∀ (x : Addr) (W : World), (nilAhead 394 52 (.pointer (some x)) "Read").run Tryz.prog W = .ok (some false) W := fun _ _ => by kernel_rfl
  have hme : ∀ (x : Addr) (W : World), (method 394 52 (.pointer (some x)) "Read").run Tryz.prog W = .ok (142, .pointer (some x)) W := fun _ _ => by kernel_rfl
  obtain ⟨lb, lr, hbio⟩ := H.bio
  have HC := Aside0.mk hc
  have HS := Aside0.mk H
  have HB := Aside0.mk hbio
  have HE := Aside0.mk he

  have c2 := hbio.c2
  have hrw := H.rw_
  have hfit := H.fit
  clear hc H hbio he 
  go_enter Tryz.func60, Tryz.ntmps60
  go_upto_if 9 with (fail)
  go_cut [] (fun wx => (∃ cs', BufS wx c i e 0 (wv - r) .nilIface cs') ∧ Keep w wx (Frb c))
  case first =>
    rcases Nat.eq_zero_or_pos r with hz | hpos
    · subst hz
      have hS : BufS w c i e 0 (wv - 0) .nilIface cs := HS.out
      have HS' := Aside0.mk hS
      clear hS c2
      go_wp2_with fail
      go_meet
      exact ⟨⟨cs, HS'.out⟩, Keep.refl _ _⟩
    · have d1 : decide ((0 : Int) < (r : Int)) = true := decide_eq_true (by omega)
      have d1' : decide (0 < r) = true := decide_eq_true hpos
      have c0 := HB.out.c0
      have c3 := HB.out.c3
      obtain ⟨k, hk⟩ : ∃ k, k = wv - r := ⟨_, rfl⟩
      have hkw : r + k = wv := by omega
      obtain ⟨xs, hxs⟩ : ∃ xs, xs = (cs.drop r).take k := ⟨_, rfl⟩
      have hxl : xs.length = k := by rw [hxs, List.length_take, List.length_drop, HS.out.len]; omega
      obtain ⟨ad, had⟩ : ∃ ad : Addr, ad = if r = 4096 then ⟨c.bb, 0, none⟩ else ⟨c.bb, r, none⟩ := ⟨_, rfl⟩
      have hcut : ∀ W : World, (Instr.slice 24 (.slice (some ⟨c.bb, 0, none⟩) 4096 4096) (some (.int .i64 (r : Int))) (some (.int .i64 (wv : Int))) none).run Tryz.prog W = .ok (.slice (some ad) k (4096 - r)) W := by
        obtain ⟨i0, hi, _, hsz, _⟩ := info_parts PFnIdxSum.info5
        intro W
        have := cut_mid (P := Tryz.prog) 24 5 .i64 .i64 Tryz.underlying24 hi 1 hsz (some ⟨c.bb, 0, none⟩) 4096 4096 (r : Int) (wv : Int) (by omega) (by omega) (by omega) (by omega) W
        rw [this, Int.toNat_natCast, Int.toNat_natCast, Nat.mul_one, hk, had]
        by_cases h : r = 4096
        · rw [if_pos h, if_pos (by omega)]
        · rw [if_neg h, if_neg (by omega), Option.map_some, add_off, Nat.zero_add]
      have HSr : Aside0 (∀ (j : Nat) (v : Value), xs[j]? = some v → w.cell? (ad.add j) = some v) := ⟨fun j v hv => by
        have hj : j < k := by have := (List.getElem?_eq_some_iff.1 hv).1; omega
        rw [had, if_neg (by omega), add_off]
        refine cell_of HS.out.row (r + j) ?_
        rw [hxs, List.getElem?_take_of_lt hj, List.getElem?_drop] at hv
        rw [List.getElem?_toArray]
        exact hv⟩
      have HX := Aside0.mk hxs
      have HXl := Aside0.mk hxl
      have HKW := Aside0.mk hkw
      have HKk := Aside0.mk hk
      have HNb := Aside0.mk HC.out.pb
      have HXo : Aside0 (∀ u ∈ xs, u.oneCell' = true) := ⟨fun u hu => by
        obtain ⟨j, hj⟩ := List.mem_iff_getElem?.1 hu
        have hjk : j < k := by have := (List.getElem?_eq_some_iff.1 hj).1; omega
        have hat := HS.out.at_
        have hle := HS.out.le
        have hlt : i + j < (nums .u8 c.D).length := by rw [nums_length, HC.out.len]; omega
        have h1 := HS.out.has j _ (by omega) (List.getElem?_eq_getElem hlt)
        rw [hxs, List.getElem?_take_of_lt hjk, List.getElem?_drop, h1] at hj
        cases hj
        exact nums_one _ _ (List.getElem_mem _)⟩
      have i1 : (r : Int) ≤ (wv : Int) := by omega
      have i2 : (wv : Int) ≤ 4096 := by omega
      clear hk hkw hxs hxl had
      go_wp2_with fail
      go_region_held3 (fun w' => w'.cell? ⟨c.p, 0, none⟩ = some (.slice (some ⟨c.bb, 0, none⟩) 4096 4096) ∧ w'.cell? ⟨c.p, 2, none⟩ = some (.int .i64 (r : Int)) ∧ w'.cell? ⟨c.p, 3, none⟩ = some (.int .i64 (wv : Int))) (first | (exact ⟨c0, c2, c3⟩) | (exact k2)) ((refine step_copy_at rfl (.tmp 13) (.tmp 26) 24 24 rfl 5 Tryz.underlying24 size5 c.bb 0 4096 4096 ad k (4096 - r) ?hd ?hs cs 5 ?hg xs ?hn ?hsrc ?hfit ?h1 ?_; (case hd => rfl); (case hs => rfl); (case hg => exact HS.out.row); (case hn => rw [HXl.out]; show k = Nat.min k 4096; exact (Nat.min_eq_left (by have := HKW.out; omega)).symm); (case hsrc => exact HSr.out); (case hfit => rw [HXl.out, HS.out.len]; have := HKW.out; omega); (case h1 => exact HXo.out); intro w2 hw2; have HK2 : Aside0 (Keep w w2 (fun j => j = c.bb)) := ⟨by rw [hw2.out]; exact Keep.setRow (F := fun j => j = c.bb) ((Keep.refl w _).drewN 1) (.inl rfl) _⟩; have HR2 : Aside0 (w2.heap[c.bb]? = some (.cells (splice cs 0 xs).toArray 5 (0, 0))) := ⟨by rw [hw2.out]; exact setRow_heap _ c.bb _ _ 5 _ HS.out.row⟩; have HB2 : Aside0 (Bio w2 c.p c.bb c.g r wv .nilIface lb lr) := ⟨HB.out.keep HK2.out (fun e => HNb.out e)⟩; clear hw2; have k2 : w2.cell? ⟨c.p, 0, none⟩ = some (.slice (some ⟨c.bb, 0, none⟩) 4096 4096) ∧ w2.cell? ⟨c.p, 2, none⟩ = some (.int .i64 (r : Int)) ∧ w2.cell? ⟨c.p, 3, none⟩ = some (.int .i64 (wv : Int)) := ⟨HB2.out.c0, HB2.out.c2, HB2.out.c3⟩))
      have f3 := HB2.out.f 3
      have c2 := k2.2.1
      have c3 := k2.2.2
      have e8 : IntKind.i64.wrap ((wv : Int) - (r : Int)) = (k : Int) := by rw [IntWalk.i64_in _ (by omega)]; have := HKW.out; omega
      clear k2 hcut
      go_wp2_with fail
      go_still_tail 11, (by kernel_rfl)
      change wpList _ _ _ _ _ w2.drew
      have f2 := HB2.out.f 2
      go_wp2_with fail
      go_meet
      obtain ⟨W3, hW3⟩ : ∃ W3, W3 = (w2.setCell ⟨c.p, 3, none⟩ (.int .i64 (k : Int))).setCell ⟨c.p, 2, none⟩ (.int .i64 0) := ⟨_, rfl⟩
      have hK3 : Keep w2 W3 (fun j => j = c.p) := by rw [hW3]; exact Keep.setCell (F := fun j => j = c.p) (a := ⟨c.p, 2, none⟩) (Keep.setCell (F := fun j => j = c.p) (a := ⟨c.p, 3, none⟩) (Keep.refl w2 _) (.inl rfl) _) (.inl rfl) _
      have hK : Keep w W3 (fun j => j = c.p ∨ j = c.bb) := (HK2.out.mono (fun _ h => Or.inr h)).trans hK3 (fun _ _ h => Or.inl h)
      have hB3 : Bio W3 c.p c.bb c.g 0 k .nilIface lb lr := by rw [hW3]; exact (HB2.out.set3 _).set2 _
      obtain ⟨pr, hrd⟩ := HS.out.rd
      have hlen : (splice cs 0 xs).length = 4096 := by rw [splice_length _ _ _ (by rw [HXl.out, HS.out.len]; have := HKW.out; omega)]; exact HS.out.len
      have hgo : BufS W3 c i e 0 k .nilIface (splice cs 0 xs) := by
        refine ⟨⟨pr, hrd.keep hK (fun h => h.elim HC.out.pg.symm HC.out.bg.symm)⟩, ⟨lb, lr, hB3⟩, (hK3.block c.bb (lt_of_block HR2.out) HNb.out.symm).trans HR2.out, hlen, Nat.zero_le _, by have := HKW.out; omega, by have := HS.out.at_; have := HKk.out; omega, HS.out.le, ?_, fun j v hv => hK.cell (HS.out.src j v hv) (by rw [add_block]; exact fun h => h.elim HC.out.Ap HC.out.Ab)⟩
        intro j v hj hv
        have hk := HKk.out
        rw [splice_at _ _ _ _ (by rw [HXl.out]; omega) (Nat.zero_le _), HX.out, List.getElem?_take_of_lt (by omega), List.getElem?_drop]
        exact HS.out.has j v (by omega) hv
      have hkd := ((hK.mono (fun j h => h.elim Or.inl (fun e => Or.inr (Or.inl e)))).drewN 1 : Keep w (W3.drewN 1) (Frb c))
      rw [← HKk.out]
      rw [hW3] at hgo hkd
      exact ⟨⟨_, hgo.keep ((Keep.refl _ (fun _ => False)).drewN 1) id id id id⟩, hkd⟩
  obtain ⟨w4, rfl⟩ : ∃ w4 : World, w4 = wc := ⟨_, rfl⟩
  obtain ⟨⟨cs4, hS4⟩, hK4⟩ := hcut
  obtain ⟨a, ha⟩ : ∃ a, a = wv - r := ⟨_, rfl⟩
  have hav' : a < 4096 := by omega
  rw [← ha] at hS4
  have HAa := Aside0.mk ha
  have HS4 := Aside0.mk hS4
  have HK4 := Aside0.mk hK4
  obtain ⟨lb4, lr4, hb4⟩ := hS4.bio
  have HB4 := Aside0.mk hb4
  obtain ⟨pr4, hr4⟩ := hS4.rd
  have HR4 := Aside0.mk hr4
  have hat := hS4.at_
  have HAt : Aside0 (i + a = e ∧ e ≤ c.n) := ⟨by have := hS4.at_; omega, hS4.le⟩
  have c0 := hb4.c0
  have c3 := hb4.c3
  have d1 : decide (4096 ≤ a) = false := decide_eq_false (by omega)
  clear hS4 hK4 hb4 hr4 hat ha c2 hrw hfit hav HS HB
  go_wp2_with fail
  go_quiet (fail)
  go_wp2_with fail
  obtain ⟨W5, hW5⟩ : ∃ W5, W5 = w4.drewN nq := ⟨_, rfl⟩
  rw [← hW5]
  have HK5 : Aside0 (Keep w4 W5 (fun _ => False)) := ⟨by rw [hW5]; exact (Keep.refl w4 _).drewN nq⟩
  have HB5 : Aside0 (Bio W5 c.p c.bb c.g (0 : Nat) a .nilIface lb4 lr4) := ⟨HB4.out.keep HK5.out id⟩
  obtain ⟨k, hk⟩ : ∃ k, k = min (c.n - e) (4096 - a) := ⟨_, rfl⟩
  have hk0 : 0 < k := by have := HE.out; omega
  have hk1 : a + k ≤ 4096 := by omega
  have hk2 : e + k ≤ c.n := by have := HE.out; omega
  have HCr : Aside0 (∀ (q : Nat), Calls Tryz.prog 142 #[.pointer (some ⟨c.g, 0, none⟩), .slice (some ⟨c.bb, a, none⟩) (4096 - a) (4096 - a)] (W5.drewN q) fun ed w' => ed = .returned (.tuple #[.int .i64 k, .nilIface]) ∧ Rdr w' c.g c.A c.n c.cap (e + k) (-1) ∧ w'.heap[c.bb]? = some (.cells (splice cs4 a (nums .u8 ((c.D.drop e).take k))).toArray 5 (0, 0)) ∧ Keep W5 w' (fun j => j = c.g ∨ j = c.bb)) := ⟨fun q => by
    have hs : ∀ (j : Nat) (v : Value), (nums .u8 ((c.D.drop e).take k))[j]? = some v → (W5.drewN q).cell? (c.A.add (e + j)) = some v := fun j v hv => HK5.out.cell (HS4.out.src (e + j) v (nums_sub _ _ _ _ _ hv).2) id
    have := read_calls c.g c.A c.n c.cap e pr4 c.bb a (4096 - a) (4096 - a) cs4 5 (nums .u8 ((c.D.drop e).take k)) (W5.drewN q) (Rdr.keep (w' := W5.drewN q) HR4.out (HK5.out.drewN q) id) ((HK5.out.block c.bb (lt_of_block HS4.out.row) id).trans HS4.out.row) HC.out.bg HC.out.Ab HC.out.Ag hs k (nums_sub_len _ _ _ (by rw [HC.out.len]; omega)) hk (nums_one _) (by omega) HE.out HC.out.le (by have := HC.out.small; omega) (by rw [HS4.out.len]; omega)
    exact this.mono fun ed w' ⟨h1, h2, h3, h4⟩ => ⟨h1, h2, h3, ⟨h4.os, h4.tape, h4.output, h4.size, h4.block⟩⟩⟩
  have HKm := Aside0.mk hk
  clear hk
  clear hW5 c0 c3 HB4
  go_loopg [2, 3, 4] 1 (fun kq v2 v3 v4 w' => v2 = .int .i64 100 ∧ w' = W5)
  case atStart => exact ⟨rfl, rfl⟩
  case round =>
    obtain ⟨rfl, hww⟩ := hrel
    subst hww
    have hcut := cut_from0 c.bb a (by omega)
    have c0 := HB5.out.c0
    have c1 := HB5.out.c1
    have c3 := HB5.out.c3
    have i1 : (0 : Int) ≤ (a : Int) := by omega
    have i2 : (a : Int) ≤ 4096 := by omega
    go_wp2_with fail
    go_region_held3 (fun w' => w'.cell? ⟨c.p, 0, none⟩ = some (.slice (some ⟨c.bb, 0, none⟩) 4096 4096) ∧ w'.cell? ⟨c.p, 1, none⟩ = some (.iface 52 (.pointer (some ⟨c.g, 0, none⟩))) ∧ w'.cell? ⟨c.p, 3, none⟩ = some (.int .i64 (a : Int))) (first | (exact ⟨c0, c1, c3⟩) | (exact k2)) ((go_at_call 142; refine (HCr.out _).mono ?_; rintro ed w6 ⟨rfl, hr6, hw6, hk6⟩; have HK6 := Aside0.mk hk6; have HR6 := Aside0.mk hr6; have HW6 := Aside0.mk hw6; have k2 : w6.cell? ⟨c.p, 0, none⟩ = some (.slice (some ⟨c.bb, 0, none⟩) 4096 4096) ∧ w6.cell? ⟨c.p, 1, none⟩ = some (.iface 52 (.pointer (some ⟨c.g, 0, none⟩))) ∧ w6.cell? ⟨c.p, 3, none⟩ = some (.int .i64 (a : Int)) := ⟨hk6.cell c0 (fun h => h.elim HC.out.pg HC.out.pb), hk6.cell c1 (fun h => h.elim HC.out.pg HC.out.pb), hk6.cell c3 (fun h => h.elim HC.out.pg HC.out.pb)⟩; clear hr6 hw6 hk6))
    have HB6 : Aside0 (Bio w6 c.p c.bb c.g (0 : Nat) a .nilIface lb4 lr4) := ⟨HB5.out.keep HK6.out (fun h => h.elim HC.out.pg HC.out.pb)⟩
    clear c0 c1 c3 hcut k2
    have c3 := HB6.out.c3
    have f3 := HB6.out.f 3
    have e9 : wrap64 ((a : Int) + (k : Int)) = ((a + k : Nat) : Int) := by unfold wrap64; omega
    have HE9 : Aside0 ((a : Int) + (k : Int) = ((a + k : Nat) : Int)) := ⟨by omega⟩
    clear e9
    go_wp2_with fail
    (try simp only [Exit.inBlock, Exit.then])
    refine bodyPost_ret (results_none rfl _ _ _) rfl ?_
    rw [← HAa.out]
    have hk46 : Keep w4 w6 (fun j => j = c.g ∨ j = c.bb) := (Keep.trans (F := fun j => j = c.g ∨ j = c.bb) (HK5.out.mono (fun _ h => h.elim)) HK6.out (fun _ _ h => h))
    rw [HE9.out]
    have hkf : Keep w6 (w6.setCell ⟨c.p, 3, none⟩ (.int .i64 ((a + k : Nat) : Int))) (fun j => j = c.p) := Keep.setCell (F := fun j => j = c.p) (a := ⟨c.p, 3, none⟩) (Keep.refl w6 _) (.inl rfl) _
    have hn := nums_sub_len c.D e k (by rw [HC.out.len]; omega)
    refine ⟨rfl, ⟨k, _, hk0, ⟨-1, HR6.out.keep hkf HC.out.pg.symm⟩, ⟨lb4, lr4, HB6.out.set3 _⟩, (hkf.block c.bb (lt_of_block HW6.out) HC.out.pb.symm).trans HW6.out, ?_, Nat.zero_le _, hk1, by have := HAt.out; omega, hk2, ?_, ?_⟩, (HK4.out.trans hk46 (fun _ _ h => h.elim (fun e => Or.inr (Or.inr e)) (fun e => Or.inr (Or.inl e)))).trans hkf (fun _ _ h => Or.inl h)⟩
    · rw [splice_length _ _ _ (by rw [hn, HS4.out.len]; omega)]; exact HS4.out.len
    · intro j v hj hv
      rcases Nat.lt_or_ge j a with hja | hja
      · rw [Nat.zero_add, splice_before _ _ _ _ hja (by rw [HS4.out.len]; omega)]
        have := HS4.out.has j v (by omega) hv
        rwa [Nat.zero_add] at this
      · obtain ⟨j', rfl⟩ : ∃ j', j = a + j' := ⟨j - a, by omega⟩
        rw [Nat.zero_add, splice_at _ _ _ _ (by rw [hn]; omega) (by rw [HS4.out.len]; omega)]
        unfold nums at hv ⊢
        rw [List.getElem?_map, List.getElem?_take_of_lt (by omega), List.getElem?_drop, ← List.getElem?_map, ← HAt.out.1, Nat.add_assoc]
        exact hv
    · intro j v hv
      exact hkf.cell (hk46.cell (HS4.out.src j v hv) (by rw [add_block]; exact fun h => h.elim HC.out.Ag HC.out.Ab)) (by rw [add_block]; exact HC.out.Ap)
end Go.Proofs.YtllikhbafaohgaaGreatDoor.Idx
