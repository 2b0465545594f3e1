/- bufio.Reader.Peek, with twenty bytes left. -/
import Derived.Test.YtllikhbafaohgaaGreatDoorIO
namespace Go.Proofs.YtllikhbafaohgaaGreatDoor.Idx
open Go.RowKit Go.Proofs.YtllikhbafaohgaaGreatDoorW.PrintWords Go.Proofs.YtllikhbafaohgaaGreatDoorW.PrintLast Go.Proofs.YtllikhbafaohgaaGreatDoorW.PrintMore
set_option linter.unusedVariables false
set_option linter.unusedSimpArgs false

def PeekA (w0 w : World) (c : RC) (i m : Nat) : Prop := ∃ e r wv cs, BufS w c i e r wv .nilIface cs ∧ e ≤ c.n ∧ m = c.n - e + 1 ∧ Keep w0 w (Frb c)
def PeekB (w0 w : World) (c : RC) (i : Nat) (ev : Value) : Prop := ∃ r wv cs, BufS w c i c.n r wv ev cs ∧ Keep w0 w (Frb c)
set_option maxHeartbeats 8000000 in
set_option maxRecDepth 100000 in
theorem peek_tail {w : World} {c : RC} {i : Nat} {q7 : Addr} (hc : c.Ok) (H : Buf w c i) (hi : i + 20 = c.n) (hu : w.cell? ⟨7, 0, none⟩ = some (.iface 179 (.pointer (some q7)))) (h7 : ¬ Frb c 7) :
    Calls Tryz.prog 45 #[.pointer (some ⟨c.p, 0, none⟩), .int .i64 28] w fun e w' => (∃ A cp v, e = .returned (.tuple #[.slice A 20 cp, v])) ∧ Buf w' c i ∧ Keep w w' (Frb c) := by
  have HC := Aside0.mk hc
  have HU := Aside0.mk (⟨hu, h7⟩ : w.cell? ⟨7, 0, none⟩ = some (.iface 179 (.pointer (some q7))) ∧ ¬ Frb c 7)
  have HI := Aside0.mk hi
  obtain ⟨e0, r0, wv0, cs0, hS⟩ := H
  obtain ⟨lb, lr, hb⟩ := hS.bio
  have HB := Aside0.mk hb
  have HS := Aside0.mk hS
  have c5 := hb.c5
  have c6 := hb.c6
  have f5 := hb.f 5
  have f6 := hb.f 6
  clear hc hi hu h7 hS hb
  go_enter Tryz.func45, Tryz.ntmps45
  go_wp2_with fail
  obtain ⟨W1, hW1⟩ : ∃ W1, W1 = (w.setCell ⟨c.p, 5, none⟩ (.int .i64 (-1))).setCell ⟨c.p, 6, none⟩ (.int .i64 (-1)) := ⟨_, rfl⟩
  rw [← hW1]
  have hk1 : Keep w W1 (fun j => j = c.p) := by rw [hW1]; exact Keep.setCell (F := fun j => j = c.p) (a := ⟨c.p, 6, none⟩) (Keep.setCell (F := fun j => j = c.p) (a := ⟨c.p, 5, none⟩) (Keep.refl w _) (.inl rfl) _) (.inl rfl) _
  have HA1 : Aside0 (PeekA w W1 c i (c.n - e0 + 1)) := ⟨by
    have hs := HS.out
    obtain ⟨pr, hr⟩ := hs.rd
    refine ⟨e0, r0, wv0, cs0, ⟨⟨pr, hr.keep hk1 HC.out.pg.symm⟩, ⟨-1, -1, by rw [hW1]; exact (HB.out.set5 _).set6 _⟩, (hk1.block c.bb (lt_of_block hs.row) HC.out.pb.symm).trans hs.row, hs.len, hs.rw_, hs.fit, hs.at_, hs.le, hs.has, fun j v hv => hk1.cell (hs.src j v hv) (by rw [add_block]; exact HC.out.Ap)⟩, hs.le, rfl, hk1.mono (fun _ h => Or.inl h)⟩⟩
  clear hW1 hk1 c5 c6 f5 f6 HB HS
  go_loopg [] (c.n - e0 + 1) (fun kq w' => Aside0 (PeekA w w' c i kq) ∨ (Aside0 (kq = 0) ∧ Aside0 (PeekB w w' c i (.iface 179 (.pointer (some q7))))))
  case atStart => exact .inl HA1
  case round =>
    clear HA1
    rcases hrel with HA | ⟨_, HB⟩
    · obtain ⟨e, r, wv, cs, hs, hle, hm, hk⟩ := HA.out
      obtain ⟨lb2, lr2, hb⟩ := hs.bio
      have hat := hs.at_
      have hrw := hs.rw_
      have hfit := hs.fit
      obtain ⟨a, ha⟩ : ∃ a, a = wv - r := ⟨_, rfl⟩
      have hi := HI.out
      have ha20 : a ≤ 20 := by omega
      have HF : Aside0 (∀ q, Calls Tryz.prog 60 #[.pointer (some ⟨c.p, 0, none⟩)] (wr.drewN q) fun ed w' => ed = .returned (.tuple #[]) ∧ ((∃ m', m' < gk ∧ PeekA w w' c i m') ∨ PeekB w w' c i (.iface 179 (.pointer (some q7))))) := ⟨fun q => by
        have hkq : Keep wr (wr.drewN q) (fun _ => False) := (Keep.refl wr _).drewN q
        have hsq := hs.keep hkq id id id id
        rcases Nat.lt_or_eq_of_le hle with hlt | heq
        · refine (fill_more (w := wr.drewN q) HC.out hsq (by omega) hlt).mono fun ed w' ⟨h1, ⟨k, cs', h2, h3⟩, h4⟩ => ⟨h1, .inl ⟨c.n - (e + k) + 1, by have := h3.le; omega, e + k, 0, _, cs', h3, h3.le, rfl, (hk.trans hkq (fun _ _ h => h.elim)).trans h4 (fun _ _ h => h)⟩⟩
        · refine (fill_end (w := wr.drewN q) HC.out hsq (by omega) heq (hk.cell HU.out.1 HU.out.2) HU.out.2).mono fun ed w' ⟨h1, ⟨cs', h3⟩, h4⟩ => ⟨h1, .inr ⟨0, wv - r, cs', by rw [heq] at h3; exact h3, (hk.trans hkq (fun _ _ h => h.elim)).trans h4 (fun _ _ h => h)⟩⟩⟩
      have hgk : 0 < gk := by omega
      have c0 := hb.c0
      have c2 := hb.c2
      have c3 := hb.c3
      have c4 := hb.c4
      have e8 : IntKind.i64.wrap ((wv : Int) - (r : Int)) = (a : Int) := by rw [IntWalk.i64_in _ (by omega)]; omega
      have d1 : decide (a < 28) = true := decide_eq_true (by omega)
      have d1' : decide ((a : Int) < 28) = true := decide_eq_true (by omega)
      have d2 : decide (a < 4096) = true := decide_eq_true (by omega)
      have d2' : decide ((a : Int) < 4096) = true := decide_eq_true (by omega)
      have HGk := Aside0.mk hgk
      clear hs hle hm hk hb hat hrw hfit ha hi ha20 HA hgk
      go_wp2_with fail
      go_quiet (fail)
      go_wp2_with (go_at_call 60; refine (HF.out _).mono ?_; rintro ed w2 ⟨rfl, hg2⟩; have HG2 := Aside0.mk hg2; clear hg2)
      rcases HG2.out with ⟨m', hm', hA'⟩ | hB'
      · go_roundg m'
        case measure => omega
        case rel => exact .inl ⟨hA'⟩
      · go_roundg 0
        case measure => exact HGk.out
        case rel => exact .inr ⟨⟨rfl⟩, ⟨hB'⟩⟩
    · obtain ⟨r, wv, cs, hs, hk⟩ := HB.out
      obtain ⟨lb2, lr2, hb⟩ := hs.bio
      have hat := hs.at_
      have hrw := hs.rw_
      have hfit := hs.fit
      have hi := HI.out
      have hkw : wv = r + 20 := by omega
      subst hkw
      have HB2 := Aside0.mk hb
      have HS2 := Aside0.mk hs
      have HK2 := Aside0.mk hk
      have hr76 : r ≤ 4076 := by omega
      have c0 := hb.c0
      have c2 := hb.c2
      have c3 := hb.c3
      have c4 := hb.c4
      obtain ⟨z, hz⟩ : ∃ z : Int, z = ((r + 20 : Nat) : Int) := ⟨_, rfl⟩
      rw [← hz] at c3
      have e8 : IntKind.i64.wrap (z - (r : Int)) = 20 := by rw [hz, IntWalk.i64_in _ (by omega)]; omega
      have e7 : IntKind.i64.wrap ((r : Int) + 20) = z := by rw [hz, IntWalk.i64_in _ (by omega)]; omega
      have HZ := Aside0.mk hz
      clear hs hk hb hat hrw hfit hi HB hz
      go_wp2_with fail
      go_quiet (fail)
      go_wp2_with fail
      go_quiet (fail)
      have HCe : Aside0 (∀ q, Calls Tryz.prog 61 #[.pointer (some ⟨c.p, 0, none⟩)] (wr.drewN q) fun e w' => e = .returned (.iface 179 (.pointer (some q7))) ∧ Bio w' c.p c.bb c.g r ((r + 20 : Nat) : Int) .nilIface lb2 lr2 ∧ Keep wr w' (fun j => j = c.p)) := ⟨fun q => (readErr_calls (w := wr.drewN q) HB2.out).mono fun e w' ⟨h1, h2, h3⟩ => ⟨h1, h2, ⟨h3.os, h3.tape, h3.output, h3.size, h3.block⟩⟩⟩
      clear c0 c2 c3 c4
      go_wp2_with (go_at_call 61; refine (HCe.out _).mono ?_; rintro e w3 ⟨rfl, hb3, hk3⟩; have HB3 := Aside0.mk hb3; have HK3 := Aside0.mk hk3; have c0 := hb3.c0; have c2 := hb3.c2; clear hb3 hk3)
      have hcut : ∀ W : World, (Instr.slice 24 (.slice (some ⟨c.bb, 0, none⟩) 4096 4096) (some (.int .i64 (r : Int))) (some (.int .i64 z)) none).run Tryz.prog W = .ok (.slice (some ⟨c.bb, r, none⟩) 20 (4096 - r)) W := fun W => by
        rw [HZ.out, cut_rw c.bb r (r + 20) (by omega) (by omega) (by omega)]
        congr 1
        congr 1
        omega
      go_quiet (fail)
      go_wp2_with fail
      go_ret2
      have hs := HS2.out
      obtain ⟨pr, hr⟩ := hs.rd
      have hk3 := fun q => HK3.out.drewN q
      exact ⟨⟨_, _, _, rfl⟩, ⟨c.n, r, r + 20, cs, ⟨pr, hr.keep (hk3 _) HC.out.pg.symm⟩, ⟨lb2, lr2, HB3.out.keep ((Keep.refl w3 (fun _ => False)).drewN _) id⟩, ((hk3 _).block c.bb (lt_of_block hs.row) HC.out.pb.symm).trans hs.row, hs.len, hs.rw_, hs.fit, hs.at_, hs.le, hs.has, fun j v hv => (hk3 _).cell (hs.src j v hv) (by rw [add_block]; exact HC.out.Ap)⟩, HK2.out.trans (hk3 _) (fun _ _ h => Or.inl h)⟩
end Go.Proofs.YtllikhbafaohgaaGreatDoor.Idx
