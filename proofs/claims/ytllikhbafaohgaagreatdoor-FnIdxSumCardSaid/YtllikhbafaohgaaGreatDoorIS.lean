/- Behind the entries of an index there is its checksum alone. -/
import Derived.Test.YtllikhbafaohgaaGreatDoorIR
namespace Go.Proofs.YtllikhbafaohgaaGreatDoor.Idx
open Go.RowKit Go.Proofs.YtllikhbafaohgaaGreatDoorW.PrintWords Go.Proofs.YtllikhbafaohgaaGreatDoorW.PrintLast Go.Proofs.YtllikhbafaohgaaGreatDoorW.PrintMore
set_option linter.unusedVariables false
set_option linter.unusedSimpArgs false

theorem size_calls (x : Value) (w : World) : Calls Tryz.prog 149 #[x] w fun e w' => e = .returned (.int .i64 20) ∧ w = w' := by
  go_enter Tryz.func149, Tryz.ntmps149
  go_wp2_with fail
  go_ret
  exact ⟨rfl, rfl⟩
set_option maxHeartbeats 8000000 in
set_option maxRecDepth 100000 in
theorem readExtensions_good {w : World} {d : DC} {i k x p2 : Nat} {le v : Value} {q7 : Addr} (hd : d.Ok) (H : St w d i v) (hi : i + 20 = d.c.n) (hk : Dcd w d k le p2) (hkF : Free d v k) (hu : w.cell? ⟨7, 0, none⟩ = some (.iface 179 (.pointer (some q7)))) (hS : (d.c.D.drop i).take 20 = sha1Of (d.c.D.take i)) :
    Calls Tryz.prog 31 #[.pointer (some ⟨k, 0, none⟩), .pointer (some ⟨x, 0, none⟩)] w fun e w' => e = .returned .nilIface ∧ Keep w w' (Fr0 d v) := by
  have hms : ∀ (a : Addr) (W : World), (method 394 91 (.pointer (some a)) "Size").run Tryz.prog W = .ok (149, .pointer (some a)) W := fun _ _ => by kernel_rfl
  have hmu : ∀ (a : Addr) (W : World), (method 394 91 (.pointer (some a)) "Sum").run Tryz.prog W = .ok (150, .pointer (some a)) W := fun _ _ => by kernel_rfl
  have h7 : ¬ Frb d.c 7 := fun h => by have := hd.Lp; have := hd.Lb; have := hd.Lg; rcases h with e | e | e <;> omega
  have HSum := Aside0.mk (sum_calls hd H)
  have k2 : w.cell? ⟨k, 2, none⟩ = some (.iface 91 (.pointer (some ⟨d.h, 0, none⟩))) := cell_of hk 2 rfl
  have HD := Aside0.mk hd
  have HS := Aside0.mk H
  have HKd := Aside0.mk hk
  have HKF := Aside0.mk hkF
  have HU := Aside0.mk (⟨hu, h7⟩ : w.cell? ⟨7, 0, none⟩ = some (.iface 179 (.pointer (some q7))) ∧ ¬ Frb d.c 7)
  have HI := Aside0.mk hi
  have HEq := Aside0.mk hS
  
  clear hd H hi hk hkF hu hS h7 
  go_enter Tryz.func31, Tryz.ntmps31
  go_wp2_with (go_at_call 149; refine (size_calls _ _).mono ?_; rintro e w1 ⟨rfl, rfl⟩)
  go_loopg [5, 6, 7] 1 (fun kq v5 v6 v7 w' => w' = w)
  case atStart => exact rfl
  case round =>
    subst hrel
    obtain ⟨w, rfl⟩ : ∃ w : World, w = wr := ⟨_, rfl⟩
    go_wp2_with (first | (go_at_call 150; refine HSum.out.mono ?_; rintro e w2 ⟨A, cp, rfl, hcp, hq, hb2⟩; have HQ2 := Aside0.mk hq; have HB2 := Aside0.mk hb2; have HCp := Aside0.mk hcp; have HS2 := Aside0.mk (HS.out.below HD.out hb2); have k0 : w2.cell? ⟨k, 0, none⟩ = some (.pointer (some ⟨d.c.p, 0, none⟩)) := (Keep.of_below hb2 (fun _ => False)).cell (cell_of HKd.out 0 rfl) id; have HPk := Aside0.mk (peek_tail HD.out.c HS2.out.buf HI.out ((Keep.of_below hb2 (fun _ => False)).cell HU.out.1 id) HU.out.2); clear hcp hq hb2) | (go_at_call 45; refine HPk.out.mono ?_; rintro e w3 ⟨⟨A3, cp3, v3, rfl⟩, hbf3, hk3⟩; have HBf3 := Aside0.mk hbf3; have HK3 := Aside0.mk hk3; clear hbf3 hk3))
    have hk2 : Keep w w2 (fun _ => False) := Keep.of_below HB2.out _
    have hN := HS.out.hash.le
    have hd := HD.out
    have hFb : ∀ j, Frb d.c j → j < d.N := fun j h => by
      have := hd.pN
      have := hd.bN
      have := hd.gN
      rcases h with e | e | e <;> omega
    have hs3 : St w3 d i v := ⟨HBf3.out, HS2.out.hash.keep HK3.out (fun h => by rcases h with e | e | e; exact hd.hp e; exact hd.hb e; exact hd.hg e) (fun j hj h => by have := (HS2.out.own j hj).1; have := hFb j h; omega), (HK3.out.block d.t (lt_of_block HS2.out.tee) (fun h => by rcases h with e | e | e; exact hd.tp e; exact hd.tb e; exact hd.tg e)).trans HS2.out.tee⟩
    have hkf := HKF.out
    have hdk : Dcd w3 d k le p2 := (HKd.out.keep hk2 id).keep HK3.out (fun h => by rcases h with e | e | e; exact hkf.p e; exact hkf.bb e; exact hkf.g e)
    have hq3 : QRow w3 w.heap.size 5 1 (.slice A 20 cp) 20 (nums .u8 (sha1Of (d.c.D.take i))) := q_move HQ2.out (fun j hj => HK3.out.block j (q_lt HQ2.out j hj) (fun h => by have := (q_typed HQ2.out j hj).1; have := hFb j h; omega))
    have hsh := sha1Of_ok (d.c.D.take i)
    have HF := Aside0.mk (checksum_good hd hs3 (by have := HI.out; omega) hdk hkf hq3 (fun j hj => (HS.out.own j hj).2) hN hsh.1 hsh.2 HCp.out HEq.out)
    have hK : Keep w w3 (Fr0 d v) := Keep.trans (F := Fr0 d v) (hk2.mono (fun _ h => h.elim)) HK3.out (fun _ _ h => .inl h)
    have HK := Aside0.mk hK
    clear hk2 hN hd hFb hs3 hkf hdk hq3 hsh hK
    refine HF.out.mono ?_
    rintro e w4 ⟨rfl, hk4⟩
    have HK4 := Aside0.mk hk4
    clear hk4
    go_wp2_with fail
    go_ret
    exact ⟨rfl, HK.out.trans HK4.out (fun _ _ h => h)⟩
set_option maxHeartbeats 8000000 in
set_option maxRecDepth 100000 in
theorem readExtensions_bad {w : World} {d : DC} {i k x p2 : Nat} {le v u : Value} {q7 : Addr} (hd : d.Ok) (H : St w d i v) (hi : i + 20 = d.c.n) (hk : Dcd w d k le p2) (hkF : Free d v k) (hu : w.cell? ⟨7, 0, none⟩ = some (.iface 179 (.pointer (some q7)))) (hS : (d.c.D.drop i).take 20 ≠ sha1Of (d.c.D.take i)) (hu2 : w.cell? ⟨2, 0, none⟩ = some u) :
    Calls Tryz.prog 31 #[.pointer (some ⟨k, 0, none⟩), .pointer (some ⟨x, 0, none⟩)] w fun e w' => e = .returned u ∧ Keep w w' (Fr0 d v) := by
  have hms : ∀ (a : Addr) (W : World), (method 394 91 (.pointer (some a)) "Size").run Tryz.prog W = .ok (149, .pointer (some a)) W := fun _ _ => by kernel_rfl
  have hmu : ∀ (a : Addr) (W : World), (method 394 91 (.pointer (some a)) "Sum").run Tryz.prog W = .ok (150, .pointer (some a)) W := fun _ _ => by kernel_rfl
  have h7 : ¬ Frb d.c 7 := fun h => by have := hd.Lp; have := hd.Lb; have := hd.Lg; rcases h with e | e | e <;> omega
  have HSum := Aside0.mk (sum_calls hd H)
  have k2 : w.cell? ⟨k, 2, none⟩ = some (.iface 91 (.pointer (some ⟨d.h, 0, none⟩))) := cell_of hk 2 rfl
  have HD := Aside0.mk hd
  have HS := Aside0.mk H
  have HKd := Aside0.mk hk
  have HKF := Aside0.mk hkF
  have HU := Aside0.mk (⟨hu, h7⟩ : w.cell? ⟨7, 0, none⟩ = some (.iface 179 (.pointer (some q7))) ∧ ¬ Frb d.c 7)
  have HI := Aside0.mk hi
  have HEq := Aside0.mk hS
  have HU2 := Aside0.mk hu2
  clear hd H hi hk hkF hu hS h7 hu2
  go_enter Tryz.func31, Tryz.ntmps31
  go_wp2_with (go_at_call 149; refine (size_calls _ _).mono ?_; rintro e w1 ⟨rfl, rfl⟩)
  go_loopg [5, 6, 7] 1 (fun kq v5 v6 v7 w' => w' = w)
  case atStart => exact rfl
  case round =>
    subst hrel
    obtain ⟨w, rfl⟩ : ∃ w : World, w = wr := ⟨_, rfl⟩
    go_wp2_with (first | (go_at_call 150; refine HSum.out.mono ?_; rintro e w2 ⟨A, cp, rfl, hcp, hq, hb2⟩; have HQ2 := Aside0.mk hq; have HB2 := Aside0.mk hb2; have HCp := Aside0.mk hcp; have HS2 := Aside0.mk (HS.out.below HD.out hb2); have k0 : w2.cell? ⟨k, 0, none⟩ = some (.pointer (some ⟨d.c.p, 0, none⟩)) := (Keep.of_below hb2 (fun _ => False)).cell (cell_of HKd.out 0 rfl) id; have HPk := Aside0.mk (peek_tail HD.out.c HS2.out.buf HI.out ((Keep.of_below hb2 (fun _ => False)).cell HU.out.1 id) HU.out.2); clear hcp hq hb2) | (go_at_call 45; refine HPk.out.mono ?_; rintro e w3 ⟨⟨A3, cp3, v3, rfl⟩, hbf3, hk3⟩; have HBf3 := Aside0.mk hbf3; have HK3 := Aside0.mk hk3; clear hbf3 hk3))
    have hk2 : Keep w w2 (fun _ => False) := Keep.of_below HB2.out _
    have hN := HS.out.hash.le
    have hd := HD.out
    have hFb : ∀ j, Frb d.c j → j < d.N := fun j h => by
      have := hd.pN
      have := hd.bN
      have := hd.gN
      rcases h with e | e | e <;> omega
    have hs3 : St w3 d i v := ⟨HBf3.out, HS2.out.hash.keep HK3.out (fun h => by rcases h with e | e | e; exact hd.hp e; exact hd.hb e; exact hd.hg e) (fun j hj h => by have := (HS2.out.own j hj).1; have := hFb j h; omega), (HK3.out.block d.t (lt_of_block HS2.out.tee) (fun h => by rcases h with e | e | e; exact hd.tp e; exact hd.tb e; exact hd.tg e)).trans HS2.out.tee⟩
    have hkf := HKF.out
    have hdk : Dcd w3 d k le p2 := (HKd.out.keep hk2 id).keep HK3.out (fun h => by rcases h with e | e | e; exact hkf.p e; exact hkf.bb e; exact hkf.g e)
    have hq3 : QRow w3 w.heap.size 5 1 (.slice A 20 cp) 20 (nums .u8 (sha1Of (d.c.D.take i))) := q_move HQ2.out (fun j hj => HK3.out.block j (q_lt HQ2.out j hj) (fun h => by have := (q_typed HQ2.out j hj).1; have := hFb j h; omega))
    have hsh := sha1Of_ok (d.c.D.take i)
    have HF := Aside0.mk (checksum_bad (u := u) hd hs3 (by have := HI.out; omega) hdk hkf hq3 (fun j hj => (HS.out.own j hj).2) hN hsh.1 hsh.2 HCp.out HEq.out (HK3.out.cell (hk2.cell HU2.out id) (fun h => by have := hd.Lp; have := hd.Lb; have := hd.Lg; have h : Frb d.c 2 := h; rcases h with e | e | e <;> omega)))
    have hK : Keep w w3 (Fr0 d v) := Keep.trans (F := Fr0 d v) (hk2.mono (fun _ h => h.elim)) HK3.out (fun _ _ h => .inl h)
    have HK := Aside0.mk hK
    clear hk2 hN hd hFb hs3 hkf hdk hq3 hsh hK
    refine HF.out.mono ?_
    rintro e w4 ⟨rfl, hk4⟩
    have HK4 := Aside0.mk hk4
    clear hk4
    go_wp2_with fail
    go_ret
    exact ⟨rfl, HK.out.trans HK4.out (fun _ _ h => h)⟩
end Go.Proofs.YtllikhbafaohgaaGreatDoor.Idx
