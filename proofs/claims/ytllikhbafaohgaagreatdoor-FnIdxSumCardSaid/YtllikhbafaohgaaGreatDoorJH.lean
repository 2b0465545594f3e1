/- DecodeIndex where Decode tells of none. -/
import Derived.Test.YtllikhbafaohgaaGreatDoorJE
import Derived.Test.YtllikhbafaohgaaGreatDoorJG
namespace Go.Proofs.YtllikhbafaohgaaGreatDoor.Idx
open Go.RowKit Go.Proofs.YtllikhbafaohgaaGreatDoorW.PrintWords Go.Proofs.YtllikhbafaohgaaGreatDoorW.PrintLast Go.Proofs.YtllikhbafaohgaaGreatDoorW.PrintMore
set_option linter.unusedVariables false
set_option linter.unusedSimpArgs false

set_option maxHeartbeats 4000000 in
set_option maxRecDepth 100000 in
theorem decodeIndex_good {w : World} {A : Addr} {n cap : Nat} (h22 : 22 ≤ w.heap.size)
    (hDec : ∀ w3 h p t q k, Laid (idxW w A n cap) w3 (w.heap.size + 1) h p t q k → Calls Tryz.prog 16 #[.pointer (some ⟨k, 0, none⟩), .pointer (some ⟨w.heap.size, 0, none⟩)] w3 fun e w' => e = .returned .nilIface ∧ (∃ M ev ps, EntS w' M w.heap.size ev ps ∧ ps.length ≤ 1000) ∧ Below w.heap.size w w') :
    Calls Tryz.prog 8 #[.slice (some A) n cap] w fun e w' => (∃ u v, e = .returned (.tuple #[u, v, .int .i64 0])) ∧ Below w.heap.size w w' := by
  obtain ⟨W1, hW1⟩ : ∃ W1, W1 = w.alloc (.cells #[.int .u32 0, .slice none 0 0, .pointer none, .pointer none, .pointer none, .int .i64 0, .int .i64 0, .int .i64 0] 47) := ⟨_, rfl⟩
  have HC15 : Aside0 (Calls Tryz.prog 15 #[.slice (some A) n cap] W1 fun e w' => e = .returned (.pointer (some ⟨w.heap.size + 1, 0, none⟩)) ∧ w' = idxW w A n cap) := ⟨by
    refine (newBytes_calls W1 (some A) n cap).mono fun e w' ⟨h1, h2⟩ => ?_
    rw [hW1] at h1 h2
    rw [World.size_alloc] at h1
    exact ⟨h1, h2⟩⟩
  have HC14 := Aside0.mk (newDecoder_calls (idxW w A n cap) (w.heap.size + 1))
  have HD := Aside0.mk hDec
  have HW1 := Aside0.mk hW1
  have HZ := Aside0.mk h22
  clear hW1 hDec h22
  go_enter Tryz.func8, Tryz.ntmps8
  go_upto_region 4 with (first | (go_at_call 15; (try rw [← HW1.out]); refine HC15.out.mono ?_; rintro e w2 ⟨rfl, rfl⟩) | (go_at_call 14; refine HC14.out.mono ?_; rintro e w3 ⟨h, p, t, q, k, rfl, hl⟩; have HC16 := Aside0.mk (HD.out w3 h p t q k hl); clear hl) | (go_at_call 16; refine HC16.out.mono ?_; rintro e w4 ⟨rfl, ⟨M, ev, ps, hE4, hn4⟩, hb4⟩; have HB4 := Aside0.mk hb4; have HE4 := Aside0.mk hE4; have HN4 := Aside0.mk hn4; clear hb4 hE4 hn4))
  have k0 : w4.drew.cell? ⟨w.heap.size, 0, none⟩ = some (.int .u32 2) := cell_of (w := w4.drew) HE4.out.idx 0 rfl
  have k0' : w4.cell? ⟨w.heap.size, 0, none⟩ = some (.int .u32 2) := cell_of HE4.out.idx 0 rfl
  have HC17 : Aside0 (∀ q, Calls Tryz.prog 17 #[.pointer (some ⟨w.heap.size, 0, none⟩)] (w4.drewN q) fun e w' => (∃ v, e = .returned v) ∧ Below w4.heap.size w4 w') := ⟨fun q => by
    have hk : Keep w4 (w4.drewN q) (fun _ => False) := (Keep.refl w4 (fun _ => False)).drewN q
    refine (filesOf_calls (HE4.out.keep hk id (fun _ _ h => h) (fun _ _ _ _ h => h)) HN4.out).mono fun e w' ⟨h1, h2⟩ => ⟨h1, ⟨h2.os, h2.tape, h2.output, h2.size, h2.block⟩⟩⟩
  go_region_held3 (fun w' => w'.cell? ⟨w.heap.size, 0, none⟩ = some (.int .u32 2)) (first | (with_reducible exact k0) | (with_reducible exact k5) | (with_reducible exact k0') | (fail)) ((go_at_call 17; refine (HC17.out _).mono ?_; rintro e w5 ⟨⟨v5, rfl⟩, hb5⟩; have HB5 := Aside0.mk hb5; have k5 : w5.cell? ⟨w.heap.size, 0, none⟩ = some (.int .u32 2) := (hb5.cell (lt_of_block HE4.out.idx)).trans k0'; clear hb5))
  go_wp2_with fail
  go_ret3
  exact ⟨⟨_, _, rfl⟩, HB4.out.trans (HB5.out.mono HB4.out.size)⟩
end Go.Proofs.YtllikhbafaohgaaGreatDoor.Idx
