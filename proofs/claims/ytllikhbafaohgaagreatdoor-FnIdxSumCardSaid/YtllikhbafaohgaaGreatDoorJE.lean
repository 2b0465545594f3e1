/- DecodeIndex where Decode tells of an error. -/
import Derived.Test.YtllikhbafaohgaaGreatDoorIZ
import Derived.Test.YtllikhbafaohgaaGreatDoorIV
namespace Go.Proofs.YtllikhbafaohgaaGreatDoor.Idx
open Go.RowKit Go.Proofs.YtllikhbafaohgaaGreatDoorW.PrintWords Go.Proofs.YtllikhbafaohgaaGreatDoorW.PrintLast Go.Proofs.YtllikhbafaohgaaGreatDoorW.PrintMore
set_option linter.unusedVariables false
set_option linter.unusedSimpArgs false

structure Sents (w : World) (a a0 a1 a2 : Addr) : Prop where
  c0 : w.cell? ⟨0, 0, none⟩ = some (.iface 179 (.pointer (some a0)))
  c1 : w.cell? ⟨1, 0, none⟩ = some (.iface 179 (.pointer (some a1)))
  c2 : w.cell? ⟨2, 0, none⟩ = some (.iface 179 (.pointer (some a2)))
  b : ∃ c t, w.heap[a.block]? = some (.cells c t (0, 0))
  b0 : ∃ c t, w.heap[a0.block]? = some (.cells c t (0, 0))
  b1 : ∃ c t, w.heap[a1.block]? = some (.cells c t (0, 0))
  b2 : ∃ c t, w.heap[a2.block]? = some (.cells c t (0, 0))
theorem Sents.below {w w' : World} {a a0 a1 a2 : Addr} (h : Sents w a a0 a1 a2) (k : Below w.heap.size w w') (h22 : 22 ≤ w.heap.size) : Sents w' a a0 a1 a2 :=
  ⟨(k.cell (show 0 < w.heap.size by omega)).trans h.c0, (k.cell (show 1 < w.heap.size by omega)).trans h.c1, (k.cell (show 2 < w.heap.size by omega)).trans h.c2, h.b.imp fun _ h => h.imp fun _ h => (k.block _ (lt_of_block h)).trans h, h.b0.imp fun _ h => h.imp fun _ h => (k.block _ (lt_of_block h)).trans h, h.b1.imp fun _ h => h.imp fun _ h => (k.block _ (lt_of_block h)).trans h, h.b2.imp fun _ h => h.imp fun _ h => (k.block _ (lt_of_block h)).trans h⟩
theorem is_no (a b : Addr) (w : World) (hne : a ≠ b) (ha : ∃ c t, w.heap[a.block]? = some (.cells c t (0, 0))) (hb : ∃ c t, w.heap[b.block]? = some (.cells c t (0, 0))) :
    Calls Tryz.prog 18 #[.iface 179 (.pointer (some a)), .iface 179 (.pointer (some b))] w fun e w' => e = .returned (.bool false) ∧ w' = w := by
  obtain ⟨ca, ta, ha⟩ := ha
  obtain ⟨cb, tb, hb⟩ := hb
  exact is_other a b ca cb ta tb w hne ha hb
set_option maxHeartbeats 4000000 in
set_option maxRecDepth 100000 in
theorem decodeIndex_bad1 {w : World} {A a a0 a1 a2 : Addr} {n cap : Nat} (h22 : 22 ≤ w.heap.size) (E : Sents w a a0 a1 a2) (h0 : a = a0)
    (hDec : ∀ w3 h p t q k, Laid (idxW w A n cap) w3 (w.heap.size + 1) h p t q k → Calls Tryz.prog 16 #[.pointer (some ⟨k, 0, none⟩), .pointer (some ⟨w.heap.size, 0, none⟩)] w3 fun e w' => e = .returned (.iface 179 (.pointer (some a))) ∧ Below w.heap.size w w') :
    Calls Tryz.prog 8 #[.slice (some A) n cap] w fun e w' => e = .returned (.tuple #[.int .u32 0, .slice none 0 0, .int .i64 1]) ∧ Below w.heap.size w w' := by
  subst h0
  obtain ⟨W1, hW1⟩ : ∃ W1, W1 = w.alloc (.cells #[.int .u32 0, .slice none 0 0, .pointer none, .pointer none, .pointer none, .int .i64 0, .int .i64 0, .int .i64 0] 47) := ⟨_, rfl⟩
  have HC15 : Aside0 (Calls Tryz.prog 15 #[.slice (some A) n cap] W1 fun e w' => e = .returned (.pointer (some ⟨w.heap.size + 1, 0, none⟩)) ∧ w' = idxW w A n cap) := ⟨by
    refine (newBytes_calls W1 (some A) n cap).mono fun e w' ⟨h1, h2⟩ => ?_
    rw [hW1] at h1 h2
    rw [World.size_alloc] at h1
    exact ⟨h1, h2⟩⟩
  have HC14 := Aside0.mk (newDecoder_calls (idxW w A n cap) (w.heap.size + 1))
  have HD := Aside0.mk hDec
  have HW1 := Aside0.mk hW1
  have HZ := Aside0.mk h22
  have HE := Aside0.mk E
  clear hW1 hDec h22 E
  go_enter Tryz.func8, Tryz.ntmps8
  go_wp2_with (first | (go_at_call 15; (try rw [← HW1.out]); refine HC15.out.mono ?_; rintro e w2 ⟨rfl, rfl⟩) | (go_at_call 14; refine HC14.out.mono ?_; rintro e w3 ⟨h, p, t, q, k, rfl, hl⟩; have HC16 := Aside0.mk (HD.out w3 h p t q k hl); clear hl) | (go_at_call 16; refine HC16.out.mono ?_; rintro e w4 ⟨rfl, hb4⟩; have HB4 := Aside0.mk hb4; have HE4 := Aside0.mk (HE.out.below hb4 HZ.out); have g0 := HE4.out.c0; have g1 := HE4.out.c1; have g2 := HE4.out.c2; clear hb4) | (go_at_call 18; with_reducible refine (is_same a w4).mono ?_; rintro e w5 ⟨rfl, hw5⟩; rw [hw5]; clear hw5))
  go_ret3
  exact ⟨rfl, HB4.out⟩
set_option maxHeartbeats 4000000 in
set_option maxRecDepth 100000 in
theorem decodeIndex_bad2 {w : World} {A a a0 a1 a2 : Addr} {n cap : Nat} (h22 : 22 ≤ w.heap.size) (E : Sents w a a0 a1 a2) (h0 : a ≠ a0) (h1 : a = a1)
    (hDec : ∀ w3 h p t q k, Laid (idxW w A n cap) w3 (w.heap.size + 1) h p t q k → Calls Tryz.prog 16 #[.pointer (some ⟨k, 0, none⟩), .pointer (some ⟨w.heap.size, 0, none⟩)] w3 fun e w' => e = .returned (.iface 179 (.pointer (some a))) ∧ Below w.heap.size w w') :
    Calls Tryz.prog 8 #[.slice (some A) n cap] w fun e w' => e = .returned (.tuple #[.int .u32 0, .slice none 0 0, .int .i64 2]) ∧ Below w.heap.size w w' := by
  subst h1
  obtain ⟨W1, hW1⟩ : ∃ W1, W1 = w.alloc (.cells #[.int .u32 0, .slice none 0 0, .pointer none, .pointer none, .pointer none, .int .i64 0, .int .i64 0, .int .i64 0] 47) := ⟨_, rfl⟩
  have HC15 : Aside0 (Calls Tryz.prog 15 #[.slice (some A) n cap] W1 fun e w' => e = .returned (.pointer (some ⟨w.heap.size + 1, 0, none⟩)) ∧ w' = idxW w A n cap) := ⟨by
    refine (newBytes_calls W1 (some A) n cap).mono fun e w' ⟨h1, h2⟩ => ?_
    rw [hW1] at h1 h2
    rw [World.size_alloc] at h1
    exact ⟨h1, h2⟩⟩
  have HC14 := Aside0.mk (newDecoder_calls (idxW w A n cap) (w.heap.size + 1))
  have HD := Aside0.mk hDec
  have HW1 := Aside0.mk hW1
  have HZ := Aside0.mk h22
  have HE := Aside0.mk E
  clear hW1 hDec h22 E
  go_enter Tryz.func8, Tryz.ntmps8
  go_wp2_with (first | (go_at_call 15; (try rw [← HW1.out]); refine HC15.out.mono ?_; rintro e w2 ⟨rfl, rfl⟩) | (go_at_call 14; refine HC14.out.mono ?_; rintro e w3 ⟨h, p, t, q, k, rfl, hl⟩; have HC16 := Aside0.mk (HD.out w3 h p t q k hl); clear hl) | (go_at_call 16; refine HC16.out.mono ?_; rintro e w4 ⟨rfl, hb4⟩; have HB4 := Aside0.mk hb4; have HE4 := Aside0.mk (HE.out.below hb4 HZ.out); have g0 := HE4.out.c0; have g1 := HE4.out.c1; have g2 := HE4.out.c2; clear hb4) | (go_at_call 18; with_reducible refine (is_no a a0 w4 h0 HE4.out.b HE4.out.b0).mono ?_; rintro e w5 ⟨rfl, hw5⟩; rw [hw5]; clear hw5) | (go_at_call 18; with_reducible refine (is_same a w4).mono ?_; rintro e w5 ⟨rfl, hw5⟩; rw [hw5]; clear hw5))
  go_ret3
  exact ⟨rfl, HB4.out⟩
set_option maxHeartbeats 4000000 in
set_option maxRecDepth 100000 in
theorem decodeIndex_bad3 {w : World} {A a a0 a1 a2 : Addr} {n cap : Nat} (h22 : 22 ≤ w.heap.size) (E : Sents w a a0 a1 a2) (h0 : a ≠ a0) (h1 : a ≠ a1) (h2 : a = a2)
    (hDec : ∀ w3 h p t q k, Laid (idxW w A n cap) w3 (w.heap.size + 1) h p t q k → Calls Tryz.prog 16 #[.pointer (some ⟨k, 0, none⟩), .pointer (some ⟨w.heap.size, 0, none⟩)] w3 fun e w' => e = .returned (.iface 179 (.pointer (some a))) ∧ Below w.heap.size w w') :
    Calls Tryz.prog 8 #[.slice (some A) n cap] w fun e w' => e = .returned (.tuple #[.int .u32 0, .slice none 0 0, .int .i64 3]) ∧ Below w.heap.size w w' := by
  subst h2
  obtain ⟨W1, hW1⟩ : ∃ W1, W1 = w.alloc (.cells #[.int .u32 0, .slice none 0 0, .pointer none, .pointer none, .pointer none, .int .i64 0, .int .i64 0, .int .i64 0] 47) := ⟨_, rfl⟩
  have HC15 : Aside0 (Calls Tryz.prog 15 #[.slice (some A) n cap] W1 fun e w' => e = .returned (.pointer (some ⟨w.heap.size + 1, 0, none⟩)) ∧ w' = idxW w A n cap) := ⟨by
    refine (newBytes_calls W1 (some A) n cap).mono fun e w' ⟨h1, h2⟩ => ?_
    rw [hW1] at h1 h2
    rw [World.size_alloc] at h1
    exact ⟨h1, h2⟩⟩
  have HC14 := Aside0.mk (newDecoder_calls (idxW w A n cap) (w.heap.size + 1))
  have HD := Aside0.mk hDec
  have HW1 := Aside0.mk hW1
  have HZ := Aside0.mk h22
  have HE := Aside0.mk E
  clear hW1 hDec h22 E
  go_enter Tryz.func8, Tryz.ntmps8
  go_wp2_with (first | (go_at_call 15; (try rw [← HW1.out]); refine HC15.out.mono ?_; rintro e w2 ⟨rfl, rfl⟩) | (go_at_call 14; refine HC14.out.mono ?_; rintro e w3 ⟨h, p, t, q, k, rfl, hl⟩; have HC16 := Aside0.mk (HD.out w3 h p t q k hl); clear hl) | (go_at_call 16; refine HC16.out.mono ?_; rintro e w4 ⟨rfl, hb4⟩; have HB4 := Aside0.mk hb4; have HE4 := Aside0.mk (HE.out.below hb4 HZ.out); have g0 := HE4.out.c0; have g1 := HE4.out.c1; have g2 := HE4.out.c2; clear hb4) | (go_at_call 18; with_reducible refine (is_no a a0 w4 h0 HE4.out.b HE4.out.b0).mono ?_; rintro e w5 ⟨rfl, hw5⟩; rw [hw5]; clear hw5) | (go_at_call 18; with_reducible refine (is_no a a1 w4 h1 HE4.out.b HE4.out.b1).mono ?_; rintro e w5 ⟨rfl, hw5⟩; rw [hw5]; clear hw5) | (go_at_call 18; with_reducible refine (is_same a w4).mono ?_; rintro e w5 ⟨rfl, hw5⟩; rw [hw5]; clear hw5))
  go_ret3
  exact ⟨rfl, HB4.out⟩
set_option maxHeartbeats 4000000 in
set_option maxRecDepth 100000 in
theorem decodeIndex_bad4 {w : World} {A a a0 a1 a2 : Addr} {n cap : Nat} (h22 : 22 ≤ w.heap.size) (E : Sents w a a0 a1 a2) (h0 : a ≠ a0) (h1 : a ≠ a1) (h2 : a ≠ a2)
    (hDec : ∀ w3 h p t q k, Laid (idxW w A n cap) w3 (w.heap.size + 1) h p t q k → Calls Tryz.prog 16 #[.pointer (some ⟨k, 0, none⟩), .pointer (some ⟨w.heap.size, 0, none⟩)] w3 fun e w' => e = .returned (.iface 179 (.pointer (some a))) ∧ Below w.heap.size w w') :
    Calls Tryz.prog 8 #[.slice (some A) n cap] w fun e w' => e = .returned (.tuple #[.int .u32 0, .slice none 0 0, .int .i64 4]) ∧ Below w.heap.size w w' := by
  obtain ⟨W1, hW1⟩ : ∃ W1, W1 = w.alloc (.cells #[.int .u32 0, .slice none 0 0, .pointer none, .pointer none, .pointer none, .int .i64 0, .int .i64 0, .int .i64 0] 47) := ⟨_, rfl⟩
  have HC15 : Aside0 (Calls Tryz.prog 15 #[.slice (some A) n cap] W1 fun e w' => e = .returned (.pointer (some ⟨w.heap.size + 1, 0, none⟩)) ∧ w' = idxW w A n cap) := ⟨by
    refine (newBytes_calls W1 (some A) n cap).mono fun e w' ⟨h1, h2⟩ => ?_
    rw [hW1] at h1 h2
    rw [World.size_alloc] at h1
    exact ⟨h1, h2⟩⟩
  have HC14 := Aside0.mk (newDecoder_calls (idxW w A n cap) (w.heap.size + 1))
  have HD := Aside0.mk hDec
  have HW1 := Aside0.mk hW1
  have HZ := Aside0.mk h22
  have HE := Aside0.mk E
  clear hW1 hDec h22 E
  go_enter Tryz.func8, Tryz.ntmps8
  go_wp2_with (first | (go_at_call 15; (try rw [← HW1.out]); refine HC15.out.mono ?_; rintro e w2 ⟨rfl, rfl⟩) | (go_at_call 14; refine HC14.out.mono ?_; rintro e w3 ⟨h, p, t, q, k, rfl, hl⟩; have HC16 := Aside0.mk (HD.out w3 h p t q k hl); clear hl) | (go_at_call 16; refine HC16.out.mono ?_; rintro e w4 ⟨rfl, hb4⟩; have HB4 := Aside0.mk hb4; have HE4 := Aside0.mk (HE.out.below hb4 HZ.out); have g0 := HE4.out.c0; have g1 := HE4.out.c1; have g2 := HE4.out.c2; clear hb4) | (go_at_call 18; with_reducible refine (is_no a a0 w4 h0 HE4.out.b HE4.out.b0).mono ?_; rintro e w5 ⟨rfl, hw5⟩; rw [hw5]; clear hw5) | (go_at_call 18; with_reducible refine (is_no a a1 w4 h1 HE4.out.b HE4.out.b1).mono ?_; rintro e w5 ⟨rfl, hw5⟩; rw [hw5]; clear hw5) | (go_at_call 18; with_reducible refine (is_no a a2 w4 h2 HE4.out.b HE4.out.b2).mono ?_; rintro e w5 ⟨rfl, hw5⟩; rw [hw5]; clear hw5))
  go_ret3
  exact ⟨rfl, HB4.out⟩
theorem decodeIndex_bad {w : World} {A a a0 a1 a2 : Addr} {n cap : Nat} (h22 : 22 ≤ w.heap.size) (E : Sents w a a0 a1 a2)
    (hDec : ∀ w3 h p t q k, Laid (idxW w A n cap) w3 (w.heap.size + 1) h p t q k → Calls Tryz.prog 16 #[.pointer (some ⟨k, 0, none⟩), .pointer (some ⟨w.heap.size, 0, none⟩)] w3 fun e w' => e = .returned (.iface 179 (.pointer (some a))) ∧ Below w.heap.size w w') :
    Calls Tryz.prog 8 #[.slice (some A) n cap] w fun e w' => ∃ r : Int, 0 < r ∧ e = .returned (.tuple #[.int .u32 0, .slice none 0 0, .int .i64 r]) ∧ Below w.heap.size w w' := by
  by_cases h0 : a = a0
  · exact (decodeIndex_bad1 h22 E h0 hDec).mono fun e w' h => ⟨1, by omega, h⟩
  by_cases h1 : a = a1
  · exact (decodeIndex_bad2 h22 E h0 h1 hDec).mono fun e w' h => ⟨2, by omega, h⟩
  by_cases h2 : a = a2
  · exact (decodeIndex_bad3 h22 E h0 h1 h2 hDec).mono fun e w' h => ⟨3, by omega, h⟩
  · exact (decodeIndex_bad4 h22 E h0 h1 h2 hDec).mono fun e w' h => ⟨4, by omega, h⟩
end Go.Proofs.YtllikhbafaohgaaGreatDoor.Idx
