/- The files of an index are told. -/
import Derived.Test.YtllikhbafaohgaaGreatDoorIV
import Derived.Test.YtllikhbafaohgaaGreatDoorIX
namespace Go.Proofs.YtllikhbafaohgaaGreatDoor.Idx
open Go.RowKit Go.Proofs.YtllikhbafaohgaaGreatDoorW.PrintWords Go.Proofs.YtllikhbafaohgaaGreatDoorW.PrintLast Go.Proofs.YtllikhbafaohgaaGreatDoorW.PrintMore
set_option linter.unusedVariables false
set_option linter.unusedSimpArgs false

theorem and15 : ∀ n : Fin 256, 0 ≤ Go.bits .and .u8 (n.val : Int) 15 ∧ Go.bits .and .u8 (n.val : Int) 15 < 16 := by decide +kernel
theorem and15' {x : Int} (h0 : 0 ≤ x) (h1 : x < 256) : 0 ≤ Go.bits .and .u8 x 15 ∧ Go.bits .and .u8 x 15 < 16 := by
  have := and15 ⟨x.toNat, by omega⟩
  rwa [show ((x.toNat : Nat) : Int) = x by omega] at this
theorem hex_some (src : List Int) (hs : ∀ y ∈ src, 0 ≤ y ∧ y < 256) (hl : src.length ≤ 1000) : ∀ (m k : Nat) (dst x1 : List Int) (i : Nat), m + i = src.length → dst.length = 2 * src.length → m < k → ∃ r, PFnIdxSum.hex_Encode.l0 k dst x1 (2 * i : Nat) src (src.length : Int) (i : Nat) = some r := by
  intro m
  induction m with
  | zero =>
    intro k dst x1 i hi hd hk
    obtain ⟨k, rfl⟩ : ∃ n, k = n + 1 := ⟨k - 1, by omega⟩
    rw [PFnIdxSum.hex_Encode.l0, if_neg (by omega)]
    exact ⟨_, rfl⟩
  | succ m ih =>
    intro k dst x1 i hi hd hk
    obtain ⟨k, rfl⟩ : ∃ n, k = n + 1 := ⟨k - 1, by omega⟩
    have g1 : m + (i + 1) = src.length := by omega
    have g2 : m < k := by omega
    have g3 : ((i : Nat) : Int) < (src.length : Int) := by omega
    have g4 : (0 : Int) ≤ ((i : Nat) : Int) := by omega
    have g5 : (0 : Int) ≤ ((2 * i : Nat) : Int) := by omega
    have g6 : ((2 * i : Nat) : Int) < (dst.length : Int) := by omega
    have g7 : (0 : Int) ≤ ((2 * i + 1 : Nat) : Int) := by omega
    have g8 : ((2 * i + 1 : Nat) : Int) < (dst.length : Int) := by omega
    have hx : ∃ y, rd src (i : Int) = y ∧ 0 ≤ y ∧ y < 256 := by
      refine ⟨_, rfl, ?_⟩
      have hlt : i < src.length := by omega
      have e : rd src (i : Int) = src[i] := by
        unfold rd
        rw [Int.toNat_natCast, List.getD_eq_getElem?_getD, List.getElem?_eq_getElem hlt]
        rfl
      rw [e]
      exact hs _ (List.getElem_mem hlt)
    obtain ⟨y, hy, h0, h1⟩ := hx
    have ha := and15' h0 h1
    have e1 : wrap64 (((2 * i : Nat) : Int) + 1) = ((2 * i + 1 : Nat) : Int) := by unfold wrap64; omega
    have e2 : wrap64 (((2 * i : Nat) : Int) + 2) = ((2 * (i + 1) : Nat) : Int) := by unfold wrap64; omega
    have e3 : wrap64 (((i : Nat) : Int) + 1) = ((i + 1 : Nat) : Int) := by unfold wrap64; omega
    have q1 : 0 ≤ y / 16 := by omega
    have q2 : y / 16 < 16 := by omega
    rw [PFnIdxSum.hex_Encode.l0, if_pos g3, if_pos g4, if_pos g3, hy, if_pos q1, if_pos q2, if_pos g5, if_pos g6, if_pos ha.1, if_pos ha.2, e1, if_pos g7, if_pos g8, e2, e3]
    exact ih k _ _ (i + 1) g1 (by rw [List.length_set, List.length_set]; exact hd) g2
theorem hex_any {l : List Int} (hl : l.length = 20) (hs : ∀ y ∈ l, 0 ≤ y ∧ y < 256) : ∃ r, PFnIdxSum.hex_EncodeToString.f 21 l = some r := by
  obtain ⟨r, hr⟩ := hex_some l hs (by omega) 20 21 (List.replicate 40 0) l 0 (by omega) (by simp [hl]) (by omega)
  unfold PFnIdxSum.hex_EncodeToString.f PFnIdxSum.hex_EncodedLen.f PFnIdxSum.hex_Encode.f
  rw [Option.bind_some, hl, show wrap64 (((20 : Nat) : Int) * 2) = 40 by unfold wrap64; omega, if_pos (by omega), if_pos (by decide)]
  rw [hl] at hr
  have hr' : PFnIdxSum.hex_Encode.l0 21 (List.replicate (Int.toNat 40) 0) l 0 l ((20 : Nat) : Int) 0 = some r := hr
  rw [hr', Option.bind_some]
  exact ⟨_, rfl⟩
set_option maxHeartbeats 4000000 in
set_option maxRecDepth 100000 in
theorem stamp_any (a0 a1 a2 : Int) (w : World) : Calls Tryz.prog 48 #[.agg #[.int .i64 a0, .int .i64 a1, .int .i64 a2]] w fun e w' => ∃ r1 r2 : Int, e = .returned (.agg #[.int .i64 r1, .int .i64 r2]) ∧ Below w.heap.size w w' := by
  have h : ∃ r1 r2 : Int, PFnIdxSum.impl_stampOf.f a0 a1 a2 = some (r1, r2) := by
    unfold PFnIdxSum.impl_stampOf.f PFnIdxSum.zztime_Time_IsZero.f PFnIdxSum.zztime_Time_Unix.f PFnIdxSum.zztime_Time_Nanosecond.f
    split
    · rw [Option.bind_some]
      split
      · exact ⟨_, _, rfl⟩
      · exact ⟨_, _, rfl⟩
    · exact ⟨_, _, rfl⟩
  obtain ⟨r1, r2, h⟩ := h
  exact (PFnIdxSum.impl_stampOf.calls a0 a1 a2 r1 r2 w h).mono fun e w' ⟨h1, h2⟩ => ⟨r1, r2, h1, h2⟩
def hashV (l : List Int) : Value := .agg (nums .u8 l).toArray
set_option maxHeartbeats 4000000 in
set_option maxRecDepth 100000 in
theorem hashString_any {h0 h1 h2 h3 h4 h5 h6 h7 h8 h9 h10 h11 h12 h13 h14 h15 h16 h17 h18 h19 : Int} (hs : ∀ y ∈ ([h0, h1, h2, h3, h4, h5, h6, h7, h8, h9, h10, h11, h12, h13, h14, h15, h16, h17, h18, h19] : List Int), 0 ≤ y ∧ y < 256) (w : World) : Calls Tryz.prog 49 #[.agg #[.int .u8 h0, .int .u8 h1, .int .u8 h2, .int .u8 h3, .int .u8 h4, .int .u8 h5, .int .u8 h6, .int .u8 h7, .int .u8 h8, .int .u8 h9, .int .u8 h10, .int .u8 h11, .int .u8 h12, .int .u8 h13, .int .u8 h14, .int .u8 h15, .int .u8 h16, .int .u8 h17, .int .u8 h18, .int .u8 h19]] w fun e w' => ∃ r, e = .returned (.string r) ∧ Below w.heap.size w w' := by
  obtain ⟨r, hr⟩ := hex_any (l := [h0, h1, h2, h3, h4, h5, h6, h7, h8, h9, h10, h11, h12, h13, h14, h15, h16, h17, h18, h19]) rfl hs
  obtain ⟨W1, hW1⟩ : ∃ W1, W1 = w.alloc (.cells #[.int .u8 h0, .int .u8 h1, .int .u8 h2, .int .u8 h3, .int .u8 h4, .int .u8 h5, .int .u8 h6, .int .u8 h7, .int .u8 h8, .int .u8 h9, .int .u8 h10, .int .u8 h11, .int .u8 h12, .int .u8 h13, .int .u8 h14, .int .u8 h15, .int .u8 h16, .int .u8 h17, .int .u8 h18, .int .u8 h19] 114) := ⟨_, rfl⟩
  have hb1 : Below w.heap.size w W1 := by rw [hW1]; exact below_alloc (Below.refl _ _) _
  have hnew : W1.heap[w.heap.size]? = some (.cells (nums .u8 [h0, h1, h2, h3, h4, h5, h6, h7, h8, h9, h10, h11, h12, h13, h14, h15, h16, h17, h18, h19]).toArray 114 (0, 0)) := by rw [hW1]; exact heap_alloc_new w _
  have HC := Aside0.mk (PFnIdxSum.hex_EncodeToString.calls 21 (some ⟨w.heap.size, 0, none⟩) 20 [h0, h1, h2, h3, h4, h5, h6, h7, h8, h9, h10, h11, h12, h13, h14, h15, h16, h17, h18, h19] r W1 (C_of hnew rfl (by show 20 ≤ 1000000000; omega) (fun j v hj => by rw [Nat.zero_add]; exact hj)) (Nat.le_refl 20) hr)
  have hsl := slice114 w.heap.size 0
  have HB1 := Aside0.mk hb1
  have HW1 := Aside0.mk hW1
  clear hW1 hb1 hnew hr hs
  go_enter Tryz.func49, Tryz.ntmps49
  go_wp2_with (go_at_call 73; rw [← HW1.out]; refine HC.out.mono ?_; rintro e w2 ⟨rfl, hb2⟩; have HB2 := Aside0.mk hb2; clear hb2)
  go_ret
  exact ⟨r, rfl, HB1.out.trans (HB2.out.mono HB1.out.size)⟩
end Go.Proofs.YtllikhbafaohgaaGreatDoor.Idx
