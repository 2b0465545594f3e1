/- Digits in base 16, four of them; the prefix of an error line. -/
import Derived.Test.YtbgimkjodpjnfaaDoorProtoB
import Derived.Test.YtbgimkjodpjnfaaDoorPFnProtoFirstReadx3
import Derived.Lib.SlBytesConst
namespace Go.Proofs.YtbgimkjodpjnfaaDoor.Proto
open Go.RowKit Go.Proofs.YtbgimkjodpjnfaaDoorW.PrintWords Go.Proofs.YtbgimkjodpjnfaaDoorW.PrintLast Go.Proofs.YtbgimkjodpjnfaaDoorW.PrintMore Go.Proofs.YtbgimkjodpjnfaaDoor.PFnProtoFirstRead

/-- b is the digit of d: 0 to 9, or a to f. -/
def HexD (b d : Int) : Prop := (48 ≤ b ∧ b ≤ 57 ∧ d = b - 48) ∨ (97 ≤ b ∧ b ≤ 102 ∧ d = b - 87)
set_option maxHeartbeats 1000000 in
set_option maxRecDepth 100000 in
theorem hexByte_calls (b d : Int) (w : World) (h : HexD b d) : Calls Tryd.prog 83 #[.int .u8 b] w fun e w' => e = .returned (.tuple #[.int .u8 d, .nilIface]) ∧ w = w' := by
  rcases h with ⟨h1, h2, rfl⟩ | ⟨h1, h2, rfl⟩
  · have d1 : decide (48 ≤ b) = true := by simpa using h1
    have d2 : decide (b ≤ 57) = true := by simpa using h2
    go_enter Tryd.func83, Tryd.ntmps83
    go_wp2_with fail
    go_ret2
    refine ⟨?_, rfl⟩
    go_num
  · have d1 : decide (48 ≤ b) = true := by simp; omega
    have d2 : decide (b ≤ 57) = false := by simp; omega
    have d3 : decide (97 ≤ b) = true := by simpa using h1
    have d4 : decide (b ≤ 102) = true := by simpa using h2
    go_enter Tryd.func83, Tryd.ntmps83
    go_wp2_with fail
    go_ret2
    refine ⟨?_, rfl⟩
    go_num

set_option maxHeartbeats 1000000 in
set_option maxRecDepth 100000 in
theorem errPrefix_calls (w : World) : Calls Tryd.prog 66 #[] w fun e w' => e = .returned (.slice (some ⟨w.heap.size, 0, none⟩) 4 4) ∧ w' = w.alloc (.cells #[.int .u8 69, .int .u8 82, .int .u8 82, .int .u8 32] 5 (4, 5)) := by
  have kc := fun (w : World) (C : Array Value) (n c : Nat) => Lib.run_convert_bytes_const (P := Tryd.prog) w 36 5 C n c Tryd.underlying36 Tryd.underlying5
  go_enter Tryd.func66, Tryd.ntmps66
  go_wp2_with fail
  go_ret
  exact ⟨rfl, rfl⟩
set_option maxHeartbeats 1000000 in
set_option maxRecDepth 100000 in
theorem null_calls (w : World) : Calls Tryd.prog 53 #[] w fun e w' => e = .returned (.slice (some ⟨w.heap.size, 0, none⟩) 1 1) ∧ w' = w.alloc (.cells #[.int .u8 0] 5 (1, 2)) := by
  have kc := fun (w : World) (C : Array Value) (n c : Nat) => Lib.run_convert_bytes_const (P := Tryd.prog) w 36 5 C n c Tryd.underlying36 Tryd.underlying5
  go_enter Tryd.func53, Tryd.ntmps53
  go_wp2_with fail
  go_ret
  exact ⟨rfl, rfl⟩

set_option maxHeartbeats 4000000 in
set_option maxRecDepth 100000 in
theorem hexDecode_calls (b0 b1 b2 b3 d0 d1 d2 d3 : Int) (w : World) (h0 : HexD b0 d0) (h1 : HexD b1 d1) (h2 : HexD b2 d2) (h3 : HexD b3 d3) :
    Calls Tryd.prog 74 #[.agg #[.int .u8 b0, .int .u8 b1, .int .u8 b2, .int .u8 b3]] w fun e w' => e = .returned (.tuple #[.int .i64 (16 * (16 * (16 * d0 + d1) + d2) + d3), .nilIface]) ∧ w' = w.alloc (.cells #[.int .u8 b0, .int .u8 b1, .int .u8 b2, .int .u8 b3] 111) := by
  have r0 : 0 ≤ d0 ∧ d0 ≤ 15 := by rcases h0 with h | h <;> omega
  have r1 : 0 ≤ d1 ∧ d1 ≤ 15 := by rcases h1 with h | h <;> omega
  have r2 : 0 ≤ d2 ∧ d2 ≤ 15 := by rcases h2 with h | h <;> omega
  have r3 : 0 ≤ d3 ∧ d3 ≤ 15 := by rcases h3 with h | h <;> omega
  have R := Aside0.mk (And.intro r0 (And.intro r1 (And.intro r2 r3)))
  have C0 := Aside0.mk (fun w => hexByte_calls b0 d0 w h0)
  have C1 := Aside0.mk (fun w => hexByte_calls b1 d1 w h1)
  have C2 := Aside0.mk (fun w => hexByte_calls b2 d2 w h2)
  have C3 := Aside0.mk (fun w => hexByte_calls b3 d3 w h3)
  obtain ⟨x1, hx1⟩ : ∃ x, x = 16 * d0 + d1 := ⟨_, rfl⟩
  obtain ⟨x2, hx2⟩ : ∃ x, x = 16 * x1 + d2 := ⟨_, rfl⟩
  obtain ⟨x3, hx3⟩ : ∃ x, x = 16 * x2 + d3 := ⟨_, rfl⟩
  rw [← hx1, ← hx2, ← hx3]
  have X := Aside0.mk (And.intro hx1 (And.intro hx2 hx3))
  clear h0 h1 h2 h3 r0 r1 r2 r3 hx1 hx2 hx3
  go_enter Tryd.func74, Tryd.ntmps74
  go_wp2_with fail
  go_loopg [4, 5] 4 (fun kq v4 v5 w' => Aside0 (w' = w.alloc (.cells #[.int .u8 b0, .int .u8 b1, .int .u8 b2, .int .u8 b3] 111)) ∧ ((kq = 4 ∧ v4 = .int .i64 0 ∧ v5 = .int .i64 0) ∨ (kq = 3 ∧ v4 = .int .i64 d0 ∧ v5 = .int .i64 1) ∨ (kq = 2 ∧ v4 = .int .i64 x1 ∧ v5 = .int .i64 2) ∨ (kq = 1 ∧ v4 = .int .i64 x2 ∧ v5 = .int .i64 3) ∨ (kq = 0 ∧ v4 = .int .i64 x3 ∧ v5 = .int .i64 4)))
  case atStart => exact ⟨⟨rfl⟩, .inl ⟨rfl, rfl, rfl⟩⟩
  case round =>
    obtain ⟨HW, hrel⟩ := hrel
    have hw := HW.out
    subst hw
    rcases hrel with ⟨rfl, rfl, rfl⟩ | ⟨rfl, rfl, rfl⟩ | ⟨rfl, rfl, rfl⟩ | ⟨rfl, rfl, rfl⟩ | ⟨rfl, rfl, rfl⟩
    · go_wp2_with (go_at_call 83; refine (C0.out _).mono ?_; rintro e w2 ⟨rfl, rfl⟩)
      go_roundg 3
      case measure => omega
      case rel => exact ⟨⟨rfl⟩, .inr (.inl ⟨rfl, by have := R.out; congr 1; unfold wrap64; omega, rfl⟩)⟩
    · go_wp2_with (go_at_call 83; refine (C1.out _).mono ?_; rintro e w2 ⟨rfl, rfl⟩)
      go_roundg 2
      case measure => omega
      case rel => exact ⟨⟨rfl⟩, .inr (.inr (.inl ⟨rfl, by have := R.out; have := X.out; congr 1; unfold wrap64; omega, rfl⟩))⟩
    · go_wp2_with (go_at_call 83; refine (C2.out _).mono ?_; rintro e w2 ⟨rfl, rfl⟩)
      go_roundg 1
      case measure => omega
      case rel => exact ⟨⟨rfl⟩, .inr (.inr (.inr (.inl ⟨rfl, by have := R.out; have := X.out; congr 1; unfold wrap64; omega, rfl⟩)))⟩
    · go_wp2_with (go_at_call 83; refine (C3.out _).mono ?_; rintro e w2 ⟨rfl, rfl⟩)
      go_roundg 0
      case measure => omega
      case rel => exact ⟨⟨rfl⟩, .inr (.inr (.inr (.inr ⟨rfl, by have := R.out; have := X.out; congr 1; unfold wrap64; omega, rfl⟩)))⟩
    · go_wp2_with fail
      go_ret2
      exact ⟨rfl, rfl⟩
end Go.Proofs.YtbgimkjodpjnfaaDoor.Proto
