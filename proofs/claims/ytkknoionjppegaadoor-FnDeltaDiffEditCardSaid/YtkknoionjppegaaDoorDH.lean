/- How large the table of an index is: one place at least. -/
import Derived.Test.YtkknoionjppegaaDoorDE
import Derived.IntWalk
namespace Go.Proofs.YtkknoionjppegaaDoor.Delta
open Go.RowKit Go.Proofs.YtkknoionjppegaaDoorW.PrintWords Go.Proofs.YtkknoionjppegaaDoorW.PrintLast Go.Proofs.YtkknoionjppegaaDoorW.PrintMore

/-- The table of lengths. -/
def LTab (w : World) : Prop := ∀ i : Nat, i < 256 → ∃ v : Int, w.cell? ⟨7, i, none⟩ = some (.int .u8 v) ∧ (0 < i → 1 ≤ v) ∧ 0 ≤ v ∧ v ≤ 8
set_option maxHeartbeats 1600000 in
set_option maxRecDepth 100000 in
theorem leading_calls (x : Nat) (w : World) (hT : LTab w) (h1 : 1 ≤ x) (h2 : x < 65536) :
    Calls Tryd.prog 49 #[.int .u32 x] w fun e w' => (∃ n : Nat, 1 ≤ n ∧ n ≤ 16 ∧ e = .returned (.int .i64 (32 - (n : Int)))) ∧ w = w' := by
  have e1 : decide ((65536 : Int) ≤ (x : Int)) = false := decide_eq_false (by omega)
  by_cases h : x < 256
  · obtain ⟨v, c, v1, v0, v8⟩ := hT x h
    have hv := v1 (by omega)
    have b0 : (0 : Int) ≤ (x : Int) := by omega
    have b1 : (x : Int) < 256 := by omega
    have e2 : decide ((256 : Int) ≤ (x : Int)) = false := decide_eq_false (by omega)
    have HV := Lib.hid (⟨hv, v8⟩ : 1 ≤ v ∧ v ≤ 8)
    clear hT v1 h h1 h2
    go_enter Tryd.func49, Tryd.ntmps49
    go_wp2_with fail
    go_ret
    obtain ⟨m, rfl⟩ := Int.eq_ofNat_of_zero_le v0
    exact ⟨⟨m, by have := HV.out; omega, by have := HV.out; omega, by simp⟩, rfl⟩
  · obtain ⟨v, c, v1, v0, v8⟩ := hT (x / 256) (by omega)
    have hv := v1 (by omega)
    have b0 : (0 : Int) ≤ (x : Int) / 256 := by omega
    have b1 : (x : Int) / 256 < 256 := by omega
    have e2 : decide ((256 : Int) ≤ (x : Int)) = true := decide_eq_true (by omega)
    have t1 : ((x : Int) / 256).toNat = x / 256 := by omega
    have HV := Lib.hid (⟨hv, v8⟩ : 1 ≤ v ∧ v ≤ 8)
    clear hT v1 h h1 h2
    go_enter Tryd.func49, Tryd.ntmps49
    go_wp2_with fail
    go_ret
    obtain ⟨m, rfl⟩ := Int.eq_ofNat_of_zero_le v0
    exact ⟨⟨8 + m, by have := HV.out; omega, by have := HV.out; omega, by congr 2⟩, rfl⟩
set_option maxHeartbeats 8000000 in
set_option maxRecDepth 100000 in
theorem tableSize_calls (c : Nat) (w : World) (hT : LTab w) (h1 : 1 ≤ c) (h2 : c < 65536) :
    Calls Tryd.prog 46 #[.int .i64 c] w fun e w' => (∃ s : Nat, 1 ≤ s ∧ s ≤ 65536 ∧ e = .returned (.int .i64 s)) ∧ w = w' := by
  have HL := Lib.hid (leading_calls c w hT h1 h2)
  have hcv : IntKind.u32.wrap (c : Int) = c := by rw [IntKind.wrap_u32]; omega
  clear hT
  go_enter Tryd.func46, Tryd.ntmps46
  go_wp2_with (go_at_call 49; refine HL.out.mono ?_; rintro e w1 ⟨⟨n, n1, n2, rfl⟩, rfl⟩; refine Hid.out ?_)
  rcases (by omega : n = 1 ∨ n = 2 ∨ n = 3 ∨ n = 4 ∨ n = 5 ∨ n = 6 ∨ n = 7 ∨ n = 8 ∨ n = 9 ∨ n = 10 ∨ n = 11 ∨ n = 12 ∨ n = 13 ∨ n = 14 ∨ n = 15 ∨ n = 16) with rfl | rfl | rfl | rfl | rfl | rfl | rfl | rfl | rfl | rfl | rfl | rfl | rfl | rfl | rfl | rfl
  all_goals
    refine Lib.hid ?_
    go_wp2_with fail
    all_goals
      go_ret
      first
        | exact ⟨⟨_, by decide, by decide, rfl⟩, rfl⟩
        | skip
end Go.Proofs.YtkknoionjppegaaDoor.Delta
