/- SHA-1: the reference's own. -/
import Derived.Test.YtllikhbafaohgaaGreatDoorIC
namespace Go.Proofs.YtllikhbafaohgaaGreatDoor.Idx
open Go.RowKit Go.Proofs.YtllikhbafaohgaaGreatDoorW.PrintWords Go.Proofs.YtllikhbafaohgaaGreatDoorW.PrintLast Go.Proofs.YtllikhbafaohgaaGreatDoorW.PrintMore Go.Proofs.YtllikhbafaohgaaGreatDoor.PFnIdxSum
set_option linter.unusedVariables false
set_option linter.unusedSimpArgs false

theorem shaRun_add : ∀ (n m : Nat) (s : S5) (D : List Int), shaRun (n + m) s D = shaRun m (shaRun n s D) (D.drop (64 * n))
  | 0, m, s, D => by rw [Nat.zero_add]; rfl
  | n + 1, m, s, D => by
    rw [show n + 1 + m = (n + m) + 1 by omega]
    show shaRun (n + m) (sha1step s (D.take 64)) (D.drop 64) = _
    rw [shaRun_add n m, List.drop_drop, show 64 + 64 * n = 64 * (n + 1) by omega]
    rfl
/-- Both ways to the sum. -/
def sha1Of (D : List Int) : List Int := digestOf (shaRun ((padOf D D.length).length / 64) sha0 (padOf D D.length))
theorem pad_drop (D : List Int) (k : Nat) (hk : 64 * k ≤ D.length) : (padOf D D.length).drop (64 * k) = padOf (D.drop (64 * k)) D.length := by
  unfold padOf
  have e : ((D.drop (64 * k)) ++ [(128 : Int)]).length % 64 = (D ++ [(128 : Int)]).length % 64 := by
    rw [List.length_append, List.length_append, List.length_drop]
    simp only [List.length_singleton]
    omega
  rw [e, List.append_assoc, List.append_assoc, List.drop_append_of_le_length (by omega), ← List.append_assoc, ← List.append_assoc]
theorem pad_len (D : List Int) (n : Nat) : (padOf D n).length % 64 = 0 := by
  unfold padOf len8
  simp only [List.length_append, List.length_replicate, List.length_cons, List.length_nil]
  omega
theorem sum_is (D : List Int) : digestOf (shaRun ((padOf (restOf D) D.length).length / 64) (shaOf D) (padOf (restOf D) D.length)) = sha1Of D := by
  have hk : 64 * (D.length / 64) ≤ D.length := by omega
  have h1 : padOf (restOf D) D.length = (padOf D D.length).drop (64 * (D.length / 64)) := (pad_drop D _ hk).symm
  have hle : D.length ≤ (padOf D D.length).length := by
    unfold padOf
    simp only [List.length_append, List.length_singleton]
    omega
  unfold sha1Of
  rw [h1]
  congr 1
  have h2 : (padOf D D.length).length / 64 = D.length / 64 + ((padOf D D.length).drop (64 * (D.length / 64))).length / 64 := by
    rw [List.length_drop]
    have := pad_len D D.length
    omega
  rw [h2, shaRun_add]
  congr 1
  unfold shaOf
  unfold padOf
  rw [List.append_assoc, List.append_assoc, shaRun_append _ _ _ _ hk]
set_option maxHeartbeats 2000000 in
set_option maxRecDepth 100000 in
theorem big32_calls {w : World} {g o n c : Nat} {y0 y1 y2 y3 : Int} (hn : 4 ≤ n) (hl : n ≤ 1000000200) (h0 : w.cell? ⟨g, o, none⟩ = some (.int .u8 y0)) (h1 : w.cell? ⟨g, o + 1, none⟩ = some (.int .u8 y1)) (h2 : w.cell? ⟨g, o + 2, none⟩ = some (.int .u8 y2)) (h3 : w.cell? ⟨g, o + 3, none⟩ = some (.int .u8 y3)) :
    Calls Tryz.prog 19 #[.slice (some ⟨g, o, none⟩) n c] w fun e w' => e = .returned (.int .u32 (word4 y0 y1 y2 y3)) ∧ Drawn0 w w' := by
  have i0 : (0 : Int) < (n : Int) := by omega
  have i1 : (1 : Int) < (n : Int) := by omega
  have i2 : (2 : Int) < (n : Int) := by omega
  have i3 : (3 : Int) < (n : Int) := by omega
  have j0 : 0 < n := by omega
  have j1 : 1 < n := by omega
  have j2 : 2 < n := by omega
  have j3 : 3 < n := by omega
  go_enter Tryz.func19, Tryz.ntmps19
  go_wp2_with fail
  go_quiet (fail)
  go_wp2_with fail
  go_ret
  exact ⟨by unfold word4; first | rfl | skip, by repeat (first | exact Drawn0.refl _ | apply Drawn0.step)⟩
set_option maxHeartbeats 2000000 in
set_option maxRecDepth 100000 in
theorem turn1_calls (x : Int) (w : World) : Calls Tryz.prog 20 #[.int .u32 x, .int .u64 1] w fun e w' => e = .returned (.int .u32 (rot1 x)) ∧ w' = w := by
  go_enter Tryz.func20, Tryz.ntmps20
  go_wp2_with fail
  go_ret
  exact ⟨by unfold rot1; first | rfl | skip, rfl⟩
set_option maxHeartbeats 2000000 in
set_option maxRecDepth 100000 in
theorem turn5_calls (x : Int) (w : World) : Calls Tryz.prog 20 #[.int .u32 x, .int .u64 5] w fun e w' => e = .returned (.int .u32 (Go.bits .or .u32 (x * 32 % 4294967296) (x / 134217728))) ∧ w' = w := by
  go_enter Tryz.func20, Tryz.ntmps20
  go_wp2_with fail
  go_ret
  exact ⟨by first | rfl | skip, rfl⟩
set_option maxHeartbeats 2000000 in
set_option maxRecDepth 100000 in
theorem turn30_calls (x : Int) (w : World) : Calls Tryz.prog 20 #[.int .u32 x, .int .u64 30] w fun e w' => e = .returned (.int .u32 (Go.bits .or .u32 (x * 1073741824 % 4294967296) (x / 4))) ∧ w' = w := by
  go_enter Tryz.func20, Tryz.ntmps20
  go_wp2_with fail
  go_ret
  exact ⟨by first | rfl | skip, rfl⟩
end Go.Proofs.YtllikhbafaohgaaGreatDoor.Idx
