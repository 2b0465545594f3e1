/- The flags of a file. -/
import Derived.Test.YtllikhbafaohgaaGreatDoorJB
namespace Go.Proofs.YtllikhbafaohgaaGreatDoor.Idx
open Go.RowKit Go.Proofs.YtllikhbafaohgaaGreatDoorW.PrintWords Go.Proofs.YtllikhbafaohgaaGreatDoorW.PrintLast Go.Proofs.YtllikhbafaohgaaGreatDoorW.PrintMore
set_option linter.unusedVariables false
set_option linter.unusedSimpArgs false

theorem flags_all : ∀ (s : Fin 4) (h : Fin 16) (l : Fin 256), let x := Go.bits .or .u32 (((s.val : Nat) : Int) * 4096) ((256 * h.val + l.val : Nat) : Int); Go.bits .and .u16 (bigOf (be2 x) % 65536) 4095 = ((256 * h.val + l.val : Nat) : Int) ∧ Go.bits .and .u16 (bigOf (be2 x) % 65536) 16384 = 0 := by decide +kernel
theorem flags_ok {s : Int} {n : Nat} (h0 : 0 ≤ s) (h3 : s ≤ 3) (hn : n < 4000) : Go.bits .and .u16 (bigOf (be2 (Go.bits .or .u32 (s * 4096) (n : Int))) % 65536) 4095 = (n : Int) ∧ Go.bits .and .u16 (bigOf (be2 (Go.bits .or .u32 (s * 4096) (n : Int))) % 65536) 16384 = 0 := by
  have := flags_all ⟨s.toNat, by omega⟩ ⟨n / 256, by omega⟩ ⟨n % 256, by omega⟩
  dsimp only at this
  rwa [show ((s.toNat : Nat) : Int) = s by omega, show 256 * (n / 256) + n % 256 = n by omega] at this
end Go.Proofs.YtllikhbafaohgaaGreatDoor.Idx
