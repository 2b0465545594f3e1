-- PRINTED BY print.sh 35421559b90ae4d0a3588c463048766b98c2df88dd9212a6774a882060cdf62d: not written by this session
import Derived.Test.YtllikhbafaohgaaGreatDoorProg
import Derived.Below
import Derived.Deep.Draws
import Derived.Deep.AppendLies
import Derived.Maps.AppendAt
import Derived.OwnWalk
import Derived.Laws.BytesArg
import Derived.Laws.MakeOwn
import Derived.Laws.OwnMore
import Derived.Deep.OwnRows
import Derived.Tactics
import Derived.Lib.ConvBytes
import Derived.Laws.Slices
import Derived.WalkKit
import Derived.KernelRfl
import Derived.RowKit3
import Derived.Deep.LoopGhost
import Derived.Deep.QuietTactic
import Derived.BigQuiet
import Derived.WideLaws
import Derived.Deep.DeepCutAuto
import Derived.Deep.CutBlock
import Derived.Deep.RegionHeld3
import Derived.Laws.Rows
import Derived.Lib.AppendStr
import Derived.ArgAppend
import Derived.Laws.IdiomCopy
import Derived.OrdersHeld
import Derived.Laws.BitsLemmas
import Derived.RowKit
import Derived.Test.YtllikhbafaohgaaGreatDoorWWords
import Derived.Test.YtllikhbafaohgaaGreatDoorWLast
import Derived.Test.YtllikhbafaohgaaGreatDoorWTab
import Derived.Test.YtllikhbafaohgaaGreatDoorWApart
import Derived.Test.YtllikhbafaohgaaGreatDoorWFoot
import Derived.Test.YtllikhbafaohgaaGreatDoorWKept
import Derived.Test.YtllikhbafaohgaaGreatDoorWRepsOne
import Derived.Test.YtllikhbafaohgaaGreatDoorWMore
namespace Go.Proofs.YtllikhbafaohgaaGreatDoor.PFnIdxSum
open Go.RowKit Go.Proofs.YtllikhbafaohgaaGreatDoorW.PrintWords Go.Proofs.YtllikhbafaohgaaGreatDoorW.PrintLast Go.Proofs.YtllikhbafaohgaaGreatDoorW.PrintMore
attribute [local go_sem] max2_int min2_int max_two min_two max_three min_three max_four min_four   -- for this text's walks alone
set_option linter.unusedVariables false
set_option linter.unusedSimpArgs false

def errW : Option Int → Value
  | none => .nilIface
  | some c => .iface 229 (.int .i64 c)
theorem errW_none : errW none = .nilIface := rfl
theorem errW_some (c : Int) : errW (some c) = .iface 229 (.int .i64 c) := rfl

theorem info5 : (Tryz.prog.info? 5).map (fun i => (i.zero, i.size, i.bytes)) = some (some (.int .u8 0), 1, 1) := by kernel_rfl
-- the values' own types
/-! #### struct type 33 -/
structure S33 where
  f0 : Int
  f1 : Int
def z33 : S33 := ⟨(0 : Int), (0 : Int)⟩
def k33 : Kd S33 := Kd.iso (Kd.pair (Kd.int .i64) (Kd.int .i64)) (fun x : S33 => (x.f0, x.f1))
theorem k33_open {w : World} {x : S33} {cs : List Value} (h : k33.K w x cs) : cs = [.int .i64 x.f0, .int .i64 x.f1] := by
  obtain ⟨_, _, rfl, rfl, rfl⟩ := h
  exact rfl
theorem k33_mk (w : World) (x : S33)  : k33.K w x [.int .i64 x.f0, .int .i64 x.f1] := ⟨[.int .i64 x.f0], [.int .i64 x.f1], rfl, rfl, rfl⟩
theorem k33_mkM (w : World) (base : Nat) (ok : Nat → Prop) (x : S33)  : k33.M w base ok x [.int .i64 x.f0, .int .i64 x.f1] := ⟨[.int .i64 x.f0], [.int .i64 x.f1], rfl, rfl, rfl⟩
def rd_T33 (xs : List S33) (i : Int) : S33 := xs.getD i.toNat z33
theorem at_T33 {w : World} {A : Option Addr} {n : Nat} {xs : List S33} (h : Kd.C k33 w A n xs) (i : Int) (h0 : 0 ≤ i) (h1 : i < n) : ∃ ad , A = some ad ∧ w.cell? (ad.add (i.toNat * 2)) = some (.int .i64 (rd_T33 xs i).f0) ∧ w.cell? ⟨(ad.add (i.toNat * 2)).block, (ad.add (i.toNat * 2)).off + 1, none⟩ = some (.int .i64 (rd_T33 xs i).f1) := by
  obtain ⟨ad, c, e, _, hK, hc0⟩ := Kd.C_get h z33 i h0 h1
  have hc : ∀ j u, c[j]? = some u → w.cell? (ad.add (i.toNat * 2 + j)) = some u := hc0
  obtain rfl := k33_open hK
  exact ⟨ad, e, hc 0 _ rfl, by rw [← add_field _ _ 1 (by omega)]; exact hc 1 _ rfl⟩

/-! #### struct type 35 -/
structure S35 where
  f0 : S33
  f1 : S33
  f2 : Int
  f3 : Int
  f4 : Int
  f5 : Int
  f6 : Int
  f7 : Int
  f8 : ByteArray
  f9 : ByteArray
  f10 : Int
  f11 : Bool
  f12 : Bool
def z35 : S35 := ⟨z33, z33, (0 : Int), (0 : Int), (0 : Int), (0 : Int), (0 : Int), (0 : Int), (⟨#[]⟩ : ByteArray), (⟨#[]⟩ : ByteArray), (0 : Int), false, false⟩
def k35 : Kd S35 := Kd.iso (Kd.pair k33 (Kd.pair k33 (Kd.pair (Kd.int .u32) (Kd.pair (Kd.int .u32) (Kd.pair (Kd.int .u32) (Kd.pair (Kd.int .u32) (Kd.pair (Kd.int .u32) (Kd.pair (Kd.int .u32) (Kd.pair Kd.string (Kd.pair Kd.string (Kd.pair (Kd.int .i64) (Kd.pair Kd.bool Kd.bool)))))))))))) (fun x : S35 => (x.f0, x.f1, x.f2, x.f3, x.f4, x.f5, x.f6, x.f7, x.f8, x.f9, x.f10, x.f11, x.f12))
theorem k35_open {w : World} {x : S35} {cs : List Value} (h : k35.K w x cs) : cs = [.int .i64 x.f0.f0, .int .i64 x.f0.f1, .int .i64 x.f1.f0, .int .i64 x.f1.f1, .int .u32 x.f2, .int .u32 x.f3, .int .u32 x.f4, .int .u32 x.f5, .int .u32 x.f6, .int .u32 x.f7, .string x.f8, .string x.f9, .int .i64 x.f10, .bool x.f11, .bool x.f12] := by
  obtain ⟨_, _, rfl, s0, ⟨_, _, rfl, s2, ⟨_, _, rfl, rfl, ⟨_, _, rfl, rfl, ⟨_, _, rfl, rfl, ⟨_, _, rfl, rfl, ⟨_, _, rfl, rfl, ⟨_, _, rfl, rfl, ⟨_, _, rfl, rfl, ⟨_, _, rfl, rfl, ⟨_, _, rfl, rfl, ⟨_, _, rfl, rfl, rfl⟩⟩⟩⟩⟩⟩⟩⟩⟩⟩⟩⟩ := h
  obtain rfl := k33_open s0
  obtain rfl := k33_open s2
  exact rfl
theorem k35_mk (w : World) (x : S35)  : k35.K w x [.int .i64 x.f0.f0, .int .i64 x.f0.f1, .int .i64 x.f1.f0, .int .i64 x.f1.f1, .int .u32 x.f2, .int .u32 x.f3, .int .u32 x.f4, .int .u32 x.f5, .int .u32 x.f6, .int .u32 x.f7, .string x.f8, .string x.f9, .int .i64 x.f10, .bool x.f11, .bool x.f12] := ⟨[.int .i64 x.f0.f0, .int .i64 x.f0.f1], [.int .i64 x.f1.f0, .int .i64 x.f1.f1, .int .u32 x.f2, .int .u32 x.f3, .int .u32 x.f4, .int .u32 x.f5, .int .u32 x.f6, .int .u32 x.f7, .string x.f8, .string x.f9, .int .i64 x.f10, .bool x.f11, .bool x.f12], rfl, (k33_mk w x.f0 ), ⟨[.int .i64 x.f1.f0, .int .i64 x.f1.f1], [.int .u32 x.f2, .int .u32 x.f3, .int .u32 x.f4, .int .u32 x.f5, .int .u32 x.f6, .int .u32 x.f7, .string x.f8, .string x.f9, .int .i64 x.f10, .bool x.f11, .bool x.f12], rfl, (k33_mk w x.f1 ), ⟨[.int .u32 x.f2], [.int .u32 x.f3, .int .u32 x.f4, .int .u32 x.f5, .int .u32 x.f6, .int .u32 x.f7, .string x.f8, .string x.f9, .int .i64 x.f10, .bool x.f11, .bool x.f12], rfl, rfl, ⟨[.int .u32 x.f3], [.int .u32 x.f4, .int .u32 x.f5, .int .u32 x.f6, .int .u32 x.f7, .string x.f8, .string x.f9, .int .i64 x.f10, .bool x.f11, .bool x.f12], rfl, rfl, ⟨[.int .u32 x.f4], [.int .u32 x.f5, .int .u32 x.f6, .int .u32 x.f7, .string x.f8, .string x.f9, .int .i64 x.f10, .bool x.f11, .bool x.f12], rfl, rfl, ⟨[.int .u32 x.f5], [.int .u32 x.f6, .int .u32 x.f7, .string x.f8, .string x.f9, .int .i64 x.f10, .bool x.f11, .bool x.f12], rfl, rfl, ⟨[.int .u32 x.f6], [.int .u32 x.f7, .string x.f8, .string x.f9, .int .i64 x.f10, .bool x.f11, .bool x.f12], rfl, rfl, ⟨[.int .u32 x.f7], [.string x.f8, .string x.f9, .int .i64 x.f10, .bool x.f11, .bool x.f12], rfl, rfl, ⟨[.string x.f8], [.string x.f9, .int .i64 x.f10, .bool x.f11, .bool x.f12], rfl, rfl, ⟨[.string x.f9], [.int .i64 x.f10, .bool x.f11, .bool x.f12], rfl, rfl, ⟨[.int .i64 x.f10], [.bool x.f11, .bool x.f12], rfl, rfl, ⟨[.bool x.f11], [.bool x.f12], rfl, rfl, rfl⟩⟩⟩⟩⟩⟩⟩⟩⟩⟩⟩⟩
def rd_T35 (xs : List S35) (i : Int) : S35 := xs.getD i.toNat z35
theorem at_T35 {w : World} {A : Option Addr} {n : Nat} {xs : List S35} (h : Kd.C k35 w A n xs) (i : Int) (h0 : 0 ≤ i) (h1 : i < n) : ∃ ad , A = some ad ∧ w.cell? (ad.add (i.toNat * 15)) = some (.int .i64 (rd_T35 xs i).f0.f0) ∧ w.cell? ⟨(ad.add (i.toNat * 15)).block, (ad.add (i.toNat * 15)).off + 1, none⟩ = some (.int .i64 (rd_T35 xs i).f0.f1) ∧ w.cell? ⟨(ad.add (i.toNat * 15)).block, (ad.add (i.toNat * 15)).off + 2, none⟩ = some (.int .i64 (rd_T35 xs i).f1.f0) ∧ w.cell? ⟨(ad.add (i.toNat * 15)).block, (ad.add (i.toNat * 15)).off + 3, none⟩ = some (.int .i64 (rd_T35 xs i).f1.f1) ∧ w.cell? ⟨(ad.add (i.toNat * 15)).block, (ad.add (i.toNat * 15)).off + 4, none⟩ = some (.int .u32 (rd_T35 xs i).f2) ∧ w.cell? ⟨(ad.add (i.toNat * 15)).block, (ad.add (i.toNat * 15)).off + 5, none⟩ = some (.int .u32 (rd_T35 xs i).f3) ∧ w.cell? ⟨(ad.add (i.toNat * 15)).block, (ad.add (i.toNat * 15)).off + 6, none⟩ = some (.int .u32 (rd_T35 xs i).f4) ∧ w.cell? ⟨(ad.add (i.toNat * 15)).block, (ad.add (i.toNat * 15)).off + 7, none⟩ = some (.int .u32 (rd_T35 xs i).f5) ∧ w.cell? ⟨(ad.add (i.toNat * 15)).block, (ad.add (i.toNat * 15)).off + 8, none⟩ = some (.int .u32 (rd_T35 xs i).f6) ∧ w.cell? ⟨(ad.add (i.toNat * 15)).block, (ad.add (i.toNat * 15)).off + 9, none⟩ = some (.int .u32 (rd_T35 xs i).f7) ∧ w.cell? ⟨(ad.add (i.toNat * 15)).block, (ad.add (i.toNat * 15)).off + 10, none⟩ = some (.string (rd_T35 xs i).f8) ∧ w.cell? ⟨(ad.add (i.toNat * 15)).block, (ad.add (i.toNat * 15)).off + 11, none⟩ = some (.string (rd_T35 xs i).f9) ∧ w.cell? ⟨(ad.add (i.toNat * 15)).block, (ad.add (i.toNat * 15)).off + 12, none⟩ = some (.int .i64 (rd_T35 xs i).f10) ∧ w.cell? ⟨(ad.add (i.toNat * 15)).block, (ad.add (i.toNat * 15)).off + 13, none⟩ = some (.bool (rd_T35 xs i).f11) ∧ w.cell? ⟨(ad.add (i.toNat * 15)).block, (ad.add (i.toNat * 15)).off + 14, none⟩ = some (.bool (rd_T35 xs i).f12) := by
  obtain ⟨ad, c, e, _, hK, hc0⟩ := Kd.C_get h z35 i h0 h1
  have hc : ∀ j u, c[j]? = some u → w.cell? (ad.add (i.toNat * 15 + j)) = some u := hc0
  obtain rfl := k35_open hK
  exact ⟨ad, e, hc 0 _ rfl, by rw [← add_field _ _ 1 (by omega)]; exact hc 1 _ rfl, by rw [← add_field _ _ 2 (by omega)]; exact hc 2 _ rfl, by rw [← add_field _ _ 3 (by omega)]; exact hc 3 _ rfl, by rw [← add_field _ _ 4 (by omega)]; exact hc 4 _ rfl, by rw [← add_field _ _ 5 (by omega)]; exact hc 5 _ rfl, by rw [← add_field _ _ 6 (by omega)]; exact hc 6 _ rfl, by rw [← add_field _ _ 7 (by omega)]; exact hc 7 _ rfl, by rw [← add_field _ _ 8 (by omega)]; exact hc 8 _ rfl, by rw [← add_field _ _ 9 (by omega)]; exact hc 9 _ rfl, by rw [← add_field _ _ 10 (by omega)]; exact hc 10 _ rfl, by rw [← add_field _ _ 11 (by omega)]; exact hc 11 _ rfl, by rw [← add_field _ _ 12 (by omega)]; exact hc 12 _ rfl, by rw [← add_field _ _ 13 (by omega)]; exact hc 13 _ rfl, by rw [← add_field _ _ 14 (by omega)]; exact hc 14 _ rfl⟩

end Go.Proofs.YtllikhbafaohgaaGreatDoor.PFnIdxSum
