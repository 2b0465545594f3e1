-- PRINTED BY print.sh 35421559b90ae4d0a3588c463048766b98c2df88dd9212a6774a882060cdf62d: not written by this session
import Derived.Test.YtbgimkjodpjnfaaDoorProg
import Derived.Below
import Derived.Deep.Draws
import Derived.Deep.AppendLies
import Derived.Maps.AppendAt
import Derived.OwnWalk
import Derived.Laws.BytesArg
import Derived.Laws.MakeOwn
import Derived.Laws.OwnMore
import Derived.Deep.OwnRows
import Derived.Tactics
import Derived.Lib.ConvBytes
import Derived.Laws.Slices
import Derived.WalkKit
import Derived.KernelRfl
import Derived.RowKit3
import Derived.Deep.LoopGhost
import Derived.Deep.QuietTactic
import Derived.BigQuiet
import Derived.WideLaws
import Derived.Deep.DeepCutAuto
import Derived.Deep.CutBlock
import Derived.Deep.RegionHeld3
import Derived.Laws.Rows
import Derived.Lib.AppendStr
import Derived.ArgAppend
import Derived.Laws.IdiomCopy
import Derived.OrdersHeld
import Derived.Laws.BitsLemmas
import Derived.RowKit
import Derived.Test.YtbgimkjodpjnfaaDoorWWords
import Derived.Test.YtbgimkjodpjnfaaDoorWLast
import Derived.Test.YtbgimkjodpjnfaaDoorWTab
import Derived.Test.YtbgimkjodpjnfaaDoorWFour
import Derived.Test.YtbgimkjodpjnfaaDoorWQPut
import Derived.Test.YtbgimkjodpjnfaaDoorWApart
import Derived.Test.YtbgimkjodpjnfaaDoorWArr
import Derived.Test.YtbgimkjodpjnfaaDoorWZeros
import Derived.Test.YtbgimkjodpjnfaaDoorWFoot
import Derived.Test.YtbgimkjodpjnfaaDoorWKept
import Derived.Test.YtbgimkjodpjnfaaDoorWShare
import Derived.Test.YtbgimkjodpjnfaaDoorWN
import Derived.Test.YtbgimkjodpjnfaaDoorWFootNe
import Derived.Test.YtbgimkjodpjnfaaDoorWAt
import Derived.Test.YtbgimkjodpjnfaaDoorWEqStruct
import Derived.Test.YtbgimkjodpjnfaaDoorWRepsOne
import Derived.Test.YtbgimkjodpjnfaaDoorWInv
import Derived.Test.YtbgimkjodpjnfaaDoorWInvWords
import Derived.Test.YtbgimkjodpjnfaaDoorWGuard
import Derived.Test.YtbgimkjodpjnfaaDoorWNEv
import Derived.Test.YtbgimkjodpjnfaaDoorWMore
namespace Go.Proofs.YtbgimkjodpjnfaaDoor.PFnProtoFirstRead
open Go.RowKit Go.Proofs.YtbgimkjodpjnfaaDoorW.PrintWords Go.Proofs.YtbgimkjodpjnfaaDoorW.PrintLast Go.Proofs.YtbgimkjodpjnfaaDoorW.PrintMore
attribute [local go_sem] max2_int min2_int max_two min_two max_three min_three max_four min_four   -- for this text's walks alone
set_option linter.unusedVariables false
set_option linter.unusedSimpArgs false



def errW : Option Int → Value
  | none => .nilIface
  | some c => .iface 0 (.int .i64 c)
theorem errW_none : errW none = .nilIface := rfl
theorem errW_some (c : Int) : errW (some c) = .iface 0 (.int .i64 c) := rfl

theorem info5 : (Tryd.prog.info? 5).map (fun i => (i.zero, i.size, i.bytes)) = some (some (.int .u8 0), 1, 1) := by kernel_rfl
theorem info9 : (Tryd.prog.info? 9).map (fun i => (i.zero, i.size, i.bytes)) = some (some (.string ⟨#[]⟩), 1, 16) := by kernel_rfl
-- the values' own types
/-! #### struct type 155 -/
structure S155 where
  f0 : Int
  f1 : Int
  f2 : Int
def z155 : S155 := ⟨(0 : Int), (0 : Int), (0 : Int)⟩
def k155 : Kd S155 := Kd.iso (Kd.pair (Kd.int .u16) (Kd.pair (Kd.int .u16) (Kd.int .u16))) (fun x : S155 => (x.f0, x.f1, x.f2))
theorem k155_open {w : World} {x : S155} {cs : List Value} (h : k155.K w x cs) : cs = [.int .u16 x.f0, .int .u16 x.f1, .int .u16 x.f2] := by
  obtain ⟨_, _, rfl, rfl, ⟨_, _, rfl, rfl, rfl⟩⟩ := h
  exact rfl
theorem k155_openM {w : World} {base : Nat} {ok : Nat → Prop} {x : S155} {cs : List Value} (h : k155.M w base ok x cs) : cs = [.int .u16 x.f0, .int .u16 x.f1, .int .u16 x.f2] := by
  obtain ⟨_, _, rfl, rfl, ⟨_, _, rfl, rfl, rfl⟩⟩ := h
  exact rfl
theorem k155_mk (w : World) (x : S155)  : k155.K w x [.int .u16 x.f0, .int .u16 x.f1, .int .u16 x.f2] := ⟨[.int .u16 x.f0], [.int .u16 x.f1, .int .u16 x.f2], rfl, rfl, ⟨[.int .u16 x.f1], [.int .u16 x.f2], rfl, rfl, rfl⟩⟩
theorem k155_mkM (w : World) (base : Nat) (ok : Nat → Prop) (x : S155)  : k155.M w base ok x [.int .u16 x.f0, .int .u16 x.f1, .int .u16 x.f2] := ⟨[.int .u16 x.f0], [.int .u16 x.f1, .int .u16 x.f2], rfl, rfl, ⟨[.int .u16 x.f1], [.int .u16 x.f2], rfl, rfl, rfl⟩⟩
def rd_T155 (xs : List S155) (i : Int) : S155 := xs.getD i.toNat z155
theorem at_T155 {w : World} {A : Option Addr} {n : Nat} {xs : List S155} (h : Kd.C k155 w A n xs) (i : Int) (h0 : 0 ≤ i) (h1 : i < n) : ∃ ad , A = some ad ∧ w.cell? (ad.add (i.toNat * 3)) = some (.int .u16 (rd_T155 xs i).f0) ∧ w.cell? ⟨(ad.add (i.toNat * 3)).block, (ad.add (i.toNat * 3)).off + 1, none⟩ = some (.int .u16 (rd_T155 xs i).f1) ∧ w.cell? ⟨(ad.add (i.toNat * 3)).block, (ad.add (i.toNat * 3)).off + 2, none⟩ = some (.int .u16 (rd_T155 xs i).f2) := by
  obtain ⟨ad, c, e, _, hK, hc0⟩ := Kd.C_get h z155 i h0 h1
  have hc : ∀ j u, c[j]? = some u → w.cell? (ad.add (i.toNat * 3 + j)) = some u := hc0
  obtain rfl := k155_open hK
  exact ⟨ad, e, hc 0 _ rfl, by rw [← add_field _ _ 1 (by omega)]; exact hc 1 _ rfl, by rw [← add_field _ _ 2 (by omega)]; exact hc 2 _ rfl⟩

/-! #### struct type 158 -/
structure S158 where
  f0 : Int
  f1 : Int
  f2 : Int
def z158 : S158 := ⟨(0 : Int), (0 : Int), (0 : Int)⟩
def k158 : Kd S158 := Kd.iso (Kd.pair (Kd.int .u32) (Kd.pair (Kd.int .u32) (Kd.int .u32))) (fun x : S158 => (x.f0, x.f1, x.f2))
theorem k158_open {w : World} {x : S158} {cs : List Value} (h : k158.K w x cs) : cs = [.int .u32 x.f0, .int .u32 x.f1, .int .u32 x.f2] := by
  obtain ⟨_, _, rfl, rfl, ⟨_, _, rfl, rfl, rfl⟩⟩ := h
  exact rfl
theorem k158_openM {w : World} {base : Nat} {ok : Nat → Prop} {x : S158} {cs : List Value} (h : k158.M w base ok x cs) : cs = [.int .u32 x.f0, .int .u32 x.f1, .int .u32 x.f2] := by
  obtain ⟨_, _, rfl, rfl, ⟨_, _, rfl, rfl, rfl⟩⟩ := h
  exact rfl
theorem k158_mk (w : World) (x : S158)  : k158.K w x [.int .u32 x.f0, .int .u32 x.f1, .int .u32 x.f2] := ⟨[.int .u32 x.f0], [.int .u32 x.f1, .int .u32 x.f2], rfl, rfl, ⟨[.int .u32 x.f1], [.int .u32 x.f2], rfl, rfl, rfl⟩⟩
theorem k158_mkM (w : World) (base : Nat) (ok : Nat → Prop) (x : S158)  : k158.M w base ok x [.int .u32 x.f0, .int .u32 x.f1, .int .u32 x.f2] := ⟨[.int .u32 x.f0], [.int .u32 x.f1, .int .u32 x.f2], rfl, rfl, ⟨[.int .u32 x.f1], [.int .u32 x.f2], rfl, rfl, rfl⟩⟩
def rd_T158 (xs : List S158) (i : Int) : S158 := xs.getD i.toNat z158
theorem at_T158 {w : World} {A : Option Addr} {n : Nat} {xs : List S158} (h : Kd.C k158 w A n xs) (i : Int) (h0 : 0 ≤ i) (h1 : i < n) : ∃ ad , A = some ad ∧ w.cell? (ad.add (i.toNat * 3)) = some (.int .u32 (rd_T158 xs i).f0) ∧ w.cell? ⟨(ad.add (i.toNat * 3)).block, (ad.add (i.toNat * 3)).off + 1, none⟩ = some (.int .u32 (rd_T158 xs i).f1) ∧ w.cell? ⟨(ad.add (i.toNat * 3)).block, (ad.add (i.toNat * 3)).off + 2, none⟩ = some (.int .u32 (rd_T158 xs i).f2) := by
  obtain ⟨ad, c, e, _, hK, hc0⟩ := Kd.C_get h z158 i h0 h1
  have hc : ∀ j u, c[j]? = some u → w.cell? (ad.add (i.toNat * 3 + j)) = some u := hc0
  obtain rfl := k158_open hK
  exact ⟨ad, e, hc 0 _ rfl, by rw [← add_field _ _ 1 (by omega)]; exact hc 1 _ rfl, by rw [← add_field _ _ 2 (by omega)]; exact hc 2 _ rfl⟩

end Go.Proofs.YtbgimkjodpjnfaaDoor.PFnProtoFirstRead
