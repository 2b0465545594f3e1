-- PRINTED BY print.sh 35421559b90ae4d0a3588c463048766b98c2df88dd9212a6774a882060cdf62d: not written by this session
import Derived.Test.YtbgimkjodpjnfaaDoorProg
import Derived.Below
import Derived.Deep.Draws
import Derived.Deep.AppendLies
import Derived.Maps.AppendAt
import Derived.OwnWalk
import Derived.Laws.BytesArg
import Derived.Laws.MakeOwn
import Derived.Laws.OwnMore
import Derived.Deep.OwnRows
import Derived.Tactics
import Derived.Lib.ConvBytes
import Derived.Laws.Slices
import Derived.WalkKit
import Derived.KernelRfl
import Derived.RowKit3
import Derived.Deep.LoopGhost
import Derived.Deep.QuietTactic
import Derived.BigQuiet
import Derived.WideLaws
import Derived.Deep.DeepCutAuto
import Derived.Deep.CutBlock
import Derived.Deep.RegionHeld3
import Derived.Laws.Rows
import Derived.Lib.AppendStr
import Derived.ArgAppend
import Derived.Laws.IdiomCopy
import Derived.OrdersHeld
import Derived.Laws.BitsLemmas
import Derived.RowKit
import Derived.Test.YtbgimkjodpjnfaaDoorWWords
import Derived.Test.YtbgimkjodpjnfaaDoorWLast
import Derived.Test.YtbgimkjodpjnfaaDoorWTab
import Derived.Test.YtbgimkjodpjnfaaDoorWFour
import Derived.Test.YtbgimkjodpjnfaaDoorWQPut
import Derived.Test.YtbgimkjodpjnfaaDoorWApart
import Derived.Test.YtbgimkjodpjnfaaDoorWArr
import Derived.Test.YtbgimkjodpjnfaaDoorWZeros
import Derived.Test.YtbgimkjodpjnfaaDoorWFoot
import Derived.Test.YtbgimkjodpjnfaaDoorWKept
import Derived.Test.YtbgimkjodpjnfaaDoorWShare
import Derived.Test.YtbgimkjodpjnfaaDoorWN
import Derived.Test.YtbgimkjodpjnfaaDoorWFootNe
import Derived.Test.YtbgimkjodpjnfaaDoorWAt
import Derived.Test.YtbgimkjodpjnfaaDoorWEqStruct
import Derived.Test.YtbgimkjodpjnfaaDoorWRepsOne
import Derived.Test.YtbgimkjodpjnfaaDoorWInv
import Derived.Test.YtbgimkjodpjnfaaDoorWInvWords
import Derived.Test.YtbgimkjodpjnfaaDoorWGuard
import Derived.Test.YtbgimkjodpjnfaaDoorWNEv
import Derived.Test.YtbgimkjodpjnfaaDoorWMore
namespace Go.Proofs.YtbgimkjodpjnfaaDoor.PFnConfSet
open Go.RowKit Go.Proofs.YtbgimkjodpjnfaaDoorW.PrintWords Go.Proofs.YtbgimkjodpjnfaaDoorW.PrintLast Go.Proofs.YtbgimkjodpjnfaaDoorW.PrintMore
attribute [local go_sem] max2_int min2_int max_two min_two max_three min_three max_four min_four   -- for this text's walks alone
set_option linter.unusedVariables false
set_option linter.unusedSimpArgs false



def errW : Option Int → Value
  | none => .nilIface
  | some c => .iface 0 (.int .i64 c)
theorem errW_none : errW none = .nilIface := rfl
theorem errW_some (c : Int) : errW (some c) = .iface 0 (.int .i64 c) := rfl

theorem info9 : (Tryd.prog.info? 9).map (fun i => (i.zero, i.size, i.bytes)) = some (some (.string ⟨#[]⟩), 1, 16) := by kernel_rfl
theorem info41 : (Tryd.prog.info? 41).map (fun i => (i.zero, i.size, i.bytes)) = some (some (.agg #[(.string ⟨#[]⟩), (.slice none 0 0), (.slice none 0 0)]), 3, 64) := by kernel_rfl
theorem info47 : (Tryd.prog.info? 47).map (fun i => (i.zero, i.size, i.bytes)) = some (some (.agg #[(.string ⟨#[]⟩), (.slice none 0 0)]), 2, 40) := by kernel_rfl
-- the values' own types
/-! #### struct type 45 -/
structure S45 where
  f0 : ByteArray
  f1 : ByteArray
def z45 : S45 := ⟨(⟨#[]⟩ : ByteArray), (⟨#[]⟩ : ByteArray)⟩
def k45 : Kd S45 := Kd.iso (Kd.pair Kd.string Kd.string) (fun x : S45 => (x.f0, x.f1))
theorem k45_open {w : World} {x : S45} {cs : List Value} (h : k45.K w x cs) : cs = [.string x.f0, .string x.f1] := by
  obtain ⟨_, _, rfl, rfl, rfl⟩ := h
  exact rfl
theorem k45_openM {w : World} {base : Nat} {ok : Nat → Prop} {x : S45} {cs : List Value} (h : k45.M w base ok x cs) : cs = [.string x.f0, .string x.f1] := by
  obtain ⟨_, _, rfl, rfl, rfl⟩ := h
  exact rfl
theorem k45_mk (w : World) (x : S45)  : k45.K w x [.string x.f0, .string x.f1] := ⟨[.string x.f0], [.string x.f1], rfl, rfl, rfl⟩
theorem k45_mkM (w : World) (base : Nat) (ok : Nat → Prop) (x : S45)  : k45.M w base ok x [.string x.f0, .string x.f1] := ⟨[.string x.f0], [.string x.f1], rfl, rfl, rfl⟩
theorem k45_mkF (W : World) (ok : Nat → Prop) (x : S45) : Kd.FK k45 W ok x [.string x.f0, .string x.f1] := fun W2 _ => k45_mk W2 x
def rd_T45 (xs : List S45) (i : Int) : S45 := xs.getD i.toNat z45
theorem at_T45 {w : World} {A : Option Addr} {n : Nat} {xs : List S45} (h : Kd.C k45 w A n xs) (i : Int) (h0 : 0 ≤ i) (h1 : i < n) : ∃ ad , A = some ad ∧ w.cell? (ad.add (i.toNat * 2)) = some (.string (rd_T45 xs i).f0) ∧ w.cell? ⟨(ad.add (i.toNat * 2)).block, (ad.add (i.toNat * 2)).off + 1, none⟩ = some (.string (rd_T45 xs i).f1) := by
  obtain ⟨ad, c, e, _, hK, hc0⟩ := Kd.C_get h z45 i h0 h1
  have hc : ∀ j u, c[j]? = some u → w.cell? (ad.add (i.toNat * 2 + j)) = some u := hc0
  obtain rfl := k45_open hK
  exact ⟨ad, e, hc 0 _ rfl, by rw [← add_field _ _ 1 (by omega)]; exact hc 1 _ rfl⟩

def rd_L2 (xs : List (List S45)) (i : Int) : (List S45) := xs.getD i.toNat ([] : List S45)
theorem at_L2 {w : World} {A : Option Addr} {n : Nat} {xs : List (List S45)} (h : Kd.C (Kd.slice 45 k45) w A n xs) (i : Int) (h0 : 0 ≤ i) (h1 : i < n) : ∃ ad A0 c0, A = some ad ∧ w.cell? (ad.add i.toNat) = some (.slice A0 (rd_L2 xs i).length c0) ∧ (rd_L2 xs i).length ≤ c0 ∧ k45.C w A0 (rd_L2 xs i).length (rd_L2 xs i) := by
  obtain ⟨ad, c, e, _, hK, hc0⟩ := Kd.C_get h ([] : List S45) i h0 h1
  have hc : ∀ j u, c[j]? = some u → w.cell? (ad.add (i.toNat * 1 + j)) = some u := hc0
  obtain ⟨A0, c0, rfl, l0, g0⟩ := hK
  exact ⟨ad, A0, c0, e, by have hq := hc 0 _ rfl; rwa [Nat.mul_one, Nat.add_zero] at hq, l0, g0⟩

/-! #### struct type 47 -/
structure S47 where
  f0 : ByteArray
  f1 : (List S45)
def z47 : S47 := ⟨(⟨#[]⟩ : ByteArray), ([] : List S45)⟩
def k47 : Kd S47 := Kd.iso (Kd.pair Kd.string (Kd.slice 45 k45)) (fun x : S47 => (x.f0, x.f1))
theorem k47_open {w : World} {x : S47} {cs : List Value} (h : k47.K w x cs) : ∃ A1 c1, cs = [.string x.f0, .slice A1 x.f1.length c1] ∧ x.f1.length ≤ c1 ∧ k45.C w A1 x.f1.length x.f1 := by
  obtain ⟨_, _, rfl, rfl, ⟨A1, c1, rfl, l1, g1⟩⟩ := h
  exact ⟨A1, c1, rfl, l1, g1⟩
theorem k47_openM {w : World} {base : Nat} {ok : Nat → Prop} {x : S47} {cs : List Value} (h : k47.M w base ok x cs) : ∃ v1, cs = [.string x.f0, v1] ∧ k45.R 45 w base ok v1 x.f1 := by
  obtain ⟨_, _, rfl, rfl, ⟨v1, rfl, g1⟩⟩ := h
  exact ⟨v1, rfl, g1⟩
theorem k47_mk (w : World) (x : S47) {A1 : Option Addr} {c1 : Nat} (l1 : x.f1.length ≤ c1) (g1 : k45.C w A1 x.f1.length x.f1) : k47.K w x [.string x.f0, .slice A1 x.f1.length c1] := ⟨[.string x.f0], [.slice A1 x.f1.length c1], rfl, rfl, ⟨A1, c1, rfl, l1, g1⟩⟩
theorem k47_mkM (w : World) (base : Nat) (ok : Nat → Prop) (x : S47) {v1 : Value} (g1 : k45.R 45 w base ok v1 x.f1) : k47.M w base ok x [.string x.f0, v1] := ⟨[.string x.f0], [v1], rfl, rfl, ⟨v1, rfl, g1⟩⟩
theorem k47_openF {W : World} {ok : Nat → Prop} {x : S47} {cs : List Value} (h : Kd.FK k47 W ok x cs) : ∃ A1 c1, cs = [.string x.f0, .slice A1 x.f1.length c1] ∧ x.f1.length ≤ c1 ∧ Kd.F k45 W ok A1 x.f1.length x.f1 := by
  obtain ⟨A1, c1, rfl, l1, _⟩ := k47_open (Kd.FK_now h)
  exact ⟨A1, c1, rfl, l1, (fun W' hW => by obtain ⟨A1_, c1_, he, l1_, g1_⟩ := k47_open (h W' hW); injection (Option.some.inj (show some (Value.slice A1 x.f1.length c1) = some (Value.slice A1_ x.f1.length c1_) from congrArg (fun l => l[1]?) he)) with ha_ _ _; rw [ha_]; exact g1_)⟩
theorem k47_mkF (W : World) (ok : Nat → Prop) (x : S47) {A1 : Option Addr} {c1 : Nat} (l1 : x.f1.length ≤ c1) (g1 : Kd.F k45 W ok A1 x.f1.length x.f1) : Kd.FK k47 W ok x [.string x.f0, .slice A1 x.f1.length c1] := fun W2 hW => k47_mk W2 x l1 (g1 W2 hW)
def rd_T47 (xs : List S47) (i : Int) : S47 := xs.getD i.toNat z47
theorem at_T47 {w : World} {A : Option Addr} {n : Nat} {xs : List S47} (h : Kd.C k47 w A n xs) (i : Int) (h0 : 0 ≤ i) (h1 : i < n) : ∃ ad A1 c1, A = some ad ∧ w.cell? (ad.add (i.toNat * 2)) = some (.string (rd_T47 xs i).f0) ∧ w.cell? ⟨(ad.add (i.toNat * 2)).block, (ad.add (i.toNat * 2)).off + 1, none⟩ = some (.slice A1 (rd_T47 xs i).f1.length c1) ∧ (rd_T47 xs i).f1.length ≤ c1 ∧ k45.C w A1 (rd_T47 xs i).f1.length (rd_T47 xs i).f1 := by
  obtain ⟨ad, c, e, _, hK, hc0⟩ := Kd.C_get h z47 i h0 h1
  have hc : ∀ j u, c[j]? = some u → w.cell? (ad.add (i.toNat * 2 + j)) = some u := hc0
  obtain ⟨A1, c1, rfl, l1, g1⟩ := k47_open hK
  exact ⟨ad, A1, c1, e, hc 0 _ rfl, by rw [← add_field _ _ 1 (by omega)]; exact hc 1 _ rfl, l1, g1⟩

def rd_L4 (xs : List (List S47)) (i : Int) : (List S47) := xs.getD i.toNat ([] : List S47)
theorem at_L4 {w : World} {A : Option Addr} {n : Nat} {xs : List (List S47)} (h : Kd.C (Kd.slice 47 k47) w A n xs) (i : Int) (h0 : 0 ≤ i) (h1 : i < n) : ∃ ad A0 c0, A = some ad ∧ w.cell? (ad.add i.toNat) = some (.slice A0 (rd_L4 xs i).length c0) ∧ (rd_L4 xs i).length ≤ c0 ∧ k47.C w A0 (rd_L4 xs i).length (rd_L4 xs i) := by
  obtain ⟨ad, c, e, _, hK, hc0⟩ := Kd.C_get h ([] : List S47) i h0 h1
  have hc : ∀ j u, c[j]? = some u → w.cell? (ad.add (i.toNat * 1 + j)) = some u := hc0
  obtain ⟨A0, c0, rfl, l0, g0⟩ := hK
  exact ⟨ad, A0, c0, e, by have hq := hc 0 _ rfl; rwa [Nat.mul_one, Nat.add_zero] at hq, l0, g0⟩

/-! #### struct type 41 -/
structure S41 where
  f0 : ByteArray
  f1 : (List S45)
  f2 : (List S47)
def z41 : S41 := ⟨(⟨#[]⟩ : ByteArray), ([] : List S45), ([] : List S47)⟩
def k41 : Kd S41 := Kd.iso (Kd.pair Kd.string (Kd.pair (Kd.slice 45 k45) (Kd.slice 47 k47))) (fun x : S41 => (x.f0, x.f1, x.f2))
theorem k41_open {w : World} {x : S41} {cs : List Value} (h : k41.K w x cs) : ∃ A1 c1 A2 c2, cs = [.string x.f0, .slice A1 x.f1.length c1, .slice A2 x.f2.length c2] ∧ x.f1.length ≤ c1 ∧ k45.C w A1 x.f1.length x.f1 ∧ x.f2.length ≤ c2 ∧ k47.C w A2 x.f2.length x.f2 := by
  obtain ⟨_, _, rfl, rfl, ⟨_, _, rfl, ⟨A1, c1, rfl, l1, g1⟩, ⟨A2, c2, rfl, l2, g2⟩⟩⟩ := h
  exact ⟨A1, c1, A2, c2, rfl, l1, g1, l2, g2⟩
theorem k41_openM {w : World} {base : Nat} {ok : Nat → Prop} {x : S41} {cs : List Value} (h : k41.M w base ok x cs) : ∃ v1 v2, cs = [.string x.f0, v1, v2] ∧ k45.R 45 w base ok v1 x.f1 ∧ k47.R 47 w base ok v2 x.f2 := by
  obtain ⟨_, _, rfl, rfl, ⟨_, _, rfl, ⟨v1, rfl, g1⟩, ⟨v2, rfl, g2⟩⟩⟩ := h
  exact ⟨v1, v2, rfl, g1, g2⟩
theorem k41_mk (w : World) (x : S41) {A1 : Option Addr} {c1 : Nat} (l1 : x.f1.length ≤ c1) (g1 : k45.C w A1 x.f1.length x.f1) {A2 : Option Addr} {c2 : Nat} (l2 : x.f2.length ≤ c2) (g2 : k47.C w A2 x.f2.length x.f2) : k41.K w x [.string x.f0, .slice A1 x.f1.length c1, .slice A2 x.f2.length c2] := ⟨[.string x.f0], [.slice A1 x.f1.length c1, .slice A2 x.f2.length c2], rfl, rfl, ⟨[.slice A1 x.f1.length c1], [.slice A2 x.f2.length c2], rfl, ⟨A1, c1, rfl, l1, g1⟩, ⟨A2, c2, rfl, l2, g2⟩⟩⟩
theorem k41_mkM (w : World) (base : Nat) (ok : Nat → Prop) (x : S41) {v1 : Value} (g1 : k45.R 45 w base ok v1 x.f1) {v2 : Value} (g2 : k47.R 47 w base ok v2 x.f2) : k41.M w base ok x [.string x.f0, v1, v2] := ⟨[.string x.f0], [v1, v2], rfl, rfl, ⟨[v1], [v2], rfl, ⟨v1, rfl, g1⟩, ⟨v2, rfl, g2⟩⟩⟩
theorem k41_openF {W : World} {ok : Nat → Prop} {x : S41} {cs : List Value} (h : Kd.FK k41 W ok x cs) : ∃ A1 c1 A2 c2, cs = [.string x.f0, .slice A1 x.f1.length c1, .slice A2 x.f2.length c2] ∧ x.f1.length ≤ c1 ∧ Kd.F k45 W ok A1 x.f1.length x.f1 ∧ x.f2.length ≤ c2 ∧ Kd.F k47 W ok A2 x.f2.length x.f2 := by
  obtain ⟨A1, c1, A2, c2, rfl, l1, _, l2, _⟩ := k41_open (Kd.FK_now h)
  exact ⟨A1, c1, A2, c2, rfl, l1, (fun W' hW => by obtain ⟨A1_, c1_, A2_, c2_, he, l1_, g1_, l2_, g2_⟩ := k41_open (h W' hW); injection (Option.some.inj (show some (Value.slice A1 x.f1.length c1) = some (Value.slice A1_ x.f1.length c1_) from congrArg (fun l => l[1]?) he)) with ha_ _ _; rw [ha_]; exact g1_), l2, (fun W' hW => by obtain ⟨A1_, c1_, A2_, c2_, he, l1_, g1_, l2_, g2_⟩ := k41_open (h W' hW); injection (Option.some.inj (show some (Value.slice A2 x.f2.length c2) = some (Value.slice A2_ x.f2.length c2_) from congrArg (fun l => l[2]?) he)) with ha_ _ _; rw [ha_]; exact g2_)⟩
theorem k41_mkF (W : World) (ok : Nat → Prop) (x : S41) {A1 : Option Addr} {c1 : Nat} (l1 : x.f1.length ≤ c1) (g1 : Kd.F k45 W ok A1 x.f1.length x.f1) {A2 : Option Addr} {c2 : Nat} (l2 : x.f2.length ≤ c2) (g2 : Kd.F k47 W ok A2 x.f2.length x.f2) : Kd.FK k41 W ok x [.string x.f0, .slice A1 x.f1.length c1, .slice A2 x.f2.length c2] := fun W2 hW => k41_mk W2 x l1 (g1 W2 hW) l2 (g2 W2 hW)
def rd_T41 (xs : List S41) (i : Int) : S41 := xs.getD i.toNat z41
theorem at_T41 {w : World} {A : Option Addr} {n : Nat} {xs : List S41} (h : Kd.C k41 w A n xs) (i : Int) (h0 : 0 ≤ i) (h1 : i < n) : ∃ ad A1 c1 A2 c2, A = some ad ∧ w.cell? (ad.add (i.toNat * 3)) = some (.string (rd_T41 xs i).f0) ∧ w.cell? ⟨(ad.add (i.toNat * 3)).block, (ad.add (i.toNat * 3)).off + 1, none⟩ = some (.slice A1 (rd_T41 xs i).f1.length c1) ∧ w.cell? ⟨(ad.add (i.toNat * 3)).block, (ad.add (i.toNat * 3)).off + 2, none⟩ = some (.slice A2 (rd_T41 xs i).f2.length c2) ∧ (rd_T41 xs i).f1.length ≤ c1 ∧ k45.C w A1 (rd_T41 xs i).f1.length (rd_T41 xs i).f1 ∧ (rd_T41 xs i).f2.length ≤ c2 ∧ k47.C w A2 (rd_T41 xs i).f2.length (rd_T41 xs i).f2 := by
  obtain ⟨ad, c, e, _, hK, hc0⟩ := Kd.C_get h z41 i h0 h1
  have hc : ∀ j u, c[j]? = some u → w.cell? (ad.add (i.toNat * 3 + j)) = some u := hc0
  obtain ⟨A1, c1, A2, c2, rfl, l1, g1, l2, g2⟩ := k41_open hK
  exact ⟨ad, A1, c1, A2, c2, e, hc 0 _ rfl, by rw [← add_field _ _ 1 (by omega)]; exact hc 1 _ rfl, by rw [← add_field _ _ 2 (by omega)]; exact hc 2 _ rfl, l1, g1, l2, g2⟩

end Go.Proofs.YtbgimkjodpjnfaaDoor.PFnConfSet
