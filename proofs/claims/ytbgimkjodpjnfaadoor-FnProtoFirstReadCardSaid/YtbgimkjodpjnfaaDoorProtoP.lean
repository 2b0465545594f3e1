/- How a text is split: the plain law. -/
import Derived.Test.YtbgimkjodpjnfaaDoorProtoO
namespace Go.Proofs.YtbgimkjodpjnfaaDoor.Proto
open Go.RowKit Go.Proofs.YtbgimkjodpjnfaaDoorW.PrintWords Go.Proofs.YtbgimkjodpjnfaaDoorW.PrintLast Go.Proofs.YtbgimkjodpjnfaaDoorW.PrintMore Go.Proofs.YtbgimkjodpjnfaaDoor.PFnProtoFirstRead

def mkB (l : List UInt8) : ByteArray := ⟨l.toArray⟩
theorem mkB_size (l : List UInt8) : (mkB l).size = l.length := by simp [mkB, ByteArray.size]
theorem mkB_toList (l : List UInt8) : (mkB l).toList = l := by rw [ByteArray.toList_eq]; simp [mkB]
theorem mkB_extract (l : List UInt8) (i j : Nat) : (mkB l).extract i j = mkB ((l.take j).drop i) := by
  apply ByteArray.ext
  simp [mkB]
  exact List.drop_take.symm
theorem mkB_one (l : List UInt8) (i : Nat) (h : i < l.length) : ((mkB l).extract i (i + 1)).toList = [l[i]] := by
  rw [mkB_extract, mkB_toList, List.take_succ_eq_append_getElem h, List.drop_append_of_le_length (by rw [List.length_take]; omega)]
  have : (l.take i).drop i = [] := List.drop_eq_nil_of_le (by rw [List.length_take]; omega)
  rw [this, List.nil_append]
theorem mkB_nil (x : ByteArray) : mkB x.data.toList = x := by
  apply ByteArray.ext
  simp [mkB]

theorem index_step (l : List UInt8) (z : UInt8) (i : Nat) (h : i < l.length) (hs : l.length ≤ 100000) (k : Nat) :
    packp_zzIndex.l0 (k + 1) (mkB l) (mkB [z]) (i : Int) = if l[i] = z then some (i : Int) else packp_zzIndex.l0 k (mkB l) (mkB [z]) ((i + 1 : Nat) : Int) := by
  have e1 : ((mkB [z]).size : Int) = 1 := by rw [mkB_size]; rfl
  have e2 : wrap64 ((i : Int) + 1) = ((i + 1 : Nat) : Int) := wrap_succ (by omega)
  have e3 : ((mkB l).size : Int) = l.length := by rw [mkB_size]
  rw [packp_zzIndex.l0, e1, e2, e3, if_pos (by omega), if_pos (by omega), if_pos (by omega), Int.toNat_natCast, Int.toNat_natCast, mkB_one l i h, mkB_toList]
  by_cases c : l[i] = z
  · rw [if_pos c, if_pos (by rw [c])]
  · rw [if_neg c, if_neg (fun e => c (by simpa using e))]
theorem index_end (l : List UInt8) (z : UInt8) (hs : l.length ≤ 100000) (k : Nat) : packp_zzIndex.l0 (k + 1) (mkB l) (mkB [z]) (l.length : Int) = some (-1) := by
  have e1 : ((mkB [z]).size : Int) = 1 := by rw [mkB_size]; rfl
  have e2 : wrap64 ((l.length : Int) + 1) = ((l.length + 1 : Nat) : Int) := wrap_succ (by omega)
  have e3 : ((mkB l).size : Int) = l.length := by rw [mkB_size]
  rw [packp_zzIndex.l0, e1, e2, e3, if_neg (by omega)]
theorem index_ev (a b : List UInt8) (z : UInt8) (ha : z ∉ a) (hs : (a ++ z :: b).length ≤ 100000) : Ev (fun k => packp_zzIndex.f k (mkB (a ++ z :: b)) (mkB [z])) (a.length : Int) := by
  have key : ∀ d i, i + d = a.length → Ev (fun k => packp_zzIndex.l0 k (mkB (a ++ z :: b)) (mkB [z]) (i : Int)) (a.length : Int) := by
    intro d
    induction d with
    | zero =>
      intro i hi
      obtain rfl : i = a.length := by omega
      exact Ev.step (f := fun _ => some (a.length : Int)) (fun k => by rw [index_step _ z a.length (by simp) hs, if_pos (by simp)]) (Ev.now _)
    | succ d ih =>
      intro i hi
      have hl : i < (a ++ z :: b).length := by simp; omega
      have hne : (a ++ z :: b)[i] ≠ z := by
        rw [List.getElem_append_left (by omega)]
        exact fun e => ha (e ▸ List.getElem_mem _)
      exact Ev.step (fun k => by rw [index_step _ z i hl hs, if_neg hne]) (ih (i + 1) (by omega))
  exact key a.length 0 (by omega)
theorem index_no (l : List UInt8) (z : UInt8) (hl : z ∉ l) (hs : l.length ≤ 100000) : Ev (fun k => packp_zzIndex.f k (mkB l) (mkB [z])) (-1) := by
  have key : ∀ d i, i + d = l.length → Ev (fun k => packp_zzIndex.l0 k (mkB l) (mkB [z]) (i : Int)) (-1) := by
    intro d
    induction d with
    | zero =>
      intro i hi
      obtain rfl : i = l.length := by omega
      exact Ev.step (f := fun _ => some (-1)) (fun k => index_end l z hs k) (Ev.now _)
    | succ d ih =>
      intro i hi
      have hne : l[i]'(by omega) ≠ z := fun e => hl (e ▸ List.getElem_mem _)
      exact Ev.step (fun k => by rw [index_step _ z i (by omega) hs, if_neg hne]) (ih (i + 1) (by omega))
  exact key l.length 0 (by omega)

def splitF (k : Nat) (x0 x1 : ByteArray) (x5 : List ByteArray) (t130 : Int) : Option (List ByteArray) :=
  if t130 < 0 then (if x5.length < 8796093022208 then (some (x5 ++ [x0])) else (none)) else (if 0 ≤ t130 then (if t130 ≤ (x0.size : Int) then (if x5.length < 8796093022208 then (if 0 ≤ (wrap64 (t130 + (x1.size : Int))) then (if (wrap64 (t130 + (x1.size : Int))) ≤ (x0.size : Int) then (packp_zzSplit.l0 k (x0.extract ((wrap64 (t130 + (x1.size : Int))) : Int).toNat x0.size) x1 (x5 ++ [x0.extract 0 (t130 : Int).toNat])) else (none)) else (none)) else (none)) else (none)) else (none))
theorem split_l0 (k : Nat) (x0 x1 : ByteArray) (x5 : List ByteArray) : packp_zzSplit.l0 (k + 1) x0 x1 x5 = (packp_zzIndex.f k x0 x1).bind (splitF k x0 x1 x5) := by
  rw [packp_zzSplit.l0]
  rfl
/-- The parts with z between them. -/
def joinZ (z : UInt8) : List (List UInt8) → List UInt8
  | [] => []
  | [a] => a
  | a :: r => a ++ z :: joinZ z r
theorem split_ev (z : UInt8) : ∀ (ps : List (List UInt8)) (acc : List ByteArray), ps ≠ [] → (∀ a ∈ ps, z ∉ a) → (joinZ z ps).length ≤ 100000 → acc.length + ps.length ≤ 100000 →
    Ev (fun k => packp_zzSplit.l0 k (mkB (joinZ z ps)) (mkB [z]) acc) (acc ++ ps.map mkB)
  | [], _, h, _, _, _ => absurd rfl h
  | [a], acc, _, hz, hs, hl => by
    refine Ev.step (fun k => split_l0 k _ _ _) (Ev.bind (index_no a z (hz a (by simp)) hs) (Ev.congr (f := fun _ => some (acc ++ [mkB a])) (fun k => ?_) (Ev.now _)))
    unfold splitF
    rw [if_pos (by omega), if_pos (by simp at hl; omega)]
    rfl
  | a :: b :: r, acc, _, hz, hs, hl => by
    have e : joinZ z (a :: b :: r) = a ++ z :: joinZ z (b :: r) := rfl
    rw [e] at hs ⊢
    have hs2 : (joinZ z (b :: r)).length ≤ 100000 := by simp at hs; omega
    have ih := split_ev z (b :: r) (acc ++ [mkB a]) (by simp) (fun x hx => hz x (List.mem_cons_of_mem _ hx)) hs2 (by simp at hl ⊢; omega)
    have e2 : acc ++ List.map mkB (a :: b :: r) = acc ++ [mkB a] ++ List.map mkB (b :: r) := by simp
    rw [e2]
    refine Ev.step (fun k => split_l0 k _ _ _) (Ev.bind (index_ev a _ z (hz a (by simp)) hs) (Ev.congr (fun k => ?_) ih))
    have e1 : ((mkB [z]).size : Int) = 1 := by rw [mkB_size]; rfl
    have e4 : wrap64 ((a.length : Int) + 1) = ((a.length + 1 : Nat) : Int) := wrap_succ (by simp at hs; omega)
    have e3 : ((mkB (a ++ z :: joinZ z (b :: r))).size : Int) = (a.length + 1 + (joinZ z (b :: r)).length : Nat) := by rw [mkB_size]; simp; omega
    have e5 : (mkB (a ++ z :: joinZ z (b :: r))).size = a.length + 1 + (joinZ z (b :: r)).length := by rw [mkB_size]; simp; omega
    unfold splitF
    rw [if_neg (by omega), if_pos (by omega), e1, e4, e3, if_pos (by omega), if_pos (by simp at hl; omega), if_pos (by omega), if_pos (by omega), Int.toNat_natCast, Int.toNat_natCast, mkB_extract, mkB_extract, e5]
    have t1 : ((a ++ z :: joinZ z (b :: r)).take (a.length + 1 + (joinZ z (b :: r)).length)).drop (a.length + 1) = joinZ z (b :: r) := by
      rw [List.take_of_length_le (by simp; omega), List.drop_append]
      simp
    have t2 : ((a ++ z :: joinZ z (b :: r)).take a.length).drop 0 = a := by simp
    rw [t1, t2]
end Go.Proofs.YtbgimkjodpjnfaaDoor.Proto
