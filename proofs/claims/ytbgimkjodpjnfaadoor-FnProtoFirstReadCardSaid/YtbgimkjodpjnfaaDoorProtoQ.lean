/- How a request's text is split. -/
import Derived.Test.YtbgimkjodpjnfaaDoorProtoP
namespace Go.Proofs.YtbgimkjodpjnfaaDoor.Proto
open Go.RowKit Go.Proofs.YtbgimkjodpjnfaaDoorW.PrintWords Go.Proofs.YtbgimkjodpjnfaaDoorW.PrintLast Go.Proofs.YtbgimkjodpjnfaaDoorW.PrintMore Go.Proofs.YtbgimkjodpjnfaaDoor.PFnProtoFirstRead

theorem splitN_no (x0 x1 : ByteArray) (x8 : Int) (c : ByteArray) (k : Nat) : packp_zzSplitN.l0 (k + 1 + 1) x0 x1 2 [c] x8 = some [c, x0] := by
  have e : decide ((([c] : List ByteArray).length : Int) < wrap64 (2 - 1)) = false := decide_eq_false (by unfold wrap64; simp)
  rw [packp_zzSplitN.l0, e]
  have h : packp_zzSplitN.j1 (k + 1) x0 x1 2 [c] x8 false = some [c, x0] := by
    rw [packp_zzSplitN.j1, if_neg (by simp), if_pos (by simp)]
    rfl
  split <;> exact h
theorem splitN_step (l : List UInt8) (z : UInt8) (i : Nat) (h : i < l.length) (hs : l.length ≤ 100000) (k : Nat) :
    packp_zzSplitN.l0 (k + 1 + 1) (mkB l) (mkB [z]) 2 [] (i : Int) = if l[i] = z then packp_zzSplitN.l0 k (mkB (l.drop (i + 1))) (mkB [z]) 2 [mkB (l.take i)] 0 else packp_zzSplitN.l0 k (mkB l) (mkB [z]) 2 [] ((i + 1 : Nat) : Int) := by
  have e1 : ((mkB [z]).size : Int) = 1 := by rw [mkB_size]; rfl
  have e2 : wrap64 ((i : Int) + 1) = ((i + 1 : Nat) : Int) := wrap_succ (by omega)
  have e3 : ((mkB l).size : Int) = l.length := by rw [mkB_size]
  have e4 : decide ((([] : List ByteArray).length : Int) < wrap64 (2 - 1)) = true := by unfold wrap64; decide
  rw [packp_zzSplitN.l0, e1, e2, e3, e4, if_pos (by omega), packp_zzSplitN.j1, e1, e2, e3, if_pos rfl, if_pos (by omega), if_pos (by omega), if_pos (by omega), Int.toNat_natCast, Int.toNat_natCast, mkB_one l i h, mkB_toList]
  by_cases c : l[i] = z
  · rw [if_pos c, if_pos (by rw [c]), if_pos (by omega), if_pos (by simp), if_pos (by omega), mkB_extract, mkB_extract, mkB_size, List.take_length, List.drop_zero]
    rfl
  · rw [if_neg c, if_neg (fun e => c (by simpa using e))]
theorem splitN_ev (a b : List UInt8) (z : UInt8) (ha : z ∉ a) (hs : (a ++ z :: b).length ≤ 100000) : Ev (fun k => packp_zzSplitN.f k (mkB (a ++ z :: b)) (mkB [z]) 2) [mkB a, mkB b] := by
  have two : ∀ {g f : Nat → Option (List ByteArray)} {r : List ByteArray}, (∀ k, g (k + 1 + 1) = f k) → Ev f r → Ev g r := fun h1 h2 => Ev.step (f := fun k => _) (fun k => rfl) (Ev.step h1 h2)
  have key : ∀ d i, i + d = a.length → Ev (fun k => packp_zzSplitN.l0 k (mkB (a ++ z :: b)) (mkB [z]) 2 [] (i : Int)) [mkB a, mkB b] := by
    intro d
    induction d with
    | zero =>
      intro i hi
      obtain rfl : i = a.length := by omega
      refine two (f := fun k => packp_zzSplitN.l0 k (mkB b) (mkB [z]) 2 [mkB a] 0) (fun k => ?_) (two (f := fun _ => some [mkB a, mkB b]) (fun k => splitN_no _ _ _ _ k) (Ev.now _))
      rw [splitN_step _ z a.length (by simp) hs, if_pos (by simp)]
      congr 3
      · simp
      · simp
    | succ d ih =>
      intro i hi
      have hl : i < (a ++ z :: b).length := by simp; omega
      have hne : (a ++ z :: b)[i] ≠ z := by
        rw [List.getElem_append_left (by omega)]
        exact fun e => ha (e ▸ List.getElem_mem _)
      exact two (fun k => by rw [splitN_step _ z i hl hs, if_neg hne]) (ih (i + 1) (by omega))
  exact key a.length 0 (by omega)
theorem trim_ev (h : List UInt8) : strings_TrimPrefix.f (mkB ([104, 111, 115, 116, 61] ++ h)) ⟨#[104, 111, 115, 116, 61]⟩ = some (mkB h) := by
  have e1 : ((⟨#[104, 111, 115, 116, 61]⟩ : ByteArray).size : Int) = 5 := rfl
  have e2 : (mkB ([104, 111, 115, 116, 61] ++ h)).size = 5 + h.length := by rw [mkB_size]; simp; omega
  have hp : stringslite_HasPrefix.f (mkB ([104, 111, 115, 116, 61] ++ h)) ⟨#[104, 111, 115, 116, 61]⟩ = some true := by
    unfold stringslite_HasPrefix.f
    rw [e1, e2, if_pos (by omega), if_pos (by omega), if_pos (by omega), mkB_extract, mkB_toList, ByteArray.toList_eq]
    rfl
  unfold strings_TrimPrefix.f stringslite_TrimPrefix.f
  rw [hp, e1, e2]
  have t : (([104, 111, 115, 116, 61] ++ h).take (5 + h.length)).drop (Int.toNat 5) = h := by
    rw [List.take_of_length_le (by simp; omega)]
    rfl
  simp only [Option.bind_some, if_true]
  rw [if_pos (by omega), if_pos (by omega), mkB_extract, t]
  rfl
theorem trim_none : strings_TrimPrefix.f (mkB []) ⟨#[104, 111, 115, 116, 61]⟩ = some (mkB []) := by
  have e1 : ((⟨#[104, 111, 115, 116, 61]⟩ : ByteArray).size : Int) = 5 := rfl
  have hp : stringslite_HasPrefix.f (mkB []) ⟨#[104, 111, 115, 116, 61]⟩ = some false := by
    unfold stringslite_HasPrefix.f
    rw [e1, mkB_size, if_neg (by simp)]
  unfold strings_TrimPrefix.f stringslite_TrimPrefix.f
  rw [hp]
  rfl
end Go.Proofs.YtbgimkjodpjnfaaDoor.Proto
