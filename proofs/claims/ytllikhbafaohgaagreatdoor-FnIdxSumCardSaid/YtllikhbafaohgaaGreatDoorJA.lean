/- What an index is, as bytes, and what one byte that is another one leaves of it. -/
import Derived.Test.YtllikhbafaohgaaGreatDoorIN
namespace Go.Proofs.YtllikhbafaohgaaGreatDoor.Idx
open Go.RowKit Go.Proofs.YtllikhbafaohgaaGreatDoorW.PrintWords Go.Proofs.YtllikhbafaohgaaGreatDoorW.PrintLast Go.Proofs.YtllikhbafaohgaaGreatDoorW.PrintMore
set_option linter.unusedVariables false
set_option linter.unusedSimpArgs false

/-- One file's bytes; its name has l of them. -/
structure FileB (L : List Int) (l : Nat) : Prop where
  pos : 0 < l
  small : l < 4000
  len : L.length = 62 + l + pad l
  flags : Go.bits .and .u16 (bigOf ((L.drop 60).take 2) % 65536) 4095 = (l : Int)
  plain : Go.bits .and .u16 (bigOf ((L.drop 60).take 2) % 65536) 16384 = 0
  byte : ∀ y ∈ L, 0 ≤ y ∧ y < 256
def flat (fl : List (List Int × Nat)) : List Int := (fl.map (·.1)).flatten
theorem flat_append (a b : List (List Int × Nat)) : flat (a ++ b) = flat a ++ flat b := by simp [flat]
theorem flat_nil : flat [] = [] := rfl
theorem flat_cons (x : List Int × Nat) (b : List (List Int × Nat)) : flat (x :: b) = x.1 ++ flat b := by simp [flat]
def headB (cnt : Nat) : List Int := [68, 73, 82, 67] ++ [0, 0, 0, 2] ++ be4 cnt
theorem headB_length (cnt : Nat) : (headB cnt).length = 12 := rfl
def bodyB (fl : List (List Int × Nat)) : List Int := headB fl.length ++ flat fl
def indexB (fl : List (List Int × Nat)) : List Int := bodyB fl ++ sha1Of (bodyB fl)
def posOf (fl : List (List Int × Nat)) (a : Nat) : Nat := 12 + (flat (fl.take a)).length
def lenOf (fl : List (List Int × Nat)) (a : Nat) : Nat := (fl[a]?.map (·.2)).getD 0
theorem posOf_all (fl : List (List Int × Nat)) : posOf fl fl.length = (bodyB fl).length := by
  unfold posOf bodyB
  rw [List.take_length, List.length_append, headB_length]
theorem posOf_le (fl : List (List Int × Nat)) (a : Nat) : posOf fl a ≤ (bodyB fl).length := by
  unfold posOf bodyB
  rw [List.length_append, headB_length]
  conv => rhs; rw [← List.take_append_drop a fl, flat_append, List.length_append]
  omega
theorem sha1Of_len (D : List Int) : (sha1Of D).length = 20 := rfl
theorem indexB_len (fl : List (List Int × Nat)) : posOf fl fl.length + 20 = (indexB fl).length := by
  rw [posOf_all]
  unfold indexB
  rw [List.length_append, sha1Of_len]
theorem posOf_succ {fl : List (List Int × Nat)} {a : Nat} {x : List Int × Nat} (h : fl[a]? = some x) : posOf fl (a + 1) = posOf fl a + x.1.length := by
  unfold posOf
  rw [List.take_add_one, h, flat_append, List.length_append]
  simp [flat]
  omega
theorem lay_of {fl : List (List Int × Nat)} {D : List Int} {n : Nat} (hF : ∀ x ∈ fl, FileB x.1 x.2) (hD : ∀ a x, fl[a]? = some x → (D.drop (posOf fl a + 60)).take 2 = (x.1.drop 60).take 2) (hn : (bodyB fl).length ≤ n) : Lay D n fl.length (posOf fl) (lenOf fl) := by
  have hx : ∀ a, a < fl.length → ∃ x, fl[a]? = some x ∧ FileB x.1 x.2 ∧ lenOf fl a = x.2 := fun a ha => ⟨fl[a], List.getElem?_eq_getElem ha, hF _ (List.getElem_mem ha), by unfold lenOf; rw [List.getElem?_eq_getElem ha]; rfl⟩
  refine ⟨fun a ha => ?_, fun a ha => ?_, fun a ha => ?_, fun a ha => ?_, fun a ha => ?_, fun a _ => Nat.le_trans (posOf_le fl a) hn⟩ <;> obtain ⟨x, h1, h2, h3⟩ := hx a ha <;> (try rw [h3])
  · rw [posOf_succ h1, h2.len]; omega
  · exact h2.pos
  · exact h2.small
  · rw [hD a x h1]; exact h2.flags
  · rw [hD a x h1]; exact h2.plain
theorem drop_app (a b : List Int) (k : Nat) : (a ++ b).drop (a.length + k) = b.drop k := by
  rw [List.drop_append, List.drop_eq_nil_of_le (by omega), List.nil_append, show a.length + k - a.length = k by omega]
theorem indexB_flags {fl : List (List Int × Nat)} (hF : ∀ x ∈ fl, FileB x.1 x.2) (a : Nat) (x : List Int × Nat) (h : fl[a]? = some x) : ((indexB fl).drop (posOf fl a + 60)).take 2 = (x.1.drop 60).take 2 := by
  obtain ⟨ha, hx⟩ := List.getElem?_eq_some_iff.1 h
  have hsplit : fl = fl.take a ++ x :: fl.drop (a + 1) := by
    conv => lhs; rw [← List.take_append_drop a fl, List.drop_eq_getElem_cons ha, hx]
  have hl := (hF x (by rw [← hx]; exact List.getElem_mem ha)).len
  have e : indexB fl = (headB fl.length ++ flat (fl.take a)) ++ (x.1 ++ (flat (fl.drop (a + 1)) ++ sha1Of (bodyB fl))) := by
    have e1 : flat fl = flat (fl.take a) ++ (x.1 ++ flat (fl.drop (a + 1))) := by
      conv => lhs; rw [hsplit]
      rw [flat_append, flat_cons]
    unfold indexB
    rw [show bodyB fl ++ sha1Of (bodyB fl) = (headB fl.length ++ flat fl) ++ sha1Of (bodyB fl) from rfl, e1]
    simp only [List.append_assoc]
  rw [e, show posOf fl a + 60 = (headB fl.length ++ flat (fl.take a)).length + 60 by rw [List.length_append, headB_length]; rfl, drop_app, List.drop_append_of_le_length (by omega), List.take_append_of_le_length (by rw [List.length_drop]; omega)]
theorem be4_back : ∀ n : Fin 1001, bigOf (be4 ((n.val : Nat) : Int)) % 4294967296 = (n.val : Int) := by decide +kernel
theorem indexB_head (fl : List (List Int × Nat)) (hc : fl.length ≤ 1000) : (indexB fl).take 4 = [68, 73, 82, 67] ∧ bigOf (((indexB fl).drop 4).take 4) % 4294967296 = 2 ∧ bigOf (((indexB fl).drop 8).take 4) % 4294967296 = (fl.length : Int) :=
  ⟨rfl, by rw [show ((indexB fl).drop 4).take 4 = [0, 0, 0, 2] from rfl]; decide +kernel, by rw [show ((indexB fl).drop 8).take 4 = be4 fl.length from rfl]; exact be4_back ⟨fl.length, by omega⟩⟩
theorem indexB_sum (fl : List (List Int × Nat)) : ((indexB fl).drop (posOf fl fl.length)).take 20 = sha1Of ((indexB fl).take (posOf fl fl.length)) := by
  rw [posOf_all]
  unfold indexB
  rw [List.drop_left, List.take_left, List.take_of_length_le (by rw [sha1Of_len]; omega)]
theorem set_window (D : List Int) (k m : Nat) (y : Int) (j : Nat) (h : k < m ∨ m + j ≤ k) : ((D.set k y).drop m).take j = (D.drop m).take j := by
  apply List.ext_getElem?
  intro i
  rw [List.getElem?_take, List.getElem?_take]
  split
  · rw [List.getElem?_drop, List.getElem?_drop, List.getElem?_set_ne (by omega)]
  · rfl
/-- A byte that is another one, in the first four: the head is another one. -/
theorem indexB_bad_head (fl : List (List Int × Nat)) (k : Nat) (y : Int) (hk : k < 4) (hy : (indexB fl)[k]? ≠ some y) : ((indexB fl).set k y).take 4 ≠ [68, 73, 82, 67] := by
  intro e
  have hl := indexB_len fl
  have h0 : (indexB fl).take 4 = [68, 73, 82, 67] := rfl
  have e1 : (((indexB fl).set k y).take 4)[k]? = ((indexB fl).take 4)[k]? := by rw [e, h0]
  rw [List.getElem?_take, List.getElem?_take, if_pos hk, if_pos hk, List.getElem?_set_self (by omega)] at e1
  exact hy e1.symm
/-- One that lies behind the head, and is none of the flags. -/
theorem indexB_bad (fl : List (List Int × Nat)) (hF : ∀ x ∈ fl, FileB x.1 x.2) (hc : fl.length ≤ 1000) (k : Nat) (y : Int) (hk : 12 ≤ k) (hfl : ∀ a, a < fl.length → k ≠ posOf fl a + 60 ∧ k ≠ posOf fl a + 61) : let D := (indexB fl).set k y
    D.take 4 = [68, 73, 82, 67] ∧ bigOf ((D.drop 4).take 4) % 4294967296 = 2 ∧ bigOf ((D.drop 8).take 4) % 4294967296 = (fl.length : Int) ∧ Lay D D.length fl.length (posOf fl) (lenOf fl) := by
  intro D
  obtain ⟨h1, h2, h3⟩ := indexB_head fl hc
  have hl : D.length = (indexB fl).length := List.length_set ..
  refine ⟨?_, ?_, ?_, lay_of hF (fun a x hx => ?_) ?_⟩
  · have := set_window (indexB fl) k 0 y 4 (by omega)
    rw [List.drop_zero, List.drop_zero] at this
    exact this.trans h1
  · rw [set_window _ _ _ _ _ (by omega)]; exact h2
  · rw [set_window _ _ _ _ _ (by omega)]; exact h3
  · have := hfl a (List.getElem?_eq_some_iff.1 hx).1
    rw [set_window _ _ _ _ _ (by omega)]
    exact indexB_flags hF a x hx
  · rw [hl, ← indexB_len, posOf_all]; omega
theorem indexB_lay (fl : List (List Int × Nat)) (hF : ∀ x ∈ fl, FileB x.1 x.2) : Lay (indexB fl) (indexB fl).length fl.length (posOf fl) (lenOf fl) := lay_of hF (indexB_flags hF) (by rw [← indexB_len, posOf_all]; omega)
theorem posOf_zero (fl : List (List Int × Nat)) : posOf fl 0 = 12 := rfl
theorem indexB_byte (fl : List (List Int × Nat)) (hF : ∀ x ∈ fl, FileB x.1 x.2) : ∀ y ∈ indexB fl, 0 ≤ y ∧ y < 256 := by
  intro y hy
  have hb4 : ∀ (x : Int), ∀ y ∈ be4 x, 0 ≤ y ∧ y < 256 := fun x y hy => by
    unfold be4 at hy
    simp only [List.mem_cons, List.not_mem_nil, or_false] at hy
    rcases hy with rfl | rfl | rfl | rfl <;> omega
  unfold indexB bodyB headB at hy
  simp only [List.mem_append] at hy
  rcases hy with ((((h | h) | h) | h) | h)
  · revert y; decide
  · revert y; decide
  · exact hb4 _ y h
  · unfold flat at h
    obtain ⟨l, hl, h⟩ := List.mem_flatten.1 h
    obtain ⟨x, hx, rfl⟩ := List.mem_map.1 hl
    exact (hF x hx).byte y h
  · revert h
    unfold sha1Of digestOf
    intro h
    simp only [List.mem_append] at h
    rcases h with (((h | h) | h) | h) | h <;> exact hb4 _ y h
end Go.Proofs.YtllikhbafaohgaaGreatDoor.Idx
