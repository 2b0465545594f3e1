/- What the text of a request says, part by part. -/
import Derived.Test.YtbgimkjodpjnfaaDoorProtoQ
namespace Go.Proofs.YtbgimkjodpjnfaaDoor.Proto
open Go.RowKit Go.Proofs.YtbgimkjodpjnfaaDoorW.PrintWords Go.Proofs.YtbgimkjodpjnfaaDoorW.PrintLast Go.Proofs.YtbgimkjodpjnfaaDoorW.PrintMore Go.Proofs.YtbgimkjodpjnfaaDoor.PFnProtoFirstRead

abbrev L (a : ByteArray) : List UInt8 := a.data.toList
def hostEq (host : ByteArray) : List UInt8 := [104, 111, 115, 116, 61] ++ L host
/-- What stands behind the path: the part of the host, and the others. -/
def part1 (host : ByteArray) : List UInt8 := if host.toList = [] then [] else hostEq host
def parts2 (host : ByteArray) (extra : List ByteArray) : List (List UInt8) :=
  if host.toList = [] then (if extra = [] then [] else extra.map L ++ [[]]) else (if extra = [] then [[]] else [] :: (extra.map L ++ [[]]))
theorem joinZ_cons (z : UInt8) (a : List UInt8) (r : List (List UInt8)) (h : r ≠ []) : joinZ z (a :: r) = a ++ z :: joinZ z r := by
  cases r with
  | nil => exact absurd rfl h
  | cons b r => rfl
theorem L_append (a b : ByteArray) : L (a ++ b) = L a ++ L b := by simp [L]
theorem accT_list : ∀ (l : List ByteArray) (t : ByteArray), L (accT t l) = L t ++ joinZ 0 (l.map L ++ [[]])
  | [], t => by simp [accT, joinZ]
  | e :: r, t => by
    rw [accT, accT_list r, L_append, L_append, List.map_cons, List.cons_append, joinZ_cons _ _ _ (by simp)]
    simp [L]
theorem T1_list (c p : ByteArray) : L (T1 c p) = L c ++ 32 :: (L p ++ [0]) := by
  unfold T1
  rw [L_append, L_append, L_append]
  simp [L]
theorem T2_list (t h : ByteArray) : L (T2 t h) = L t ++ (hostEq h ++ [0]) := by
  unfold T2 hostEq
  rw [L_append, L_append, L_append]
theorem protoT_list (c p h : ByteArray) (e : List ByteArray) : L (protoT c p h e) = L c ++ 32 :: joinZ 0 (L p :: part1 h :: parts2 h e) := by
  unfold protoT part1 parts2
  by_cases hh : h.toList = []
  · by_cases he : e = []
    · rw [if_pos hh, if_pos he, if_pos hh, if_pos hh, if_pos he, T1_list]
      rfl
    · rw [if_pos hh, if_neg he, if_pos hh, if_pos hh, if_neg he, T3, accT_list, L_append, T1_list, joinZ_cons _ _ _ (by simp), joinZ_cons _ _ _ (by simp)]
      simp [L]
  · by_cases he : e = []
    · rw [if_neg hh, if_pos he, if_neg hh, if_neg hh, if_pos he, T2_list, T1_list]
      simp [joinZ]
    · rw [if_neg hh, if_neg he, if_neg hh, if_neg hh, if_neg he, T3, accT_list, L_append, T2_list, T1_list, joinZ_cons _ _ _ (by simp), joinZ_cons _ _ _ (by simp), joinZ_cons _ _ _ (by simp)]
      simp [L]
theorem joinZ_last : ∀ (ps : List (List UInt8)), ps ≠ [] → ∃ pre, joinZ 0 (ps ++ [[]]) = pre ++ [0]
  | [], h => absurd rfl h
  | [a], _ => ⟨a, rfl⟩
  | a :: b :: r, _ => by
    obtain ⟨pre, h⟩ := joinZ_last (b :: r) (by simp)
    exact ⟨a ++ 0 :: pre, by rw [List.cons_append, joinZ_cons _ _ _ (by simp), h]; simp⟩
theorem parts_last (p : List UInt8) (h : ByteArray) (e : List ByteArray) : ∃ ps, ps ≠ [] ∧ p :: part1 h :: parts2 h e = ps ++ [[]] := by
  unfold part1 parts2
  by_cases hh : h.toList = []
  · by_cases he : e = []
    · exact ⟨[p], by simp, by rw [if_pos hh, if_pos hh, if_pos he]; rfl⟩
    · exact ⟨p :: [] :: e.map L, by simp, by rw [if_pos hh, if_pos hh, if_neg he]; rfl⟩
  · by_cases he : e = []
    · exact ⟨[p, hostEq h], by simp, by rw [if_neg hh, if_neg hh, if_pos he]; rfl⟩
    · exact ⟨p :: hostEq h :: [] :: e.map L, by simp, by rw [if_neg hh, if_neg hh, if_neg he]; rfl⟩
end Go.Proofs.YtbgimkjodpjnfaaDoor.Proto
