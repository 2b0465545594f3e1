/- How the reference reads a delta's sizes: the plain law. -/
import Derived.Test.YtkknoionjppegaaDoorDS
import Derived.Test.YtkknoionjppegaaDoorDB
namespace Go.Proofs.YtkknoionjppegaaDoor.Delta
open Go.RowKit Go.Proofs.YtkknoionjppegaaDoorW.PrintWords Go.Proofs.YtkknoionjppegaaDoorW.PrintLast Go.Proofs.YtkknoionjppegaaDoorW.PrintMore Go.Proofs.YtkknoionjppegaaDoor.PFnDeltaDiffRead

theorem shl7' : ∀ c : Fin 256, ∀ i : Fin 4, shl .i64 (wrap64 (Int.tmod ((c.val : Nat) : Int) 128)) (wrap64 (7 * ((i.val : Nat) : Int))) = ((c.val % 128 * 128 ^ i.val : Nat) : Int) := by decide +kernel
theorem shl7 (c i : Nat) (hc : c < 256) (hi : i < 4) : shl .i64 (wrap64 (Int.tmod (c : Int) 128)) (wrap64 (7 * (i : Int))) = ((c % 128 * 128 ^ i : Nat) : Int) := shl7' ⟨c, hc⟩ ⟨i, hi⟩
theorem pow128 (i : Nat) (hi : i < 4) : 128 ^ i ≤ 2097152 := Nat.le_trans (Nat.pow_le_pow_right (by decide) (show i ≤ 3 by omega)) (by decide)
theorem rd_mid (pre rest : List Int) (x : Int) : rd (pre ++ x :: rest) (pre.length : Int) = x := by simp [rd, List.getD_eq_getElem?_getD]
theorem size_l0 : ∀ (f m acc : Nat) (pre rest L : List Int), m < 128 ^ f → 1 ≤ f → pre.length + f = 4 → acc + m * 128 ^ pre.length < 1099511627776 → L = pre ++ (size7 f m ++ rest) →
    spec_readSize7.l0 f L (acc : Int) L (L.length : Int) (pre.length : Int) = some (((acc + m * 128 ^ pre.length : Nat) : Int), rest, 0)
  | 0, _, _, _, _, _, _, h, _, _, _ => by omega
  | f + 1, m, acc, pre, rest, L, hm, _, hp, ha, hL => by
    have hi : pre.length < 4 := by omega
    have hpw := pow128 pre.length hi
    have h7 : 0 ≤ wrap64 (7 * (pre.length : Int)) := by rw [wrap64_in _ (by omega) (by omega)]; omega
    have hw1 : wrap64 ((pre.length : Int) + 1) = ((pre.length + 1 : Nat) : Int) := by rw [wrap64_in _ (by omega) (by omega)]; omega
    by_cases h : m < 128
    · have hs : size7 (f + 1) m = [(m : Int)] := by simp only [size7]; rw [if_pos h]
      rw [hs] at hL
      have hr : rd L (pre.length : Int) = (m : Int) := by rw [hL]; exact rd_mid pre rest m
      have hl : L.length = pre.length + 1 + rest.length := by rw [hL]; simp; omega
      have hd : L.drop (pre.length + 1) = rest := by rw [hL, List.drop_append]; simp
      have hmm : m % 128 = m := Nat.mod_eq_of_lt h
      have hmul : m * 128 ^ pre.length ≤ 266338304 := Nat.le_trans (Nat.mul_le_mul (show m ≤ 127 by omega) hpw) (by decide)
      rw [spec_readSize7.l0, if_pos (by omega), if_pos (by omega), if_pos (by omega), if_neg (by omega), if_pos h7, hr, if_pos (by omega), hw1, if_pos (by omega), if_pos (by omega), shl7 m pre.length (by omega) hi, hmm]
      obtain ⟨y, hy⟩ : ∃ y, y = m * 128 ^ pre.length := ⟨_, rfl⟩
      rw [← hy] at hmul ⊢
      have e : wrap64 ((acc : Int) + (y : Int)) = ((acc + y : Nat) : Int) := by rw [wrap64_in _ (by omega) (by omega)]; omega
      rw [e, show (((pre.length + 1 : Nat) : Int)).toNat = pre.length + 1 by omega, hd]
    · have hs : size7 (f + 1) m = ((m % 128 + 128 : Nat) : Int) :: size7 f (m / 128) := by simp only [size7]; rw [if_neg h]
      rw [hs] at hL
      have hf : 1 ≤ f := by
        rcases Nat.eq_zero_or_pos f with e | e
        · subst e
          omega
        · exact e
      have hr : rd L (pre.length : Int) = ((m % 128 + 128 : Nat) : Int) := by rw [hL]; exact rd_mid pre _ _
      have hl : L.length = pre.length + 1 + (size7 f (m / 128)).length + rest.length := by rw [hL]; simp; omega
      have hmm : (m % 128 + 128) % 128 = m % 128 := by omega
      have hsum : m % 128 * 128 ^ pre.length + m / 128 * 128 ^ (pre.length + 1) = m * 128 ^ pre.length := by
        rw [Nat.pow_succ, ← Nat.mul_comm 128, ← Nat.mul_assoc, ← Nat.add_mul]
        congr 1
        omega
      have hq : m / 128 < 128 ^ f := by rw [Nat.pow_succ] at hm; exact Nat.div_lt_of_lt_mul (by rw [Nat.mul_comm]; exact hm)
      have hlen : (pre ++ [((m % 128 + 128 : Nat) : Int)]).length = pre.length + 1 := by simp
      have hp2 : (pre ++ [((m % 128 + 128 : Nat) : Int)]).length + f = 4 := by rw [hlen, Nat.add_right_comm]; exact hp
      have hL2 : L = (pre ++ [((m % 128 + 128 : Nat) : Int)]) ++ (size7 f (m / 128) ++ rest) := by rw [hL, List.append_assoc]; rfl
      have hsh := shl7 (m % 128 + 128) pre.length (by omega) hi
      rw [hmm] at hsh
      rw [← hsum] at ha ⊢
      obtain ⟨y, hy⟩ : ∃ y, y = m % 128 * 128 ^ pre.length := ⟨_, rfl⟩
      rw [← hy] at ha hsh ⊢
      clear hsum hy hm hpw
      have ih := size_l0 f (m / 128) (acc + y) (pre ++ [((m % 128 + 128 : Nat) : Int)]) rest L hq hf hp2 (by rw [hlen, Nat.add_assoc]; exact ha) hL2
      rw [hlen] at ih
      have ha3 : acc + y < 1099511627776 := Nat.lt_of_le_of_lt (by rw [← Nat.add_assoc]; exact Nat.le_add_right _ _) ha
      clear hq ha hL hL2 hp2
      have e : wrap64 ((acc : Int) + (y : Int)) = ((acc + y : Nat) : Int) := by rw [wrap64_in _ (by omega) (by omega)]; omega
      rw [spec_readSize7.l0, if_pos (by omega), if_pos (by omega), if_pos (by omega), if_neg (by omega), if_pos h7, hr, if_neg (by omega), hw1, hsh, e, ih, Nat.add_assoc]
theorem readSize7_f (n : Nat) (rest : List Int) (h : n < 268435456) : spec_readSize7.f 4 (size7 4 n ++ rest) = some ((n : Int), rest, 0) := by
  have hh : n < 128 ^ 4 := by rw [show (128 : Nat) ^ 4 = 268435456 from by decide]; exact h
  have := size_l0 4 n 0 [] rest (size7 4 n ++ rest) hh (by omega) rfl (by rw [List.length_nil, Nat.pow_zero, Nat.mul_one, Nat.zero_add]; omega) rfl
  rw [Nat.zero_add, List.length_nil, Nat.pow_zero, Nat.mul_one] at this
  exact this
end Go.Proofs.YtkknoionjppegaaDoor.Delta
