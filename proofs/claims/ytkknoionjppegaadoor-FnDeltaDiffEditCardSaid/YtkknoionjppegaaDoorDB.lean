/- How the bytes of a delta's copy and of its sizes are read back: the plain laws. -/
import Derived.Test.YtkknoionjppegaaDoorDA
namespace Go.Proofs.YtkknoionjppegaaDoor.Delta
open Go.RowKit Go.Proofs.YtkknoionjppegaaDoorW.PrintWords Go.Proofs.YtkknoionjppegaaDoorW.PrintLast Go.Proofs.YtkknoionjppegaaDoorW.PrintMore Go.Proofs.YtkknoionjppegaaDoor.PFnDeltaDiffRead

theorem bit_of (x i : Nat) (hx : x < 256) (hi : i ≤ 6) : Go.bits .and .u8 (shr .u8 (x : Int) (i : Int)) 1 = ((x / 2 ^ i % 2 : Nat) : Int) := by
  have hs : shr .u8 (x : Int) (i : Int) = ((x / 2 ^ i : Nat) : Int) := by
    unfold shr
    rw [show IntKind.u8.bits = 8 from rfl, show min ((i : Int)).toNat 8 = i by omega]
    rw [Int.natCast_ediv, Int.natCast_pow]
    rfl
  have hle : x / 2 ^ i ≤ x := Nat.div_le_self _ _
  rw [hs]
  obtain ⟨y, hy⟩ : ∃ y, y = x / 2 ^ i := ⟨_, rfl⟩
  rw [← hy] at hle ⊢
  have h := bits_mask .u8 8 (by decide) wraps_u8 1 (by decide) (y : Int) (by omega) (by omega)
  rw [show (1 : Int) = 2 ^ 1 - 1 from rfl, h]
  omega
theorem rd_zero (b : Int) (l : List Int) : rd (b :: l) 0 = b := rfl
theorem get0 (k code x8 i b : Nat) (x9 : Int) (rest : List Int) (hi : i ≤ 3) (hc : code < 256) (hb : b < 256) (hbit : code / 2 ^ i % 2 = nz b) (h8 : x8 < 1099511627776) :
    spec_readCopy.l0 (k + 1) (code : Int) (pb b ++ rest) (x8 : Int) x9 (i : Int) = spec_readCopy.l0 k (code : Int) rest ((x8 + b * 256 ^ i : Nat) : Int) x9 ((i + 1 : Nat) : Int) := by
  have hw : wrap64 ((i : Int) + 1) = ((i + 1 : Nat) : Int) := by rw [wrap64_in _ (by omega) (by omega)]; omega
  have h8i : wrap64 (8 * (i : Int)) = ((8 * i : Nat) : Int) := by rw [wrap64_in _ (by omega) (by omega)]; omega
  rw [spec_readCopy.l0, if_pos (by omega), if_pos (by omega), bit_of code i hc (by omega), hbit, hw]
  by_cases hz : b = 0
  · subst hz
    rw [if_pos (by simp [nz])]
    simp [pb]
  · rw [if_neg (by simp [nz, hz])]
    have e : pb b = [(b : Int)] := by simp [pb, hz]
    have hle : (256 : Nat) ^ i ≤ 256 ^ 3 := Nat.pow_le_pow_right (by decide) hi
    have hm : b * 256 ^ i ≤ 4278190080 := Nat.le_trans (Nat.mul_le_mul (show b ≤ 255 by omega) hle) (by decide)
    clear hle hbit
    obtain ⟨y, hy⟩ : ∃ y, y = b * 256 ^ i := ⟨_, rfl⟩
    rw [← hy] at hm ⊢
    have hsh : shl .i64 (wrap64 (b : Int)) ((8 * i : Nat) : Int) = (y : Int) := by
      have hmul : ((b : Int) * 2 ^ (8 * i)) = (y : Int) := by
        rw [hy, Int.natCast_mul, Int.natCast_pow, Int.pow_mul]
        rfl
      rw [wrap64_in _ (by omega) (by omega)]
      unfold shl
      rw [show IntKind.i64.bits = 64 from rfl, show min (((8 * i : Nat) : Int)).toNat 64 = 8 * i by omega, hmul]
      exact wraps_i64 _ (by omega) (by omega)
    have hsum : wrap64 ((x8 : Int) + (y : Int)) = ((x8 + y : Nat) : Int) := by rw [wrap64_in _ (by omega) (by omega)]; omega
    rw [e]
    simp only [List.cons_append, List.nil_append, List.length_cons, rd_zero, List.drop_one, List.tail_cons]
    rw [if_neg (by omega), if_pos (by omega), if_pos (by omega), h8i, if_pos (by omega), if_pos (by omega), hsh, hsum]
theorem get1 (k code x9 i b : Nat) (x8 : Int) (rest : List Int) (hi : i ≤ 2) (hc : code < 256) (hb : b < 256) (hbit : code / 2 ^ (4 + i) % 2 = nz b) (h9 : x9 < 1099511627776) :
    spec_readCopy.l0 (k + 1) (code : Int) (pb b ++ rest) x8 (x9 : Int) ((4 + i : Nat) : Int) = spec_readCopy.l0 k (code : Int) rest x8 ((x9 + b * 256 ^ i : Nat) : Int) ((4 + (i + 1) : Nat) : Int) := by
  have hw : wrap64 (((4 + i : Nat) : Int) + 1) = ((4 + (i + 1) : Nat) : Int) := by rw [wrap64_in _ (by omega) (by omega)]; omega
  have h4 : wrap64 (((4 + i : Nat) : Int) - 4) = (i : Int) := by rw [wrap64_in _ (by omega) (by omega)]; omega
  have h8i : wrap64 (8 * (i : Int)) = ((8 * i : Nat) : Int) := by rw [wrap64_in _ (by omega) (by omega)]; omega
  rw [spec_readCopy.l0, if_pos (by omega), if_pos (by omega), bit_of code (4 + i) hc (by omega), hbit, hw, h4]
  by_cases hz : b = 0
  · subst hz
    rw [if_pos (by simp [nz])]
    simp [pb]
  · rw [if_neg (by simp [nz, hz])]
    have e : pb b = [(b : Int)] := by simp [pb, hz]
    have hle : (256 : Nat) ^ i ≤ 256 ^ 3 := Nat.pow_le_pow_right (by decide) (by omega)
    have hm : b * 256 ^ i ≤ 4278190080 := Nat.le_trans (Nat.mul_le_mul (show b ≤ 255 by omega) hle) (by decide)
    clear hle hbit
    obtain ⟨y, hy⟩ : ∃ y, y = b * 256 ^ i := ⟨_, rfl⟩
    rw [← hy] at hm ⊢
    have hsh : shl .i64 (wrap64 (b : Int)) ((8 * i : Nat) : Int) = (y : Int) := by
      have hmul : ((b : Int) * 2 ^ (8 * i)) = (y : Int) := by
        rw [hy, Int.natCast_mul, Int.natCast_pow, Int.pow_mul]
        rfl
      rw [wrap64_in _ (by omega) (by omega)]
      unfold shl
      rw [show IntKind.i64.bits = 64 from rfl, show min (((8 * i : Nat) : Int)).toNat 64 = 8 * i by omega, hmul]
      exact wraps_i64 _ (by omega) (by omega)
    have hsum : wrap64 ((x9 : Int) + (y : Int)) = ((x9 + y : Nat) : Int) := by rw [wrap64_in _ (by omega) (by omega)]; omega
    rw [e]
    simp only [List.cons_append, List.nil_append, List.length_cons, rd_zero, List.drop_one, List.tail_cons]
    rw [if_neg (by omega), if_neg (by omega), if_pos (by omega), h8i, if_pos (by omega), if_pos (by omega), hsh, hsum]
theorem code_bits (o n : Nat) : codeOf o n / 2 ^ 0 % 2 = nz (at8 o 0) ∧ codeOf o n / 2 ^ 1 % 2 = nz (at8 o 1) ∧ codeOf o n / 2 ^ 2 % 2 = nz (at8 o 2) ∧ codeOf o n / 2 ^ 3 % 2 = nz (at8 o 3) ∧ codeOf o n / 2 ^ (4 + 0) % 2 = nz (at8 n 0) ∧ codeOf o n / 2 ^ (4 + 1) % 2 = nz (at8 n 1) ∧ codeOf o n / 2 ^ (4 + 2) % 2 = nz (at8 n 2) := by
  have h0 := nz_le (at8 o 0)
  have h1 := nz_le (at8 o 1)
  have h2 := nz_le (at8 o 2)
  have h3 := nz_le (at8 o 3)
  have h4 := nz_le (at8 n 0)
  have h5 := nz_le (at8 n 1)
  have h6 := nz_le (at8 n 2)
  unfold codeOf code7
  refine ⟨?_, ?_, ?_, ?_, ?_, ?_, ?_⟩ <;> omega
theorem join4 (o : Nat) (ho : o < 4294967296) : 0 + at8 o 0 * 256 ^ 0 + at8 o 1 * 256 ^ 1 + at8 o 2 * 256 ^ 2 + at8 o 3 * 256 ^ 3 = o := by unfold at8; omega
theorem join3 (n : Nat) (hn : n < 16777216) : 0 + at8 n 0 * 256 ^ 0 + at8 n 1 * 256 ^ 1 + at8 n 2 * 256 ^ 2 = n := by unfold at8; omega
theorem readCopy (o n : Nat) (ho : o < 4294967296) (hn : n < 16777216) (hn1 : 1 ≤ n) (rest : List Int) : spec_readCopy.f 8 (codeOf o n : Int) (argsOf o n ++ rest) = some ((o : Int), (n : Int), rest, 0) := by
  obtain ⟨c0, c1, c2, c3, c4, c5, c6⟩ := code_bits o n
  have hc := (code_bound o n).2
  have l0 := at8_lt o 0
  have l1 := at8_lt o 1
  have l2 := at8_lt o 2
  have l3 := at8_lt o 3
  have l4 := at8_lt n 0
  have l5 := at8_lt n 1
  have l6 := at8_lt n 2
  have e0 : spec_readCopy.f 8 (codeOf o n : Int) (argsOf o n ++ rest) = spec_readCopy.l0 (7 + 1) (codeOf o n : Int) (argsOf o n ++ rest) ((0 : Nat) : Int) ((0 : Nat) : Int) ((0 : Nat) : Int) := rfl
  rw [e0]
  unfold argsOf
  simp only [List.append_assoc]
  rw [get0 7 _ 0 0 _ _ _ (by omega) hc l0 c0 (by omega), get0 6 _ _ 1 _ _ _ (by omega) hc l1 c1 (by omega), get0 5 _ _ 2 _ _ _ (by omega) hc l2 c2 (by omega), get0 4 _ _ 3 _ _ _ (by omega) hc l3 c3 (by omega), join4 o ho]
  rw [show ((3 + 1 : Nat) : Int) = ((4 + 0 : Nat) : Int) from rfl, get1 3 _ 0 0 _ _ _ (by omega) hc l4 c4 (by omega), get1 2 _ _ 1 _ _ _ (by omega) hc l5 c5 (by omega), get1 1 _ _ 2 _ _ _ (by omega) hc l6 c6 (by omega), join3 n hn]
  rw [spec_readCopy.l0, if_neg (by omega), if_neg (by omega)]
end Go.Proofs.YtkknoionjppegaaDoor.Delta
