/- How the bytes of a delta's copy and of its sizes are written and read: the plain laws. -/
import Derived.Test.YtkknoionjppegaaDoorDX2
import Derived.Test.YtkknoionjppegaaDoorPFnDeltaDiffReadx1
namespace Go.Proofs.YtkknoionjppegaaDoor.Delta
open Go.RowKit Go.Proofs.YtkknoionjppegaaDoorW.PrintWords Go.Proofs.YtkknoionjppegaaDoorW.PrintLast Go.Proofs.YtkknoionjppegaaDoorW.PrintMore Go.Proofs.YtkknoionjppegaaDoor.PFnDeltaDiffRead

def nz (b : Nat) : Nat := if b = 0 then 0 else 1
theorem nz_le (b : Nat) : nz b ≤ 1 := by unfold nz; split <;> omega
def pb (b : Nat) : List Int := if b = 0 then [] else [(b : Int)]
def at8 (o i : Nat) : Nat := o / 256 ^ i % 256
theorem at8_lt (o i : Nat) : at8 o i < 256 := Nat.mod_lt _ (by decide)
def code7 (b0 b1 b2 b3 b4 b5 b6 : Nat) : Nat := 128 + nz b0 + 2 * nz b1 + 4 * nz b2 + 8 * nz b3 + 16 * nz b4 + 32 * nz b5 + 64 * nz b6
def codeOf (o n : Nat) : Nat := code7 (at8 o 0) (at8 o 1) (at8 o 2) (at8 o 3) (at8 n 0) (at8 n 1) (at8 n 2)
def argsOf (o n : Nat) : List Int := pb (at8 o 0) ++ (pb (at8 o 1) ++ (pb (at8 o 2) ++ (pb (at8 o 3) ++ (pb (at8 n 0) ++ (pb (at8 n 1) ++ pb (at8 n 2))))))
def copyBytes (o n : Nat) : List Int := (codeOf o n : Int) :: argsOf o n
theorem code_bound (o n : Nat) : 128 ≤ codeOf o n ∧ codeOf o n < 256 := by
  unfold codeOf code7
  have h0 := nz_le (at8 o 0)
  have h1 := nz_le (at8 o 1)
  have h2 := nz_le (at8 o 2)
  have h3 := nz_le (at8 o 3)
  have h4 := nz_le (at8 n 0)
  have h5 := nz_le (at8 n 1)
  have h6 := nz_le (at8 n 2)
  omega

theorem wraps_i64 (n : Int) (h₀ : 0 ≤ n) (h₁ : n < 4611686018427387904) : IntKind.i64.wrap n = n := by rw [IntKind.wrap_i64]; omega
theorem wraps_u64 (n : Int) (h₀ : 0 ≤ n) (h₁ : n < 4611686018427387904) : IntKind.u64.wrap n = n := by
  simp [IntKind.wrap, IntKind.bits, IntKind.signed]
  omega
theorem lt62 {n : Int} (h : n < 2 ^ 62) : n < 4611686018427387904 := by
  rwa [show (2 : Int) ^ 62 = 4611686018427387904 from by decide] at h
theorem wrap64_in (n : Int) (h₀ : 0 ≤ n) (h₁ : n < 4611686018427387904) : wrap64 n = n := by unfold wrap64; omega
theorem and_shift (o k : Nat) : o &&& (255 * 2 ^ k) = (o / 2 ^ k % 256) * 2 ^ k := by
  have e : (255 : Nat) * 2 ^ k = 255 <<< k := (Nat.shiftLeft_eq 255 k).symm
  have e2 : o / 2 ^ k % 256 * 2 ^ k = ((o >>> k) &&& 255) <<< k := by
    rw [Nat.shiftLeft_eq, Nat.shiftRight_eq_div_pow]
    congr 1
    exact (Nat.and_two_pow_sub_one_eq_mod _ 8).symm
  rw [e, e2]
  apply Nat.eq_of_testBit_eq
  intro i
  rw [Nat.testBit_and, Nat.testBit_shiftLeft, Nat.testBit_shiftLeft, Nat.testBit_and, Nat.testBit_shiftRight]
  by_cases h : k ≤ i
  · have : k + (i - k) = i := by omega
    simp [h, this]
  · simp [h]
theorem mask_at (o i : Nat) (hi : i ≤ 3) (ho : o < 1099511627776) : Go.bits .and .i64 (o : Int) (shl .i64 255 (IntKind.u64.wrap ((i : Int) * 8))) = ((at8 o i * 256 ^ i : Nat) : Int) ∧ shr .i64 ((at8 o i * 256 ^ i : Nat) : Int) (IntKind.u64.wrap ((i : Int) * 8)) % 256 = ((at8 o i : Nat) : Int) ∧ 0 ≤ IntKind.u64.wrap ((i : Int) * 8) := by
  have hw : IntKind.u64.wrap ((i : Int) * 8) = ((8 * i : Nat) : Int) := by rw [wraps_u64 _ (by omega) (by omega)]; omega
  have hmin : min ((8 * i : Nat) : Int).toNat 64 = 8 * i := by omega
  have hb : IntKind.i64.bits = 64 := rfl
  have h256 : (256 : Nat) ^ i = 2 ^ (8 * i) := by rw [Nat.pow_mul]
  have hle : (2 : Nat) ^ (8 * i) ≤ 2 ^ 24 := Nat.pow_le_pow_right (by decide) (by omega)
  rw [show (2 : Nat) ^ 24 = 16777216 from by decide] at hle
  have hpos : 0 < (2 : Nat) ^ (8 * i) := Nat.two_pow_pos _
  have hs : shl .i64 255 ((8 * i : Nat) : Int) = ((255 * 2 ^ (8 * i) : Nat) : Int) := by
    unfold shl
    have e : (255 : Int) * 2 ^ (8 * i) = ((255 * 2 ^ (8 * i) : Nat) : Int) := by rw [Int.natCast_mul, Int.natCast_pow]; rfl
    rw [hb, hmin, e]
    obtain ⟨y, hy⟩ : ∃ y, y = 255 * 2 ^ (8 * i) := ⟨_, rfl⟩
    rw [← hy]
    exact wraps_i64 _ (by omega) (by omega)
  rw [hw, hs]
  refine ⟨?_, ?_, by omega⟩
  · rw [(bits_nat .i64 62 (by decide) (fun n h0 h1 => wraps_i64 n h0 (lt62 h1)) o (255 * 2 ^ (8 * i)) (by omega) (by omega)).1, and_shift, at8, h256]
  · unfold shr
    rw [hb, hmin, h256]
    have hlt := at8_lt o i
    have : (((at8 o i * 2 ^ (8 * i) : Nat) : Int) / 2 ^ (8 * i)) = ((at8 o i : Nat) : Int) := by
      have e : ((2 : Int) ^ (8 * i)) = ((2 ^ (8 * i) : Nat) : Int) := by rw [Int.natCast_pow]; rfl
      rw [e, ← Int.natCast_ediv, Nat.mul_div_cancel _ hpos]
    rw [this]
    omega
theorem or_bit : ∀ i : Fin 7, ∀ c : Fin 128, c.val < 2 ^ i.val → Go.bits .or .i64 ((128 + c.val : Nat) : Int) ((2 ^ i.val : Nat) : Int) = ((128 + c.val + 2 ^ i.val : Nat) : Int) := by decide +kernel
theorem or_at (i c : Nat) (hi : i < 7) (hc : c < 2 ^ i) : Go.bits .or .i64 ((128 + c : Nat) : Int) ((2 ^ i : Nat) : Int) = ((128 + c + 2 ^ i : Nat) : Int) := by
  have : (2 : Nat) ^ i ≤ 2 ^ 6 := Nat.pow_le_pow_right (by decide) (by omega)
  exact or_bit ⟨i, hi⟩ ⟨c, by omega⟩ hc
theorem shl_one (i : Nat) (hi : i ≤ 3) : shl .i64 1 (i : Int) = ((2 ^ i : Nat) : Int) ∧ shl .i64 16 (i : Int) = ((2 ^ (4 + i) : Nat) : Int) := by
  rcases (by omega : i = 0 ∨ i = 1 ∨ i = 2 ∨ i = 3) with rfl | rfl | rfl | rfl <;> decide

theorem enc0 (k o n c i : Nat) (xs : List Int) (hi : i ≤ 3) (ho : o < 1099511627776) (hc : c < 2 ^ i) (hx : xs.length < 100) :
    packfile_encodeCopyOperation.l0 (k + 1) (o : Int) (n : Int) ((128 + c : Nat) : Int) xs (i : Int) = packfile_encodeCopyOperation.l0 k (o : Int) (n : Int) ((128 + (c + 2 ^ i * nz (at8 o i)) : Nat) : Int) (xs ++ pb (at8 o i)) ((i + 1 : Nat) : Int) := by
  obtain ⟨m1, m2, m3⟩ := mask_at o i hi ho
  rw [packfile_encodeCopyOperation.l0, if_pos (by omega), if_pos m3, m1]
  have hw : IntKind.u64.wrap ((i : Int) + 1) = ((i + 1 : Nat) : Int) := by rw [wraps_u64 _ (by omega) (by omega)]; omega
  rw [hw]
  by_cases hz : at8 o i = 0
  · rw [if_pos (by rw [hz]; simp)]
    simp [nz, pb, hz]
  · have : at8 o i * 256 ^ i ≠ 0 := Nat.mul_ne_zero hz (Nat.ne_of_gt (Nat.pow_pos (by decide)))
    have hnz : nz (at8 o i) = 1 := by simp [nz, hz]
    have hpb : pb (at8 o i) = [(at8 o i : Int)] := by simp [pb, hz]
    rw [if_neg (by omega), if_pos (by omega), if_pos (by omega), m2, (shl_one i hi).1, or_at i c (by omega) hc, hnz, hpb, Nat.mul_one, Nat.add_assoc]
theorem enc1 (k n c i : Nat) (xs : List Int) (hi : i ≤ 2) (hn : n < 1099511627776) (hc : c < 2 ^ (4 + i)) (hx : xs.length < 100) :
    packfile_encodeCopyOperation.l1 (k + 1) (n : Int) ((128 + c : Nat) : Int) xs (i : Int) = packfile_encodeCopyOperation.l1 k (n : Int) ((128 + (c + 2 ^ (4 + i) * nz (at8 n i)) : Nat) : Int) (xs ++ pb (at8 n i)) ((i + 1 : Nat) : Int) := by
  obtain ⟨m1, m2, m3⟩ := mask_at n i (by omega) hn
  rw [packfile_encodeCopyOperation.l1, if_pos (by omega), if_pos m3, m1]
  have hw : IntKind.u64.wrap ((i : Int) + 1) = ((i + 1 : Nat) : Int) := by rw [wraps_u64 _ (by omega) (by omega)]; omega
  rw [hw]
  by_cases hz : at8 n i = 0
  · rw [if_pos (by rw [hz]; simp)]
    simp [nz, pb, hz]
  · have : at8 n i * 256 ^ i ≠ 0 := Nat.mul_ne_zero hz (Nat.ne_of_gt (Nat.pow_pos (by decide)))
    have hnz : nz (at8 n i) = 1 := by simp [nz, hz]
    have hpb : pb (at8 n i) = [(at8 n i : Int)] := by simp [pb, hz]
    rw [if_neg (by omega), if_pos (by omega), if_pos (by omega), m2, (shl_one i (by omega)).2, or_at (4 + i) c (by omega) hc, hnz, hpb, Nat.mul_one, Nat.add_assoc]
theorem pb_len (b : Nat) : (pb b).length ≤ 1 := by unfold pb; split <;> simp
theorem encodeCopy (o n : Nat) (ho : o < 4294967296) (hn : n < 16777216) : packfile_encodeCopyOperation.f 9 (o : Int) (n : Int) = some (copyBytes o n) := by
  have h0 := nz_le (at8 o 0)
  have h1 := nz_le (at8 o 1)
  have h2 := nz_le (at8 o 2)
  have h3 := nz_le (at8 o 3)
  have h4 := nz_le (at8 n 0)
  have h5 := nz_le (at8 n 1)
  have h6 := nz_le (at8 n 2)
  have p0 := pb_len (at8 o 0)
  have p1 := pb_len (at8 o 1)
  have p2 := pb_len (at8 o 2)
  have p3 := pb_len (at8 o 3)
  have p4 := pb_len (at8 n 0)
  have p5 := pb_len (at8 n 1)
  have p6 := pb_len (at8 n 2)
  have a0 := enc0 8 o n 0 0 [] (by omega) (by omega) (by decide) (by simp)
  have a1 := enc0 7 o n (0 + 2 ^ 0 * nz (at8 o 0)) 1 ([] ++ pb (at8 o 0)) (by omega) (by omega) (by omega) (by simp; omega)
  have a2 := enc0 6 o n (0 + 2 ^ 0 * nz (at8 o 0) + 2 ^ 1 * nz (at8 o 1)) 2 ([] ++ pb (at8 o 0) ++ pb (at8 o 1)) (by omega) (by omega) (by omega) (by simp; omega)
  have a3 := enc0 5 o n (0 + 2 ^ 0 * nz (at8 o 0) + 2 ^ 1 * nz (at8 o 1) + 2 ^ 2 * nz (at8 o 2)) 3 ([] ++ pb (at8 o 0) ++ pb (at8 o 1) ++ pb (at8 o 2)) (by omega) (by omega) (by omega) (by simp; omega)
  have b0 := enc1 3 n (0 + 2 ^ 0 * nz (at8 o 0) + 2 ^ 1 * nz (at8 o 1) + 2 ^ 2 * nz (at8 o 2) + 2 ^ 3 * nz (at8 o 3)) 0 ([] ++ pb (at8 o 0) ++ pb (at8 o 1) ++ pb (at8 o 2) ++ pb (at8 o 3)) (by omega) (by omega) (by omega) (by simp; omega)
  have b1 := enc1 2 n (0 + 2 ^ 0 * nz (at8 o 0) + 2 ^ 1 * nz (at8 o 1) + 2 ^ 2 * nz (at8 o 2) + 2 ^ 3 * nz (at8 o 3) + 2 ^ (4 + 0) * nz (at8 n 0)) 1 ([] ++ pb (at8 o 0) ++ pb (at8 o 1) ++ pb (at8 o 2) ++ pb (at8 o 3) ++ pb (at8 n 0)) (by omega) (by omega) (by omega) (by simp; omega)
  have b2 := enc1 1 n (0 + 2 ^ 0 * nz (at8 o 0) + 2 ^ 1 * nz (at8 o 1) + 2 ^ 2 * nz (at8 o 2) + 2 ^ 3 * nz (at8 o 3) + 2 ^ (4 + 0) * nz (at8 n 0) + 2 ^ (4 + 1) * nz (at8 n 1)) 2 ([] ++ pb (at8 o 0) ++ pb (at8 o 1) ++ pb (at8 o 2) ++ pb (at8 o 3) ++ pb (at8 n 0) ++ pb (at8 n 1)) (by omega) (by omega) (by omega) (by simp; omega)
  have e0 : packfile_encodeCopyOperation.f 9 (o : Int) (n : Int) = packfile_encodeCopyOperation.l0 (8 + 1) (o : Int) (n : Int) ((128 + 0 : Nat) : Int) [] ((0 : Nat) : Int) := rfl
  rw [e0, a0, a1, a2, a3, packfile_encodeCopyOperation.l0, if_neg (by omega)]
  refine Eq.trans (show _ = packfile_encodeCopyOperation.l1 (3 + 1) _ _ _ ((0 : Nat) : Int) from rfl) ?_
  rw [b0, b1, b2, packfile_encodeCopyOperation.l1, if_neg (by omega)]
  simp only [Option.bind_some]
  rw [if_pos (by simp; omega)]
  unfold copyBytes argsOf
  have hb := code_bound o n
  have hcode : (((128 + (0 + 2 ^ 0 * nz (at8 o 0) + 2 ^ 1 * nz (at8 o 1) + 2 ^ 2 * nz (at8 o 2) + 2 ^ 3 * nz (at8 o 3) + 2 ^ (4 + 0) * nz (at8 n 0) + 2 ^ (4 + 1) * nz (at8 n 1) + 2 ^ (4 + 2) * nz (at8 n 2)) : Nat) : Int)) = (codeOf o n : Int) := by
    unfold codeOf code7
    omega
  rw [hcode, show ((codeOf o n : Nat) : Int) % 256 = (codeOf o n : Int) by omega]
  simp [List.append_assoc]

end Go.Proofs.YtkknoionjppegaaDoor.Delta
