/- A delta's sizes, and a copy's place and size, are decoded. -/
import Derived.Test.YtkknoionjppegaaDoorDU
import Derived.BigQuiet
namespace Go.Proofs.YtkknoionjppegaaDoor.Delta
open Go.RowKit Go.Proofs.YtkknoionjppegaaDoorW.PrintWords Go.Proofs.YtkknoionjppegaaDoorW.PrintLast Go.Proofs.YtkknoionjppegaaDoorW.PrintMore Go.Proofs.YtkknoionjppegaaDoor.PFnDeltaDiffRead

structure DecAt (d rest : List Int) (n f i acc m : Nat) (pre : List Int) : Prop where
  fi : f + i = 4
  f1 : 1 ≤ f
  len : pre.length = i
  eq : d = pre ++ (size7 f m ++ rest)
  lt : m < 128 ^ f
  low : acc < 128 ^ i
  sum : acc + m * 128 ^ i = n
theorem and127u : ∀ c : Fin 256, Go.bits .and .u64 ((c.val : Nat) : Int) 127 = ((c.val % 128 : Nat) : Int) := by decide +kernel
theorem and128u : ∀ c : Fin 256, (Go.bits .and .u64 ((c.val : Nat) : Int) 128 == 0) = decide (c.val < 128) := by decide +kernel
theorem shl7u' : ∀ c : Fin 128, ∀ i : Fin 4, shl .u64 ((c.val : Nat) : Int) ((7 * i.val : Nat) : Int) = ((c.val * 128 ^ i.val : Nat) : Int) := by decide +kernel
theorem or_u64 (a b i : Nat) (ha : a < 128 ^ i) (hi : i < 4) (hb : b < 128) : Go.bits .or .u64 (a : Int) ((b * 128 ^ i : Nat) : Int) = ((a + b * 128 ^ i : Nat) : Int) := by
  have hp := pow128 i hi
  have hm : b * 128 ^ i ≤ 266338304 := Nat.le_trans (Nat.mul_le_mul (show b ≤ 127 by omega) hp) (by decide)
  have e : (128 : Nat) ^ i = 2 ^ (7 * i) := by rw [Nat.pow_mul]
  have h := (bits_nat .u64 62 (by decide) (fun n h0 h1 => wraps_u64 n h0 (lt62 h1)) a (b * 128 ^ i) (by omega) (by omega)).2
  rw [h]
  congr 1
  rw [e] at ha ⊢
  have := Nat.shiftLeft_add_eq_or_of_lt ha b
  rw [Nat.shiftLeft_eq] at this
  rw [Nat.or_comm, ← this, Nat.add_comm]
theorem leb_term (acc x i : Nat) (ha : acc < 128 ^ i) (hi : i < 4) (hx : x < 256) : Go.bits .or .u64 (acc : Int) (IntKind.u64.wrap (Go.bits .and .u64 (x : Int) 127 * 2 ^ (i * 7))) = ((acc + x % 128 * 128 ^ i : Nat) : Int) := by
  have h1 : Go.bits .and .u64 (x : Int) 127 = ((x % 128 : Nat) : Int) := and127u ⟨x, hx⟩
  have hp := pow128 i hi
  have hm : x % 128 * 128 ^ i ≤ 266338304 := Nat.le_trans (Nat.mul_le_mul (show x % 128 ≤ 127 by omega) hp) (by decide)
  have e : ((x % 128 : Nat) : Int) * 2 ^ (i * 7) = ((x % 128 * 128 ^ i : Nat) : Int) := by
    rw [Int.natCast_mul, Int.natCast_pow, Nat.mul_comm i 7, Int.pow_mul]
    rfl
  rw [h1, e, wraps_u64 _ (by omega) (by omega)]
  exact or_u64 acc (x % 128) i ha hi (by omega)

set_option maxHeartbeats 8000000 in
set_option maxRecDepth 100000 in
theorem leb_calls (A : Option Addr) (nd c n : Nat) (rest : List Int) (base : Nat) (ok : Nat → Prop) (w : World) (hn : n < 268435456) (hV : Kd.V (Kd.int .u8) 5 w base ok (.slice A nd c) (size7 4 n ++ rest)) (hl : rest.length ≤ 10000000) :
    Calls Tryd.prog 27 #[.slice A nd c] w fun e w' => ∃ A' n' c', e = .returned (.tuple #[.int .u64 n, .slice A' n' c', .nilIface]) ∧ Kd.V (Kd.int .u8) 5 w' base ok (.slice A' n' c') rest ∧ Below w.heap.size w w' := by
  obtain ⟨d, hd⟩ : ∃ d, d = size7 4 n ++ rest := ⟨_, rfl⟩
  rw [← hd] at hV
  have HV := Lib.hid hV
  have hnd : nd = d.length := (Kd.V_at hV).1
  have hs7 := size7_len 4 n
  have hdl : d.length = (size7 4 n).length + rest.length := by rw [hd, List.length_append]
  have hpos : 1 ≤ (size7 4 n).length := by simp only [size7]; split <;> simp
  have p0 : 1 ≤ nd := by omega
  have p1 : nd ≤ 20000000 := by omega
  have z0 : ((nd : Int) == 0) = false := by rw [beq_eq_false_iff_ne]; omega
  have HN := Lib.hid hnd
  have HS := Lib.hid (⟨by omega, by omega, rfl, by rw [hd]; rfl, by rw [show (128 : Nat) ^ 4 = 268435456 from by decide]; exact hn, by decide, by omega⟩ : DecAt d rest n 4 0 0 n [])
  clear hnd hs7 hdl hpos hV hd hn hl
  go_enter Tryd.func27, Tryd.ntmps27
  go_wp2
  go_loopg [5, 6] 4 (fun gq v5 v6 w' => ∃ (i acc : Nat), v5 = .int .u64 acc ∧ v6 = .int .u64 i ∧ w = w' ∧ Aside0 (∃ m pre, DecAt d rest n gq i acc m pre))
  case atStart => exact ⟨0, 0, rfl, rfl, rfl, ⟨n, [], HS.out⟩⟩
  case round =>
    obtain ⟨i, acc, rfl, rfl, rfl, HA⟩ := hrel
    obtain ⟨m, pre, hP⟩ := HA.out
    have HP := Lib.hid hP
    have hi : i < 4 := by have h1 := hP.fi; have h2 := hP.f1; omega
    have hdl : d.length = i + (size7 gk m).length + rest.length := by rw [hP.eq, List.length_append, List.length_append, hP.len]; omega
    cases gk with
    | zero => exact absurd HP.out.f1 (by omega)
    | succ f =>
      by_cases hm : m < 128
      · have hs : size7 (f + 1) m = [(m : Int)] := by simp only [size7]; rw [if_pos hm]
        rw [hs] at hdl
        have hin : i < nd := by rw [HN.out, hdl]; simp; omega
        have hr : rd d (i : Int) = (m : Int) := by rw [hP.eq, hs, ← hP.len]; exact rd_mid pre rest m
        obtain ⟨ad, e, hcell⟩ := Kd.at_int (Kd.V_reads' HV.out).2.2 (i : Int) (by omega) (by rw [← HN.out]; omega)
        subst e
        rw [Int.toNat_natCast, hr] at hcell
        have zb := and128u ⟨m, by omega⟩
        rw [show decide (m < 128) = true from decide_eq_true hm] at zb
        have zb' : (Go.bits .and .u64 (m : Int) 128 == 0) = true := zb
        obtain ⟨A', hcut, hV'⟩ := V_from HV.out .u64 (i + 1) ((i : Int) + 1) (by omega) (by omega)
        have HV' := Lib.hid hV'
        clear hV' zb HA hP hs hdl hr
        go_wp2
        repeat (go_quiet (fail); try go_wp2)
        go_ret3
        have ht := leb_term acc m i HP.out.low hi (by omega)
        rw [Nat.mod_eq_of_lt hm] at ht
        have hd' : d.drop (i + 1) = rest := by
          have h1 := HP.out.eq
          have h2 := HP.out.len
          rw [show size7 (f + 1) m = [(m : Int)] from by simp only [size7]; rw [if_pos hm]] at h1
          rw [h1, ← h2, List.drop_append]
          simp
        have hVf := HV'.out
        rw [hd'] at hVf
        refine ⟨A', nd - (i + 1), c - (i + 1), ?_, ?_, ?_⟩
        · show Ending.returned (Value.tuple #[Value.int .u64 (Go.bits .or .u64 (acc : Int) (IntKind.u64.wrap (Go.bits .and .u64 (m : Int) 127 * 2 ^ (i * 7)))), _, _]) = _
          rw [ht, HP.out.sum]
          rfl
        · repeat (first | exact hVf | apply Kd.V_drewN | apply Kd.V_drew)
        · repeat (first | exact Below.refl _ _ | apply pw_below_drewN | apply below_drew1)
      · have hs : size7 (f + 1) m = ((m % 128 + 128 : Nat) : Int) :: size7 f (m / 128) := by simp only [size7]; rw [if_neg hm]
        rw [hs] at hdl
        obtain ⟨x, hx⟩ : ∃ x, x = m % 128 + 128 := ⟨_, rfl⟩
        have hx2 : x < 256 := by omega
        have hin : i + 1 < nd := by
          have := HP.out.lt
          have h1 : 1 ≤ f := by
            rcases Nat.eq_zero_or_pos f with e | e
            · subst e
              omega
            · exact e
          have : 1 ≤ (size7 f (m / 128)).length := by
            obtain ⟨g, rfl⟩ : ∃ g, f = g + 1 := ⟨f - 1, by omega⟩
            simp only [size7]
            split <;> simp
          rw [HN.out, hdl]
          simp
          omega
        have hr : rd d (i : Int) = (x : Int) := by rw [hx, hP.eq, hs, ← hP.len]; exact rd_mid pre _ _
        obtain ⟨ad, e, hcell⟩ := Kd.at_int (Kd.V_reads' HV.out).2.2 (i : Int) (by omega) (by rw [← HN.out]; omega)
        subst e
        rw [Int.toNat_natCast, hr] at hcell
        have zb := and128u ⟨x, by omega⟩
        rw [show decide (x < 128) = false from decide_eq_false (by omega)] at zb
        have zb' : (Go.bits .and .u64 (x : Int) 128 == 0) = false := zb
        have zn : ((i : Int) + 1 == (nd : Int)) = false := by rw [beq_eq_false_iff_ne]; omega
        have HX := Lib.hid (⟨hx, hm⟩ : x = m % 128 + 128 ∧ ¬ m < 128)
        clear zb HA hP hs hdl hr hx hm
        go_wp2
        go_roundg f
        case measure => omega
        case rel =>
          have hP := HP.out
          have ht := leb_term acc x i hP.low hi hx2
          have hxm : x % 128 = m % 128 := by have := HX.out.1; omega
          rw [hxm] at ht
          have h1 : 1 ≤ f := by
            rcases Nat.eq_zero_or_pos f with e | e
            · have := hP.lt
              have := HX.out.2
              subst e
              omega
            · exact e
          refine ⟨i + 1, _, congrArg (Value.int .u64) ht, by go_num, rfl, ⟨m / 128, pre ++ [(x : Int)], ?_, h1, ?_, ?_, ?_, ?_, ?_⟩⟩
          · have := hP.fi
            omega
          · rw [List.length_append, hP.len]
            rfl
          · rw [hP.eq, show size7 (f + 1) m = (x : Int) :: size7 f (m / 128) from by simp only [size7]; rw [if_neg HX.out.2, HX.out.1]]
            simp
          · have := hP.lt
            rw [Nat.pow_succ] at this
            exact Nat.div_lt_of_lt_mul (by rw [Nat.mul_comm]; exact this)
          · have h2 := hP.low
            have h3 : m % 128 * 128 ^ i ≤ 127 * 128 ^ i := Nat.mul_le_mul (show m % 128 ≤ 127 by omega) (Nat.le_refl _)
            rw [Nat.pow_succ]
            omega
          · have h2 := hP.sum
            have hsum : m % 128 * 128 ^ i + m / 128 * 128 ^ (i + 1) = m * 128 ^ i := by
              rw [Nat.pow_succ, ← Nat.mul_comm 128, ← Nat.mul_assoc, ← Nat.add_mul]
              congr 1
              omega
            rw [Nat.add_assoc, hsum]
            exact h2
end Go.Proofs.YtkknoionjppegaaDoor.Delta
namespace Go.Proofs.YtkknoionjppegaaDoor.Delta
open Go.RowKit Go.Proofs.YtkknoionjppegaaDoorW.PrintWords Go.Proofs.YtkknoionjppegaaDoorW.PrintLast Go.Proofs.YtkknoionjppegaaDoorW.PrintMore Go.Proofs.YtkknoionjppegaaDoor.PFnDeltaDiffRead

/-- The table of a copy's bytes: at global g, q of them, the first one's bit s. -/
def CTab (w : World) (g q s : Nat) : Prop := ∃ A c, w.cell? ⟨g, 0, none⟩ = some (.slice (some A) q c) ∧ q ≤ c ∧ ∀ i : Nat, i < q → w.cell? (A.add (i * 2)) = some (.int .u8 ((2 ^ (s + i) : Nat) : Int)) ∧ w.cell? ⟨(A.add (i * 2)).block, (A.add (i * 2)).off + 1, none⟩ = some (.int .u64 ((8 * i : Nat) : Int))
theorem bit_mask' : ∀ c : Fin 256, ∀ i : Fin 7, (Go.bits .and .u8 ((c.val : Nat) : Int) ((2 ^ i.val : Nat) : Int) != 0) = decide (c.val / 2 ^ i.val % 2 = 1) := by decide +kernel
theorem bit_mask (c i : Nat) (hc : c < 256) (hi : i < 7) : (Go.bits .and .u8 (c : Int) ((2 ^ i : Nat) : Int) != 0) = decide (c / 2 ^ i % 2 = 1) := bit_mask' ⟨c, hc⟩ ⟨i, hi⟩
theorem pow256 (i : Nat) (hi : i < 4) : 256 ^ i ≤ 16777216 := Nat.le_trans (Nat.pow_le_pow_right (by decide) (show i ≤ 3 by omega)) (by decide)
theorem cpy_term (acc x i : Nat) (ha : acc < 256 ^ i) (hi : i < 4) (hx : x < 256) : Go.bits .or .u64 (acc : Int) (IntKind.u64.wrap ((x : Int) * 2 ^ (8 * i))) = ((acc + x * 256 ^ i : Nat) : Int) := by
  have hp := pow256 i hi
  have hm : x * 256 ^ i ≤ 4278190080 := Nat.le_trans (Nat.mul_le_mul (show x ≤ 255 by omega) hp) (by decide)
  have e : (x : Int) * 2 ^ (8 * i) = ((x * 256 ^ i : Nat) : Int) := by
    rw [Int.natCast_mul, Int.natCast_pow, Int.pow_mul]
    rfl
  rw [e, wraps_u64 _ (by omega) (by omega)]
  have e2 : (256 : Nat) ^ i = 2 ^ (8 * i) := by rw [Nat.pow_mul]
  have h := (bits_nat .u64 62 (by decide) (fun n h0 h1 => wraps_u64 n h0 (lt62 h1)) acc (x * 256 ^ i) (by omega) (by omega)).2
  rw [h]
  congr 1
  rw [e2] at ha ⊢
  have := Nat.shiftLeft_add_eq_or_of_lt ha x
  rw [Nat.shiftLeft_eq] at this
  rw [Nat.or_comm, ← this, Nat.add_comm]

/-- i bytes of the number o are read: what is left of it stands ahead of the rest. -/
def left (o q : Nat) : Nat → List Int
  | 0 => []
  | f + 1 => pb (at8 o (q - (f + 1))) ++ left o q f
def low (o : Nat) : Nat → Nat
  | 0 => 0
  | i + 1 => low o i + at8 o i * 256 ^ i
theorem low_lt (o i : Nat) : low o i < 256 ^ i := by
  induction i with
  | zero => simp [low]
  | succ i ih =>
    have := at8_lt o i
    have h3 : at8 o i * 256 ^ i ≤ 255 * 256 ^ i := Nat.mul_le_mul (by omega) (Nat.le_refl _)
    simp only [low]
    rw [Nat.pow_succ]
    omega

set_option maxHeartbeats 8000000 in
set_option maxRecDepth 100000 in
theorem decOffset_calls (A : Option Addr) (nd c code o : Nat) (rest : List Int) (base : Nat) (ok : Nat → Prop) (w : World) (hT : CTab w 3 4 0) (hc : code < 256) (hbit : ∀ i, i < 4 → code / 2 ^ (0 + i) % 2 = nz (at8 o i)) (hV : Kd.V (Kd.int .u8) 5 w base ok (.slice A nd c) (left o 4 4 ++ rest)) (hl : nd ≤ 10000000) :
    Calls Tryd.prog 30 #[.int .u8 code, .slice A nd c] w fun e w' => ∃ A' n' c', e = .returned (.tuple #[.int .u64 (low o 4), .slice A' n' c', .nilIface]) ∧ Kd.V (Kd.int .u8) 5 w' base ok (.slice A' n' c') rest ∧ Below w.heap.size w w' := by
  obtain ⟨TA, tc, hg, htc, hT⟩ := hT
  have HV := Lib.hid hV
  have HT := Lib.hid hT
  have HBt := Lib.hid hbit
  clear hV hT hbit
  go_enter Tryd.func30, Tryd.ntmps30
  go_wp2
  go_loopg [1, 7, 12, 9] 4 (fun gq v1 v7 v12 v9 w' => ∃ (i : Nat) (A' : Option Addr) (n' c' : Nat), v1 = .slice A' n' c' ∧ v7 = .int .u64 (low o i) ∧ v12 = .int .i64 i ∧ n' ≤ 10000000 ∧ gq + i = 4 ∧ Aside0 (Kd.V (Kd.int .u8) 5 w' base ok (.slice A' n' c') (left o 4 gq ++ rest) ∧ Below w.heap.size w w'))
  case atStart => exact ⟨0, A, nd, c, rfl, rfl, rfl, hl, rfl, ⟨HV.out, Below.refl _ _⟩⟩
  case round =>
    obtain ⟨i, A', n', c', rfl, rfl, rfl, hn', hgi, HA⟩ := hrel
    have HA := Lib.hid HA.out
    cases gk with
    | zero =>
      have hi : i = 4 := by omega
      subst hi
      go_wp2
      repeat (go_quiet (fail); try go_wp2)
      go_ret3
      exact ⟨A', n', c', rfl, by repeat (first | exact HA.out.1 | apply Kd.V_drewN | apply Kd.V_drew), by repeat (first | exact HA.out.2 | apply pw_below_drewN | apply below_drew1)⟩
    | succ f =>
      have hi : i < 4 := by omega
      obtain ⟨mk, hmk⟩ : ∃ mk : Int, mk = ((2 ^ (0 + i) : Nat) : Int) := ⟨_, rfl⟩
      obtain ⟨s8, hs8⟩ : ∃ s8 : Nat, s8 = 8 * i := ⟨_, rfl⟩
      have hk := Keep.of_below HA.out.2 (fun _ => False)
      have e0 : wr.cell? (TA.add (i * 2)) = some (.int .u8 mk) := by rw [hmk]; exact hk.cell (HT.out i hi).1 (fun h => h)
      have e1 : wr.cell? ⟨(TA.add (i * 2)).block, (TA.add (i * 2)).off + 1, none⟩ = some (.int .u64 (s8 : Int)) := by rw [hs8]; exact hk.cell (HT.out i hi).2 (fun h => h)
      have hs82 : s8 ≤ 24 := by omega
      have hzb : (Go.bits .and .u8 (code : Int) mk != 0) = decide (nz (at8 o i) = 1) := by rw [hmk, bit_mask code (0 + i) hc (by omega), HBt.out i hi]
      have HM := Lib.hid hmk
      have HS8 := Lib.hid hs8
      have hq : 4 - (f + 1) = i := by omega
      have hlo : left o 4 (f + 1) = pb (at8 o i) ++ left o 4 f := by simp only [left]; rw [hq]
      have hb := at8_lt o i
      obtain ⟨L, hL⟩ : ∃ L, L = low o i := ⟨_, rfl⟩
      have HLow := Lib.hid hL
      rw [← hL]
      clear hk hmk hs8
      by_cases hz : at8 o i = 0
      · have zb : (Go.bits .and .u8 (code : Int) mk != 0) = false := by rw [hzb, hz]; rfl
        have hpb : pb (at8 o i) = [] := by simp [pb, hz]
        rw [hpb, List.nil_append] at hlo
        have HLo := Lib.hid hlo
        have HZ := Lib.hid hz
        clear hzb hpb hlo hz
        go_wp2
        go_roundg f
        case measure => omega
        case rel => exact ⟨i + 1, A', n', c', rfl, by rw [HLow.out]; simp [low, HZ.out], by go_num, hn', by omega, ⟨by rw [← HLo.out]; exact Kd.V_alloc HA.out.1 _, below_alloc HA.out.2 _⟩⟩
      · have zb : (Go.bits .and .u8 (code : Int) mk != 0) = true := by rw [hzb]; simp [nz, hz]
        have hpb : pb (at8 o i) = [(at8 o i : Int)] := by simp [pb, hz]
        rw [hpb, List.singleton_append] at hlo
        have hV0 := HA.out.1
        rw [hlo, List.cons_append] at hV0
        obtain ⟨b, hbe⟩ : ∃ b, b = at8 o i := ⟨_, rfl⟩
        have HBe := Lib.hid hbe
        rw [← hbe] at hb hV0
        have hn1 := (Kd.V_at hV0).1
        have p7 : 1 ≤ n' := by rw [hn1]; simp
        have z7 : ((n' : Int) == 0) = false := by rw [beq_eq_false_iff_ne]; omega
        obtain ⟨ad, e, hcell⟩ := Kd.at_int (Kd.V_reads' (Kd.V_alloc hV0 (.cells #[.int .u8 mk, .int .u64 (s8 : Int)] 86))).2.2 0 (by omega) (by rw [← hn1]; omega)
        subst e
        rw [show ((0 : Int)).toNat = 0 from rfl, Addr.add_zero', rd_zero] at hcell
        obtain ⟨A8, hcut8, hV8⟩ := V_from hV0 .i64 1 1 rfl (by omega)
        rw [show ((b : Int) :: (left o 4 f ++ rest)).drop 1 = left o 4 f ++ rest from rfl] at hV8
        obtain ⟨n8, hn8⟩ : ∃ k, k = n' - 1 := ⟨_, rfl⟩
        obtain ⟨c8, hc8⟩ : ∃ k, k = c' - 1 := ⟨_, rfl⟩
        rw [← hn8, ← hc8] at hcut8 hV8
        have HV8 := Lib.hid hV8
        have hn8' : n8 ≤ 10000000 := by omega
        clear hzb hpb hlo hz hbe hn1 hV0 hn8 hc8 hV8
        go_wp2
        repeat (go_quiet (fail); try go_wp2)

        go_roundg f
        case measure => omega
        case rel =>
          have ht := cpy_term L b i (by rw [HLow.out]; exact low_lt o i) hi hb
          rw [← HS8.out] at ht
          exact ⟨i + 1, A8, n8, c8, rfl, by rw [← HLow.out, ht, HLow.out, HBe.out]; rfl, by go_num, hn8', by omega, ⟨by repeat (first | exact HV8.out | apply Kd.V_drewN | apply Kd.V_drew | apply Kd.V_alloc), by repeat (first | exact HA.out.2 | apply pw_below_drewN | apply below_drew1 | apply below_alloc)⟩⟩
end Go.Proofs.YtkknoionjppegaaDoor.Delta
namespace Go.Proofs.YtkknoionjppegaaDoor.Delta
open Go.RowKit Go.Proofs.YtkknoionjppegaaDoorW.PrintWords Go.Proofs.YtkknoionjppegaaDoorW.PrintLast Go.Proofs.YtkknoionjppegaaDoorW.PrintMore Go.Proofs.YtkknoionjppegaaDoor.PFnDeltaDiffRead

set_option maxHeartbeats 8000000 in
set_option maxRecDepth 100000 in
theorem decSize_calls (A : Option Addr) (nd c code o : Nat) (rest : List Int) (base : Nat) (ok : Nat → Prop) (w : World) (hT : CTab w 4 3 4) (hc : code < 256) (hbit : ∀ i, i < 3 → code / 2 ^ (4 + i) % 2 = nz (at8 o i)) (hp : 0 < low o 3) (hV : Kd.V (Kd.int .u8) 5 w base ok (.slice A nd c) (left o 3 3 ++ rest)) (hl : nd ≤ 10000000) :
    Calls Tryd.prog 31 #[.int .u8 code, .slice A nd c] w fun e w' => ∃ A' n' c', e = .returned (.tuple #[.int .u64 (low o 3), .slice A' n' c', .nilIface]) ∧ Kd.V (Kd.int .u8) 5 w' base ok (.slice A' n' c') rest ∧ Below w.heap.size w w' := by
  obtain ⟨TA, tc, hg, htc, hT⟩ := hT
  have HV := Lib.hid hV
  have HT := Lib.hid hT
  have HBt := Lib.hid hbit
  clear hV hT hbit
  go_enter Tryd.func31, Tryd.ntmps31
  go_wp2
  go_loopg [1, 7, 12, 9] 3 (fun gq v1 v7 v12 v9 w' => ∃ (i : Nat) (A' : Option Addr) (n' c' : Nat), v1 = .slice A' n' c' ∧ v7 = .int .u64 (low o i) ∧ v12 = .int .i64 i ∧ n' ≤ 10000000 ∧ gq + i = 3 ∧ Aside0 (Kd.V (Kd.int .u8) 5 w' base ok (.slice A' n' c') (left o 3 gq ++ rest) ∧ Below w.heap.size w w'))
  case atStart => exact ⟨0, A, nd, c, rfl, rfl, rfl, hl, rfl, ⟨HV.out, Below.refl _ _⟩⟩
  case round =>
    obtain ⟨i, A', n', c', rfl, rfl, rfl, hn', hgi, HA⟩ := hrel
    have HA := Lib.hid HA.out
    cases gk with
    | zero =>
      have hi : i = 3 := by omega
      subst hi
      have zL : ((low o 3 : Nat) : Int) ≠ 0 := by omega
      have zL2 : (((low o 3 : Nat) : Int) == 0) = false := by rw [beq_eq_false_iff_ne]; exact zL
      go_wp2
      repeat (go_quiet (fail); try go_wp2)
      go_ret3
      exact ⟨A', n', c', rfl, by repeat (first | exact HA.out.1 | apply Kd.V_drewN | apply Kd.V_drew), by repeat (first | exact HA.out.2 | apply pw_below_drewN | apply below_drew1)⟩
    | succ f =>
      have hi : i < 3 := by omega
      obtain ⟨mk, hmk⟩ : ∃ mk : Int, mk = ((2 ^ (4 + i) : Nat) : Int) := ⟨_, rfl⟩
      obtain ⟨s8, hs8⟩ : ∃ s8 : Nat, s8 = 8 * i := ⟨_, rfl⟩
      have hk := Keep.of_below HA.out.2 (fun _ => False)
      have e0 : wr.cell? (TA.add (i * 2)) = some (.int .u8 mk) := by rw [hmk]; exact hk.cell (HT.out i hi).1 (fun h => h)
      have e1 : wr.cell? ⟨(TA.add (i * 2)).block, (TA.add (i * 2)).off + 1, none⟩ = some (.int .u64 (s8 : Int)) := by rw [hs8]; exact hk.cell (HT.out i hi).2 (fun h => h)
      have hs82 : s8 ≤ 24 := by omega
      have hzb : (Go.bits .and .u8 (code : Int) mk != 0) = decide (nz (at8 o i) = 1) := by rw [hmk, bit_mask code (4 + i) hc (by omega), HBt.out i hi]
      have HM := Lib.hid hmk
      have HS8 := Lib.hid hs8
      have hq : 3 - (f + 1) = i := by omega
      have hlo : left o 3 (f + 1) = pb (at8 o i) ++ left o 3 f := by simp only [left]; rw [hq]
      have hb := at8_lt o i
      obtain ⟨L, hL⟩ : ∃ L, L = low o i := ⟨_, rfl⟩
      have HLow := Lib.hid hL
      rw [← hL]
      clear hk hmk hs8
      by_cases hz : at8 o i = 0
      · have zb : (Go.bits .and .u8 (code : Int) mk != 0) = false := by rw [hzb, hz]; rfl
        have hpb : pb (at8 o i) = [] := by simp [pb, hz]
        rw [hpb, List.nil_append] at hlo
        have HLo := Lib.hid hlo
        have HZ := Lib.hid hz
        clear hzb hpb hlo hz
        go_wp2
        go_roundg f
        case measure => omega
        case rel => exact ⟨i + 1, A', n', c', rfl, by rw [HLow.out]; simp [low, HZ.out], by go_num, hn', by omega, ⟨by rw [← HLo.out]; exact Kd.V_alloc HA.out.1 _, below_alloc HA.out.2 _⟩⟩
      · have zb : (Go.bits .and .u8 (code : Int) mk != 0) = true := by rw [hzb]; simp [nz, hz]
        have hpb : pb (at8 o i) = [(at8 o i : Int)] := by simp [pb, hz]
        rw [hpb, List.singleton_append] at hlo
        have hV0 := HA.out.1
        rw [hlo, List.cons_append] at hV0
        obtain ⟨b, hbe⟩ : ∃ b, b = at8 o i := ⟨_, rfl⟩
        have HBe := Lib.hid hbe
        rw [← hbe] at hb hV0
        have hn1 := (Kd.V_at hV0).1
        have p7 : 1 ≤ n' := by rw [hn1]; simp
        have z7 : ((n' : Int) == 0) = false := by rw [beq_eq_false_iff_ne]; omega
        obtain ⟨ad, e, hcell⟩ := Kd.at_int (Kd.V_reads' (Kd.V_alloc hV0 (.cells #[.int .u8 mk, .int .u64 (s8 : Int)] 86))).2.2 0 (by omega) (by rw [← hn1]; omega)
        subst e
        rw [show ((0 : Int)).toNat = 0 from rfl, Addr.add_zero', rd_zero] at hcell
        obtain ⟨A8, hcut8, hV8⟩ := V_from hV0 .i64 1 1 rfl (by omega)
        rw [show ((b : Int) :: (left o 3 f ++ rest)).drop 1 = left o 3 f ++ rest from rfl] at hV8
        obtain ⟨n8, hn8⟩ : ∃ k, k = n' - 1 := ⟨_, rfl⟩
        obtain ⟨c8, hc8⟩ : ∃ k, k = c' - 1 := ⟨_, rfl⟩
        rw [← hn8, ← hc8] at hcut8 hV8
        have HV8 := Lib.hid hV8
        have hn8' : n8 ≤ 10000000 := by omega
        clear hzb hpb hlo hz hbe hn1 hV0 hn8 hc8 hV8
        go_wp2
        repeat (go_quiet (fail); try go_wp2)

        go_roundg f
        case measure => omega
        case rel =>
          have ht := cpy_term L b i (by rw [HLow.out]; exact low_lt o i) (by omega) hb
          rw [← HS8.out] at ht
          exact ⟨i + 1, A8, n8, c8, rfl, by rw [← HLow.out, ht, HLow.out, HBe.out]; rfl, by go_num, hn8', by omega, ⟨by repeat (first | exact HV8.out | apply Kd.V_drewN | apply Kd.V_drew | apply Kd.V_alloc), by repeat (first | exact HA.out.2 | apply pw_below_drewN | apply below_drew1 | apply below_alloc)⟩⟩
end Go.Proofs.YtkknoionjppegaaDoor.Delta
