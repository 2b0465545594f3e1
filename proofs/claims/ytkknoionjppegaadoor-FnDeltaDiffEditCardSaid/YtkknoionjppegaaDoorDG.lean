/- The hash of sixteen bytes is a number of 31 bits. -/
import Derived.Test.YtkknoionjppegaaDoorDE
import Derived.IntWalk
namespace Go.Proofs.YtkknoionjppegaaDoor.Delta
open Go.RowKit Go.Proofs.YtkknoionjppegaaDoorW.PrintWords Go.Proofs.YtkknoionjppegaaDoorW.PrintLast Go.Proofs.YtkknoionjppegaaDoorW.PrintMore
/-- The table of the hash. -/
def Tab (w : World) (T : Addr) : Prop := ∃ c, w.cell? ⟨6, 0, none⟩ = some (.slice (some T) 256 c) ∧ 256 ≤ c ∧ ∀ i : Nat, i < 256 → ∃ t : Int, w.cell? (T.add i) = some (.int .u32 t) ∧ 0 ≤ t ∧ t < 4294967296 ∧ t / 2147483648 = i % 2
theorem i64s {p n : Nat} {k : Int} (hp : p + 16 ≤ n) (hn : n ≤ 10000000) (hk : 0 ≤ k ∧ k ≤ 16) : IntKind.i64.wrap ((p : Int) + k) = (p : Int) + k := IntWalk.i64_in _ (by omega)
theorem wraps_u32 (n : Int) (h₀ : 0 ≤ n) (h₁ : n < 2 ^ 32) : IntKind.u32.wrap n = n := by rw [IntKind.wrap_u32]; omega
theorem u32_id {x : Int} (h0 : 0 ≤ x) (h1 : x < 256) : IntKind.u32.wrap x = x := by rw [IntKind.wrap_u32]; omega
theorem u32_and {x : Int} (h0 : 0 ≤ x) (h1 : x < 256) : Go.bits .and .u32 x 255 = x := by
  have := bits_mask .u32 32 (by decide) wraps_u32 8 (by decide) x h0 (by omega)
  rw [show (255 : Int) = 2 ^ 8 - 1 from rfl, this]
  omega
theorem wrap_u32_bound (x : Int) : 0 ≤ IntKind.u32.wrap x ∧ IntKind.u32.wrap x < 4294967296 := by rw [IntKind.wrap_u32]; omega
theorem or_u32_bound (x y : Int) : 0 ≤ Go.bits .or .u32 x y ∧ Go.bits .or .u32 x y < 4294967296 := by
  unfold Go.bits
  exact wrap_u32_bound _
theorem xor_nat (a b : Nat) (ha : a < 4294967296) (hb : b < 4294967296) : Go.bits .xor .u32 (a : Int) (b : Int) = ((a ^^^ b : Nat) : Int) := by
  have ha' : a % 2 ^ 32 = a := Nat.mod_eq_of_lt (by omega)
  have hb' : b % 2 ^ 32 = b := Nat.mod_eq_of_lt (by omega)
  have hx : a ^^^ b < 2 ^ 32 := Nat.xor_lt_two_pow (by omega) (by omega)
  have e : IntKind.u32.bits = 32 := rfl
  simp only [Go.bits, BitVec.ofInt_natCast, BitVec.toNat_xor, BitVec.toNat_ofNat, e, ha', hb']
  exact wraps_u32 _ (Int.natCast_nonneg _) (by exact_mod_cast hx)
theorem xor_low {x t : Int} (h0 : 0 ≤ x) (h1 : x < 4294967296) (t0 : 0 ≤ t) (t1 : t < 4294967296) (he : t / 2147483648 = x / 2147483648) : 0 ≤ Go.bits .xor .u32 x t ∧ Go.bits .xor .u32 x t < 2147483648 := by
  obtain ⟨a, rfl⟩ := Int.eq_ofNat_of_zero_le h0
  obtain ⟨b, rfl⟩ := Int.eq_ofNat_of_zero_le t0
  rw [xor_nat a b (by omega) (by omega)]
  have hd : (a ^^^ b) / 2 ^ 31 = 0 := by
    rw [← Nat.shiftRight_eq_div_pow, Nat.shiftRight_xor_distrib, Nat.shiftRight_eq_div_pow, Nat.shiftRight_eq_div_pow]
    have : b / 2 ^ 31 = a / 2 ^ 31 := by omega
    rw [this, Nat.xor_self]
  omega
theorem round_low {h x t : Int} (h0 : 0 ≤ h) (h1 : h < 2147483648) (x0 : 0 ≤ x) (x1 : x < 256) (t0 : 0 ≤ t) (t1 : t < 4294967296) (he : t / 2147483648 = h / 8388608 % 2) : 0 ≤ Go.bits .xor .u32 (Go.bits .or .u32 (IntKind.u32.wrap (h * 256)) x) t ∧ Go.bits .xor .u32 (Go.bits .or .u32 (IntKind.u32.wrap (h * 256)) x) t < 2147483648 := by
  have e : Go.bits .or .u32 (IntKind.u32.wrap (h * 256)) x = h * 256 % 4294967296 + x := by
    rw [IntKind.wrap_u32]
    exact bits_join .u32 32 (by decide) wraps_u32 8 _ _ (by omega) (by omega) (by omega) x0 (by omega) (by omega)
  rw [e]
  exact xor_low (by omega) (by omega) t0 t1 (by omega)
/-- The hash so far. -/
def HashAt (w : World) (B : Int) (v : Value) (wx : World) : Prop := ∃ h : Int, v = .int .u32 h ∧ 0 ≤ h ∧ h < B ∧ ∃ k, wx = w.drewN k

set_option maxHeartbeats 16000000 in
set_option maxRecDepth 100000 in
theorem hash_calls (A T : Addr) (n c p : Nat) (xs : List Int) (w : World) (hT : Tab w T) (hR : Rd w (some A) n xs) (hp : p + 16 ≤ n) (hn : n ≤ c) (hn2 : n ≤ 10000000) (hx : ∀ x ∈ xs, 0 ≤ x ∧ x < 256) :
    Calls Tryd.prog 40 #[.slice (some A) n c, .int .i64 p] w fun e w' => (∃ h : Int, e = .returned (.int .i64 h) ∧ 0 ≤ h ∧ h < 2147483648) ∧ ∃ k, w' = w.drewN k := by
  have hc : ∀ i : Nat, i < 16 → ∃ x : Int, w.cell? (A.add (p + i)) = some (.int .u8 x) ∧ 0 ≤ x ∧ x < 256 := fun i hi => by
    obtain ⟨a, ha, hcc⟩ := hR.cells (by omega)
    cases ha
    have hlt : p + i < xs.length := by have := hR.1; omega
    exact ⟨xs[p + i], hcc (p + i) _ (by simp [nums, hlt]), hx _ (List.getElem_mem hlt)⟩
  obtain ⟨ct, t0, tc, ht⟩ := hT
  have hcell : ∀ i : Nat, 0 < i → i < 16 → ∃ x : Int, w.cell? { block := A.block, off := A.off + (p + i) } = some (.int .u8 x) ∧ 0 ≤ x ∧ x < 256 := fun i h0 hi => by
    obtain ⟨x, h1, h2⟩ := hc i hi
    refine ⟨x, ?_, h2⟩
    have e : A.add (p + i) = { block := A.block, off := A.off + (p + i) } := by unfold Addr.add; rw [if_neg (by omega)]
    rw [← e]
    exact h1
  have HT := Lib.hid ht
  have HC := Lib.hid hcell
  obtain ⟨x0, c0, l0, u0⟩ := hc 0 (by omega)
  rw [Nat.add_zero] at c0
  have p0 : (0 : Int) ≤ (p : Int) := by omega
  have b0 : (p : Int) < (n : Int) := by omega
  have HP := Lib.hid (⟨hp, hn2⟩ : p + 16 ≤ n ∧ n ≤ 10000000)
  clear hx ht hc hR hcell hp hn2
  go_enter Tryd.func40, Tryd.ntmps40
  go_wp2_with fail
  go_cut [5] (fun s5 wx => HashAt w 4294967296 s5 wx)
  case first => as_aux_lemma =>
    have w0 : IntKind.u32.wrap x0 = x0 := u32_id l0 u0
    have a0 : Go.bits .and .u32 x0 255 = x0 := u32_and l0 u0
    obtain ⟨x1, c1, l1, u1⟩ := HC.out 1 (by decide) (by decide)
    have z1 : (0 : Int) ≤ (p : Int) + 1 := by have := HP.out; omega
    have b1 : (p : Int) + 1 < (n : Int) := by have := HP.out; omega
    have t1 : ((p : Int) + 1).toNat = p + 1 := by omega
    have s1 : IntKind.i64.wrap ((p : Int) + 1) = (p : Int) + 1 := i64s HP.out.1 HP.out.2 (by decide)
    have w1 : IntKind.u32.wrap x1 = x1 := u32_id l1 u1
    have a1 : Go.bits .and .u32 x1 255 = x1 := u32_and l1 u1
    obtain ⟨x2, c2, l2, u2⟩ := HC.out 2 (by decide) (by decide)
    have z2 : (0 : Int) ≤ (p : Int) + 2 := by have := HP.out; omega
    have b2 : (p : Int) + 2 < (n : Int) := by have := HP.out; omega
    have t2 : ((p : Int) + 2).toNat = p + 2 := by omega
    have s2 : IntKind.i64.wrap ((p : Int) + 2) = (p : Int) + 2 := i64s HP.out.1 HP.out.2 (by decide)
    have w2 : IntKind.u32.wrap x2 = x2 := u32_id l2 u2
    have a2 : Go.bits .and .u32 x2 255 = x2 := u32_and l2 u2
    obtain ⟨x3, c3, l3, u3⟩ := HC.out 3 (by decide) (by decide)
    have z3 : (0 : Int) ≤ (p : Int) + 3 := by have := HP.out; omega
    have b3 : (p : Int) + 3 < (n : Int) := by have := HP.out; omega
    have t3 : ((p : Int) + 3).toNat = p + 3 := by omega
    have s3 : IntKind.i64.wrap ((p : Int) + 3) = (p : Int) + 3 := i64s HP.out.1 HP.out.2 (by decide)
    have w3 : IntKind.u32.wrap x3 = x3 := u32_id l3 u3
    have a3 : Go.bits .and .u32 x3 255 = x3 := u32_and l3 u3
    go_quiet (fail)
    go_wp2_with fail
    go_meet
    exact ⟨_, rfl, (or_u32_bound _ _).1, (or_u32_bound _ _).2, _, rfl⟩
  case rest => as_aux_lemma =>
    obtain ⟨h1, rfl, g1, k1, n1, rfl⟩ := hcut
    clear p0 b0 c0
    have j0 : 0 ≤ h1 / 2147483648 := by omega
    have j1 : h1 / 2147483648 < 256 := by omega
    obtain ⟨t, tcell, tl, tu, te⟩ := HT.out (h1 / 2147483648).toNat (by omega)
    have hx := xor_low g1 k1 tl tu (by omega)
    go_wp2_with fail
    obtain ⟨h2, hh2⟩ : ∃ h2, h2 = Go.bits .xor .u32 h1 t := ⟨_, rfl⟩
    rw [← hh2] at hx ⊢
    obtain ⟨g2, k2⟩ := hx
    clear j0 j1 tcell tl tu te hh2
    go_cut [5] (fun s5 wx => HashAt w 2147483648 s5 wx)
    case first => as_aux_lemma =>
      have j0 : 0 ≤ h2 / 8388608 := by omega
      have j1 : h2 / 8388608 < 256 := by omega
      obtain ⟨t, tcell, tl, tu, te⟩ := HT.out (h2 / 8388608).toNat (by omega)
      have hx := fun x l u => round_low (x := x) g2 k2 l u tl tu (by omega)
      have HX := Lib.hid hx
      clear hx tl tu te
      obtain ⟨x4, c4, l4, u4⟩ := HC.out 4 (by decide) (by decide)
      have z4 : (0 : Int) ≤ (p : Int) + 4 := by have := HP.out; omega
      have b4 : (p : Int) + 4 < (n : Int) := by have := HP.out; omega
      have t4 : ((p : Int) + 4).toNat = p + 4 := by omega
      have s4 : IntKind.i64.wrap ((p : Int) + 4) = (p : Int) + 4 := i64s HP.out.1 HP.out.2 (by decide)
      have w4 : IntKind.u32.wrap x4 = x4 := u32_id l4 u4
      have a4 : Go.bits .and .u32 x4 255 = x4 := u32_and l4 u4
      go_quiet (fail)
      go_wp2_with fail
      go_meet
      exact ⟨_, rfl, (HX.out _ l4 u4).1, (HX.out _ l4 u4).2, _, World.drewN_drewN _ _ _⟩
    case rest => as_aux_lemma =>
      obtain ⟨h3, rfl, g3, k3, n3, rfl⟩ := hcut
      clear g2 k2
      go_wp2_with fail
      go_cut [5] (fun s5 wx => HashAt w 2147483648 s5 wx)
      case first => as_aux_lemma =>
        have j0 : 0 ≤ h3 / 8388608 := by omega
        have j1 : h3 / 8388608 < 256 := by omega
        obtain ⟨t, tcell, tl, tu, te⟩ := HT.out (h3 / 8388608).toNat (by omega)
        have hx := fun x l u => round_low (x := x) g3 k3 l u tl tu (by omega)
        have HX := Lib.hid hx
        clear hx tl tu te
        obtain ⟨x5, c5, l5, u5⟩ := HC.out 5 (by decide) (by decide)
        have z5 : (0 : Int) ≤ (p : Int) + 5 := by have := HP.out; omega
        have b5 : (p : Int) + 5 < (n : Int) := by have := HP.out; omega
        have t5 : ((p : Int) + 5).toNat = p + 5 := by omega
        have s5 : IntKind.i64.wrap ((p : Int) + 5) = (p : Int) + 5 := i64s HP.out.1 HP.out.2 (by decide)
        have w5 : IntKind.u32.wrap x5 = x5 := u32_id l5 u5
        have a5 : Go.bits .and .u32 x5 255 = x5 := u32_and l5 u5
        go_quiet (fail)
        go_wp2_with fail
        go_meet
        exact ⟨_, rfl, (HX.out _ l5 u5).1, (HX.out _ l5 u5).2, _, World.drewN_drewN _ _ _⟩
      case rest => as_aux_lemma =>
        obtain ⟨h4, rfl, g4, k4, n4, rfl⟩ := hcut
        clear g3 k3
        go_wp2_with fail
        go_cut [5] (fun s5 wx => HashAt w 2147483648 s5 wx)
        case first => as_aux_lemma =>
          have j0 : 0 ≤ h4 / 8388608 := by omega
          have j1 : h4 / 8388608 < 256 := by omega
          obtain ⟨t, tcell, tl, tu, te⟩ := HT.out (h4 / 8388608).toNat (by omega)
          have hx := fun x l u => round_low (x := x) g4 k4 l u tl tu (by omega)
          have HX := Lib.hid hx
          clear hx tl tu te
          obtain ⟨x6, c6, l6, u6⟩ := HC.out 6 (by decide) (by decide)
          have z6 : (0 : Int) ≤ (p : Int) + 6 := by have := HP.out; omega
          have b6 : (p : Int) + 6 < (n : Int) := by have := HP.out; omega
          have t6 : ((p : Int) + 6).toNat = p + 6 := by omega
          have s6 : IntKind.i64.wrap ((p : Int) + 6) = (p : Int) + 6 := i64s HP.out.1 HP.out.2 (by decide)
          have w6 : IntKind.u32.wrap x6 = x6 := u32_id l6 u6
          have a6 : Go.bits .and .u32 x6 255 = x6 := u32_and l6 u6
          go_quiet (fail)
          go_wp2_with fail
          go_meet
          exact ⟨_, rfl, (HX.out _ l6 u6).1, (HX.out _ l6 u6).2, _, World.drewN_drewN _ _ _⟩
        case rest => as_aux_lemma =>
          obtain ⟨h5, rfl, g5, k5, n5, rfl⟩ := hcut
          clear g4 k4
          go_wp2_with fail
          go_cut [5] (fun s5 wx => HashAt w 2147483648 s5 wx)
          case first => as_aux_lemma =>
            have j0 : 0 ≤ h5 / 8388608 := by omega
            have j1 : h5 / 8388608 < 256 := by omega
            obtain ⟨t, tcell, tl, tu, te⟩ := HT.out (h5 / 8388608).toNat (by omega)
            have hx := fun x l u => round_low (x := x) g5 k5 l u tl tu (by omega)
            have HX := Lib.hid hx
            clear hx tl tu te
            obtain ⟨x7, c7, l7, u7⟩ := HC.out 7 (by decide) (by decide)
            have z7 : (0 : Int) ≤ (p : Int) + 7 := by have := HP.out; omega
            have b7 : (p : Int) + 7 < (n : Int) := by have := HP.out; omega
            have t7 : ((p : Int) + 7).toNat = p + 7 := by omega
            have s7 : IntKind.i64.wrap ((p : Int) + 7) = (p : Int) + 7 := i64s HP.out.1 HP.out.2 (by decide)
            have w7 : IntKind.u32.wrap x7 = x7 := u32_id l7 u7
            have a7 : Go.bits .and .u32 x7 255 = x7 := u32_and l7 u7
            go_quiet (fail)
            go_wp2_with fail
            go_meet
            exact ⟨_, rfl, (HX.out _ l7 u7).1, (HX.out _ l7 u7).2, _, World.drewN_drewN _ _ _⟩
          case rest => as_aux_lemma =>
            obtain ⟨h6, rfl, g6, k6, n6, rfl⟩ := hcut
            clear g5 k5
            go_wp2_with fail
            go_cut [5] (fun s5 wx => HashAt w 2147483648 s5 wx)
            case first => as_aux_lemma =>
              have j0 : 0 ≤ h6 / 8388608 := by omega
              have j1 : h6 / 8388608 < 256 := by omega
              obtain ⟨t, tcell, tl, tu, te⟩ := HT.out (h6 / 8388608).toNat (by omega)
              have hx := fun x l u => round_low (x := x) g6 k6 l u tl tu (by omega)
              have HX := Lib.hid hx
              clear hx tl tu te
              obtain ⟨x8, c8, l8, u8⟩ := HC.out 8 (by decide) (by decide)
              have z8 : (0 : Int) ≤ (p : Int) + 8 := by have := HP.out; omega
              have b8 : (p : Int) + 8 < (n : Int) := by have := HP.out; omega
              have t8 : ((p : Int) + 8).toNat = p + 8 := by omega
              have s8 : IntKind.i64.wrap ((p : Int) + 8) = (p : Int) + 8 := i64s HP.out.1 HP.out.2 (by decide)
              have w8 : IntKind.u32.wrap x8 = x8 := u32_id l8 u8
              have a8 : Go.bits .and .u32 x8 255 = x8 := u32_and l8 u8
              go_quiet (fail)
              go_wp2_with fail
              go_meet
              exact ⟨_, rfl, (HX.out _ l8 u8).1, (HX.out _ l8 u8).2, _, World.drewN_drewN _ _ _⟩
            case rest => as_aux_lemma =>
              obtain ⟨h7, rfl, g7, k7, n7, rfl⟩ := hcut
              clear g6 k6
              go_wp2_with fail
              go_cut [5] (fun s5 wx => HashAt w 2147483648 s5 wx)
              case first => as_aux_lemma =>
                have j0 : 0 ≤ h7 / 8388608 := by omega
                have j1 : h7 / 8388608 < 256 := by omega
                obtain ⟨t, tcell, tl, tu, te⟩ := HT.out (h7 / 8388608).toNat (by omega)
                have hx := fun x l u => round_low (x := x) g7 k7 l u tl tu (by omega)
                have HX := Lib.hid hx
                clear hx tl tu te
                obtain ⟨x9, c9, l9, u9⟩ := HC.out 9 (by decide) (by decide)
                have z9 : (0 : Int) ≤ (p : Int) + 9 := by have := HP.out; omega
                have b9 : (p : Int) + 9 < (n : Int) := by have := HP.out; omega
                have t9 : ((p : Int) + 9).toNat = p + 9 := by omega
                have s9 : IntKind.i64.wrap ((p : Int) + 9) = (p : Int) + 9 := i64s HP.out.1 HP.out.2 (by decide)
                have w9 : IntKind.u32.wrap x9 = x9 := u32_id l9 u9
                have a9 : Go.bits .and .u32 x9 255 = x9 := u32_and l9 u9
                go_quiet (fail)
                go_wp2_with fail
                go_meet
                exact ⟨_, rfl, (HX.out _ l9 u9).1, (HX.out _ l9 u9).2, _, World.drewN_drewN _ _ _⟩
              case rest => as_aux_lemma =>
                obtain ⟨h8, rfl, g8, k8, n8, rfl⟩ := hcut
                clear g7 k7
                go_wp2_with fail
                go_cut [5] (fun s5 wx => HashAt w 2147483648 s5 wx)
                case first => as_aux_lemma =>
                  have j0 : 0 ≤ h8 / 8388608 := by omega
                  have j1 : h8 / 8388608 < 256 := by omega
                  obtain ⟨t, tcell, tl, tu, te⟩ := HT.out (h8 / 8388608).toNat (by omega)
                  have hx := fun x l u => round_low (x := x) g8 k8 l u tl tu (by omega)
                  have HX := Lib.hid hx
                  clear hx tl tu te
                  obtain ⟨x10, c10, l10, u10⟩ := HC.out 10 (by decide) (by decide)
                  have z10 : (0 : Int) ≤ (p : Int) + 10 := by have := HP.out; omega
                  have b10 : (p : Int) + 10 < (n : Int) := by have := HP.out; omega
                  have t10 : ((p : Int) + 10).toNat = p + 10 := by omega
                  have s10 : IntKind.i64.wrap ((p : Int) + 10) = (p : Int) + 10 := i64s HP.out.1 HP.out.2 (by decide)
                  have w10 : IntKind.u32.wrap x10 = x10 := u32_id l10 u10
                  have a10 : Go.bits .and .u32 x10 255 = x10 := u32_and l10 u10
                  go_quiet (fail)
                  go_wp2_with fail
                  go_meet
                  exact ⟨_, rfl, (HX.out _ l10 u10).1, (HX.out _ l10 u10).2, _, World.drewN_drewN _ _ _⟩
                case rest => as_aux_lemma =>
                  obtain ⟨h9, rfl, g9, k9, n9, rfl⟩ := hcut
                  clear g8 k8
                  go_wp2_with fail
                  go_cut [5] (fun s5 wx => HashAt w 2147483648 s5 wx)
                  case first => as_aux_lemma =>
                    have j0 : 0 ≤ h9 / 8388608 := by omega
                    have j1 : h9 / 8388608 < 256 := by omega
                    obtain ⟨t, tcell, tl, tu, te⟩ := HT.out (h9 / 8388608).toNat (by omega)
                    have hx := fun x l u => round_low (x := x) g9 k9 l u tl tu (by omega)
                    have HX := Lib.hid hx
                    clear hx tl tu te
                    obtain ⟨x11, c11, l11, u11⟩ := HC.out 11 (by decide) (by decide)
                    have z11 : (0 : Int) ≤ (p : Int) + 11 := by have := HP.out; omega
                    have b11 : (p : Int) + 11 < (n : Int) := by have := HP.out; omega
                    have t11 : ((p : Int) + 11).toNat = p + 11 := by omega
                    have s11 : IntKind.i64.wrap ((p : Int) + 11) = (p : Int) + 11 := i64s HP.out.1 HP.out.2 (by decide)
                    have w11 : IntKind.u32.wrap x11 = x11 := u32_id l11 u11
                    have a11 : Go.bits .and .u32 x11 255 = x11 := u32_and l11 u11
                    go_quiet (fail)
                    go_wp2_with fail
                    go_meet
                    exact ⟨_, rfl, (HX.out _ l11 u11).1, (HX.out _ l11 u11).2, _, World.drewN_drewN _ _ _⟩
                  case rest => as_aux_lemma =>
                    obtain ⟨h10, rfl, g10, k10, n10, rfl⟩ := hcut
                    clear g9 k9
                    go_wp2_with fail
                    go_cut [5] (fun s5 wx => HashAt w 2147483648 s5 wx)
                    case first => as_aux_lemma =>
                      have j0 : 0 ≤ h10 / 8388608 := by omega
                      have j1 : h10 / 8388608 < 256 := by omega
                      obtain ⟨t, tcell, tl, tu, te⟩ := HT.out (h10 / 8388608).toNat (by omega)
                      have hx := fun x l u => round_low (x := x) g10 k10 l u tl tu (by omega)
                      have HX := Lib.hid hx
                      clear hx tl tu te
                      obtain ⟨x12, c12, l12, u12⟩ := HC.out 12 (by decide) (by decide)
                      have z12 : (0 : Int) ≤ (p : Int) + 12 := by have := HP.out; omega
                      have b12 : (p : Int) + 12 < (n : Int) := by have := HP.out; omega
                      have t12 : ((p : Int) + 12).toNat = p + 12 := by omega
                      have s12 : IntKind.i64.wrap ((p : Int) + 12) = (p : Int) + 12 := i64s HP.out.1 HP.out.2 (by decide)
                      have w12 : IntKind.u32.wrap x12 = x12 := u32_id l12 u12
                      have a12 : Go.bits .and .u32 x12 255 = x12 := u32_and l12 u12
                      go_quiet (fail)
                      go_wp2_with fail
                      go_meet
                      exact ⟨_, rfl, (HX.out _ l12 u12).1, (HX.out _ l12 u12).2, _, World.drewN_drewN _ _ _⟩
                    case rest => as_aux_lemma =>
                      obtain ⟨h11, rfl, g11, k11, n11, rfl⟩ := hcut
                      clear g10 k10
                      go_wp2_with fail
                      go_cut [5] (fun s5 wx => HashAt w 2147483648 s5 wx)
                      case first => as_aux_lemma =>
                        have j0 : 0 ≤ h11 / 8388608 := by omega
                        have j1 : h11 / 8388608 < 256 := by omega
                        obtain ⟨t, tcell, tl, tu, te⟩ := HT.out (h11 / 8388608).toNat (by omega)
                        have hx := fun x l u => round_low (x := x) g11 k11 l u tl tu (by omega)
                        have HX := Lib.hid hx
                        clear hx tl tu te
                        obtain ⟨x13, c13, l13, u13⟩ := HC.out 13 (by decide) (by decide)
                        have z13 : (0 : Int) ≤ (p : Int) + 13 := by have := HP.out; omega
                        have b13 : (p : Int) + 13 < (n : Int) := by have := HP.out; omega
                        have t13 : ((p : Int) + 13).toNat = p + 13 := by omega
                        have s13 : IntKind.i64.wrap ((p : Int) + 13) = (p : Int) + 13 := i64s HP.out.1 HP.out.2 (by decide)
                        have w13 : IntKind.u32.wrap x13 = x13 := u32_id l13 u13
                        have a13 : Go.bits .and .u32 x13 255 = x13 := u32_and l13 u13
                        go_quiet (fail)
                        go_wp2_with fail
                        go_meet
                        exact ⟨_, rfl, (HX.out _ l13 u13).1, (HX.out _ l13 u13).2, _, World.drewN_drewN _ _ _⟩
                      case rest => as_aux_lemma =>
                        obtain ⟨h12, rfl, g12, k12, n12, rfl⟩ := hcut
                        clear g11 k11
                        go_wp2_with fail
                        go_cut [5] (fun s5 wx => HashAt w 2147483648 s5 wx)
                        case first => as_aux_lemma =>
                          have j0 : 0 ≤ h12 / 8388608 := by omega
                          have j1 : h12 / 8388608 < 256 := by omega
                          obtain ⟨t, tcell, tl, tu, te⟩ := HT.out (h12 / 8388608).toNat (by omega)
                          have hx := fun x l u => round_low (x := x) g12 k12 l u tl tu (by omega)
                          have HX := Lib.hid hx
                          clear hx tl tu te
                          obtain ⟨x14, c14, l14, u14⟩ := HC.out 14 (by decide) (by decide)
                          have z14 : (0 : Int) ≤ (p : Int) + 14 := by have := HP.out; omega
                          have b14 : (p : Int) + 14 < (n : Int) := by have := HP.out; omega
                          have t14 : ((p : Int) + 14).toNat = p + 14 := by omega
                          have s14 : IntKind.i64.wrap ((p : Int) + 14) = (p : Int) + 14 := i64s HP.out.1 HP.out.2 (by decide)
                          have w14 : IntKind.u32.wrap x14 = x14 := u32_id l14 u14
                          have a14 : Go.bits .and .u32 x14 255 = x14 := u32_and l14 u14
                          go_quiet (fail)
                          go_wp2_with fail
                          go_meet
                          exact ⟨_, rfl, (HX.out _ l14 u14).1, (HX.out _ l14 u14).2, _, World.drewN_drewN _ _ _⟩
                        case rest => as_aux_lemma =>
                          obtain ⟨h13, rfl, g13, k13, n13, rfl⟩ := hcut
                          clear g12 k12
                          go_wp2_with fail
                          go_cut [5] (fun s5 wx => HashAt w 2147483648 s5 wx)
                          case first => as_aux_lemma =>
                            have j0 : 0 ≤ h13 / 8388608 := by omega
                            have j1 : h13 / 8388608 < 256 := by omega
                            obtain ⟨t, tcell, tl, tu, te⟩ := HT.out (h13 / 8388608).toNat (by omega)
                            have hx := fun x l u => round_low (x := x) g13 k13 l u tl tu (by omega)
                            have HX := Lib.hid hx
                            clear hx tl tu te
                            obtain ⟨x15, c15, l15, u15⟩ := HC.out 15 (by decide) (by decide)
                            have z15 : (0 : Int) ≤ (p : Int) + 15 := by have := HP.out; omega
                            have b15 : (p : Int) + 15 < (n : Int) := by have := HP.out; omega
                            have t15 : ((p : Int) + 15).toNat = p + 15 := by omega
                            have s15 : IntKind.i64.wrap ((p : Int) + 15) = (p : Int) + 15 := i64s HP.out.1 HP.out.2 (by decide)
                            have w15 : IntKind.u32.wrap x15 = x15 := u32_id l15 u15
                            have a15 : Go.bits .and .u32 x15 255 = x15 := u32_and l15 u15
                            go_quiet (fail)
                            go_wp2_with fail
                            go_meet
                            exact ⟨_, rfl, (HX.out _ l15 u15).1, (HX.out _ l15 u15).2, _, World.drewN_drewN _ _ _⟩
                          case rest => as_aux_lemma =>
                            obtain ⟨h14, rfl, g14, k14, n14, rfl⟩ := hcut
                            clear g13 k13
                            go_wp2_with fail
                            go_ret
                            exact ⟨⟨_, rfl, g14, k14⟩, _, rfl⟩
end Go.Proofs.YtkknoionjppegaaDoor.Delta
