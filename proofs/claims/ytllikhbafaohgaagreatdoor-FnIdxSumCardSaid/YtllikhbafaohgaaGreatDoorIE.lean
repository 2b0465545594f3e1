/- SHA-1: the reference's own, walked. -/
import Derived.Test.YtllikhbafaohgaaGreatDoorID
import Derived.Test.YtllikhbafaohgaaGreatDoorPFnIdxSumx4
namespace Go.Proofs.YtllikhbafaohgaaGreatDoor.Idx
open Go.RowKit Go.Proofs.YtllikhbafaohgaaGreatDoorW.PrintWords Go.Proofs.YtllikhbafaohgaaGreatDoorW.PrintLast Go.Proofs.YtllikhbafaohgaaGreatDoorW.PrintMore Go.Proofs.YtllikhbafaohgaaGreatDoor.PFnIdxSum
set_option linter.unusedVariables false
set_option linter.unusedSimpArgs false

/-- The padded text under way. -/
structure Pad (w0 w : World) (v : Value) (L : List Int) : Prop where
  row : QRow w w0.heap.size 5 1 v L.length (nums .u8 L)
  below : Below w0.heap.size w0 w
theorem Pad.push {w0 w w1 : World} {v v1 : Value} {L L1 : List Int} (h : Pad w0 w v L) (hg : w.grownBy w1 v.ownBlock) (hr : QRow w1 w0.heap.size 5 1 v1 L1.length (nums .u8 L1)) : Pad w0 w1 v1 L1 :=
  ⟨hr, h.below.grown hg h.below.size (fun k hk => (q_typed h.row k hk).1)⟩
def H5 (w : World) (H : Nat) (s : S5) : Prop := w.heap[H]? = some (.cells #[.int .u32 s.a, .int .u32 s.b, .int .u32 s.c, .int .u32 s.d, .int .u32 s.e] 59 (0, 0))
theorem Keep.alloc {w w1 : World} {F : Nat → Prop} (h : Keep w w1 F) (o : Obj) : Keep w (w1.alloc o) F :=
  h.trans (Keep.of_below (below_alloc (Below.refl _ _) o) F) (fun _ _ hk => hk)
theorem u32_wrap (x : Int) : IntKind.u32.wrap x = x % 4294967296 := by simp [IntKind.wrap, IntKind.bits, IntKind.signed]
theorem cell_set_ne (w : World) (B i q : Nat) (v : Value) (h : q ≠ i) : (w.setCell ⟨B, i, none⟩ v).cell? ⟨B, q, none⟩ = w.cell? ⟨B, q, none⟩ := World.cell?_setCell_other _ _ _ _ (fun e => h (congrArg Addr.off e).symm)
theorem put_calls (x : Int) (w : World) : Calls Tryz.prog 12 #[.int .u32 x] w fun e w' => ∃ (A5 : Addr) (c5 : Nat), e = .returned (.slice (some A5) 4 c5) ∧ (∀ (j : Nat) (u : Value), (nums .u8 (be4 x))[j]? = some u → w'.cell? (A5.add j) = some u) ∧ Below w.heap.size w w' := by
  refine (spec_Put32.calls x (be4 x) w rfl).mono ?_
  rintro e w5 ⟨v5, rfl, hr5, hb5⟩
  have hq := q_of_own (Kd.own_of_R hr5)
  obtain ⟨A5, c5, hv5⟩ := Kd.R_slice hr5
  subst hv5
  obtain ⟨ad, hA, hcell⟩ := q_cells hq (by show 0 < 4; omega)
  subst hA
  exact ⟨ad, c5, rfl, hcell, hb5⟩
theorem cut_row (g o n c j : Nat) (hj : j < n) (hc : n ≤ c) : ∀ W : World, (Instr.slice 24 (.slice (some ⟨g, o, none⟩) n c) (some (.int .i64 (j : Int))) none none).run Tryz.prog W = .ok (.slice (some ⟨g, o + j, none⟩) (n - j) (c - j)) W := by
  obtain ⟨i0, hi, _, hsz, _⟩ := info_parts PFnIdxSum.info5
  intro W
  have := cut_from (P := Tryz.prog) 24 5 .i64 Tryz.underlying24 hi 1 hsz (some ⟨g, o, none⟩) n c (j : Int) (by omega) (by omega) W
  rw [this, Int.toNat_natCast, if_neg (by omega), Nat.mul_one, Option.map_some, add_off]
set_option maxHeartbeats 16000000 in
set_option maxRecDepth 100000 in
theorem sha1_calls {w : World} {A : Option Addr} {n c : Nat} {D : List Int} (hC : Kd.C (Kd.int .u8) w A n D) (hn : D.length = n) (hl : n ≤ 1000000000) :
    Calls Tryz.prog 9 #[.slice A n c] w fun e w' => ∃ v, e = .returned v ∧ QRow w' w.heap.size 5 1 v 20 (nums .u8 (sha1Of D)) ∧ Below w.heap.size w w' := by
  have HO1 := Aside0.mk (empty_R (base := w.heap.size) w (Nat.le_refl _))
  have HB1 : Aside0 (Below w.heap.size w (w.alloc (.cells #[] 5))) := ⟨below_alloc (Below.refl _ _) _⟩
  have HC1 := Aside0.mk (Kd.C_below hC HB1.out)
  have HL : Aside0 ((([] : List Int).length + n) * 1 ≤ 140737488355328) := ⟨by simp; omega⟩
  have HN := Aside0.mk hn
  clear hC hn
  go_enter Tryz.func9, Tryz.ntmps9
  go_wp2_with (at_builtin; refine Aside0.out ?_)
  refine Aside0.mk ?_
  refine Kd.R_append_rows (Kd.int .u8) (w0 := w) w.heap.size rfl (.tmp 22) (.tmp 23) 24 5 (.int .u8 0) 1 rfl Tryz.underlying24 info5 rfl (by decide) (by omega) (.slice (some ⟨w.heap.size, 0, none⟩) 0 0) [] D _ _ _ (fun _ => True) (fun _ => False) rfl rfl ?aO ?aR (fun _ _ h => h) (fun _ h => h.elim) (fun _ _ => trivial) ?aB ?aS ?aL ?_
  case aR => exact HC1.out
  case aO => exact HO1.out
  case aB => exact HB1.out
  case aS => exact HB1.out.size
  case aL => exact HL.out
  rintro v1 w1 hr1 hb1 - -
  obtain ⟨A1, c1, hv1⟩ := Kd.R_slice hr1
  rw [List.nil_append, HN.out] at hv1
  subst hv1
  have HP1 : Aside0 (Pad w w1 (.slice A1 n c1) D) := ⟨⟨by have := q_of_own (Kd.own_of_R hr1); rwa [List.nil_append] at this, hb1⟩⟩
  clear hr1 hb1 HO1 HB1 HC1 HL
  go_wp2_with (at_builtin; refine Aside0.out ?_)
  refine Aside0.mk ?_
  obtain ⟨X, hX⟩ : ∃ X, X = D ++ [128] := ⟨_, rfl⟩
  have HX := Aside0.mk hX
  have hXl : X.length = n + 1 := by rw [hX, List.length_append, HN.out]; rfl
  refine push_byte rfl (.tmp 25) (.tmp 26) w.heap.size rfl (.slice A1 n c1) D 128 rfl rfl HP1.out.row HP1.out.below.size (by rw [HN.out]; omega) ?_
  intro A4 c4 n4 w4 hn4 hr4 hg4
  rw [← hX] at hn4 hr4
  have HE4 : Aside0 (Pad w w4 (.slice A4 n4 c4) X) := ⟨HP1.out.push hg4 (by rw [← hn4]; exact hr4)⟩
  have HN4 := Aside0.mk hn4
  obtain ⟨zp, hzp⟩ : ∃ zp, zp = (120 - X.length % 64) % 64 := ⟨_, rfl⟩
  have HZ := Aside0.mk hzp
  clear hX hn4 hr4 hg4 HP1 hzp
  go_wp2_with fail
  go_loopg [3] zp (fun kq v3 w' => ∃ (z : Nat) (A' : Option Addr) (n' c' : Nat), kq + z = zp ∧ v3 = .slice A' n' c' ∧ n' = X.length + z ∧ Aside0 (Pad w w' (.slice A' n' c') (X ++ List.replicate z 0)))
  case atStart => exact ⟨0, A4, n4, c4, rfl, rfl, HN4.out, ⟨by simpa using HE4.out⟩⟩
  case round =>
    clear HE4 HN4
    obtain ⟨z, A', n', c', hgz, rfl, hn', HE'⟩ := hrel
    have HN' := Aside0.mk hn'
    have hn'l : n' ≤ 1000000065 := by have := HZ.out; omega
    rcases Nat.lt_or_ge z zp with hz | hz
    · have d1 : ((n' : Int) % 64 != 56) = true := by rw [bne_iff_ne]; have := HZ.out; omega
      clear hn'
      go_wp2_with (at_builtin; refine Aside0.out ?_)
      refine Aside0.mk ?_
      refine push_byte rfl (.tmp 32) (.tmp 33) w.heap.size rfl (.slice A' n' c') (X ++ List.replicate z 0) 0 rfl rfl HE'.out.row HE'.out.below.size (by rw [List.length_append, List.length_replicate]; have := HN'.out; omega) ?_
      intro A5 c5 n5 w5 hn5 hr5 hg5
      have hXz : X ++ List.replicate z 0 ++ [0] = X ++ List.replicate (z + 1) (0 : Int) := by rw [List.append_assoc, List.replicate_succ']
      rw [hXz] at hn5 hr5
      have HE5 : Aside0 (Pad w w5 (.slice A5 n5 c5) (X ++ List.replicate (z + 1) 0)) := ⟨HE'.out.push hg5 (by rw [← hn5]; exact hr5)⟩
      have HN5 := Aside0.mk hn5
      clear hn5 hr5 hg5 hXz
      go_wp2_with fail
      go_roundg (gk - 1)
      case measure => omega
      case rel => exact ⟨z + 1, A5, n5, c5, by omega, rfl, by have := HN5.out; rw [List.length_append, List.length_replicate] at this; omega, HE5⟩
    · obtain rfl : z = zp := by omega
      have d1 : ((n' : Int) % 64 != 56) = false := by rw [bne_eq_false_iff_eq]; have := HZ.out; omega
      obtain ⟨Y, hY⟩ : ∃ Y, Y = X ++ List.replicate z 0 := ⟨_, rfl⟩
      have HY := Aside0.mk hY
      rw [← hY] at HE'
      have HYb : Aside0 (Y.length ≤ 1000000065) := ⟨by rw [hY, List.length_append, List.length_replicate]; have := HZ.out; omega⟩
      have HYl : Aside0 (n' = Y.length) := ⟨by rw [hY, List.length_append, List.length_replicate]; exact hn'⟩
      obtain ⟨bits, hbits⟩ : ∃ b : Int, b = (n : Int) * 8 := ⟨_, rfl⟩
      have hb0 : 0 ≤ bits := by omega
      have hb1 : bits ≤ 8000000000 := by omega
      have HBits := Aside0.mk hbits
      clear hn' hY hbits
      go_wp2_with fail
      rw [← HBits.out]
      go_loopg [3, 5] 8 (fun kq v3 v5 w' => ∃ (j : Nat) (A' : Option Addr) (n' c' : Nat), kq + j = 8 ∧ v5 = .int .i64 (56 - 8 * (j : Int)) ∧ v3 = .slice A' n' c' ∧ n' = Y.length + j ∧ Aside0 (Pad w w' (.slice A' n' c') (Y ++ (len8 bits).take j)))
      case atStart => exact ⟨0, A', n', c', rfl, rfl, rfl, HYl.out, ⟨by simpa using HE'.out⟩⟩
      case round =>
        clear HE' HYl hgz HN'
        obtain ⟨j, A', n', c', hgz, rfl, rfl, hn', HE'⟩ := hrel
        have HN' := Aside0.mk hn'
        clear hn'
        obtain rfl | rfl | rfl | rfl | rfl | rfl | rfl | rfl | rfl : j = 0 ∨ j = 1 ∨ j = 2 ∨ j = 3 ∨ j = 4 ∨ j = 5 ∨ j = 6 ∨ j = 7 ∨ j = 8 := by omega
        · go_wp2_with (at_builtin; refine Aside0.out ?_)
          refine Aside0.mk ?_
          refine push_byte rfl (.tmp 43) (.tmp 49) w.heap.size rfl (.slice A' n' c') (Y ++ (len8 bits).take 0) (bits / 72057594037927936) rfl rfl HE'.out.row HE'.out.below.size (by rw [List.length_append, List.length_take]; have := HN'.out; have := HYb.out; omega) ?_
          intro A5 c5 n5 w5 hn5 hr5 hg5
          have hXz : Y ++ (len8 bits).take 0 ++ [bits / 72057594037927936] = Y ++ (len8 bits).take 1 := by rw [List.append_assoc]; rfl
          rw [hXz] at hn5 hr5
          have HE5 : Aside0 (Pad w w5 (.slice A5 n5 c5) (Y ++ (len8 bits).take 1)) := ⟨HE'.out.push hg5 (by rw [← hn5]; exact hr5)⟩
          have HN5 := Aside0.mk hn5
          clear hn5 hr5 hg5 hXz
          go_wp2_with fail
          go_roundg 7
          case measure => omega
          case rel => exact ⟨1, A5, n5, c5, by omega, by first | rfl | go_num, rfl, by rw [HN5.out, List.length_append]; rfl, HE5⟩
        · go_wp2_with (at_builtin; refine Aside0.out ?_)
          refine Aside0.mk ?_
          refine push_byte rfl (.tmp 43) (.tmp 49) w.heap.size rfl (.slice A' n' c') (Y ++ (len8 bits).take 1) (bits / 281474976710656) rfl rfl HE'.out.row HE'.out.below.size (by rw [List.length_append, List.length_take]; have := HN'.out; have := HYb.out; omega) ?_
          intro A5 c5 n5 w5 hn5 hr5 hg5
          have hXz : Y ++ (len8 bits).take 1 ++ [bits / 281474976710656] = Y ++ (len8 bits).take 2 := by rw [List.append_assoc]; rfl
          rw [hXz] at hn5 hr5
          have HE5 : Aside0 (Pad w w5 (.slice A5 n5 c5) (Y ++ (len8 bits).take 2)) := ⟨HE'.out.push hg5 (by rw [← hn5]; exact hr5)⟩
          have HN5 := Aside0.mk hn5
          clear hn5 hr5 hg5 hXz
          go_wp2_with fail
          go_roundg 6
          case measure => omega
          case rel => exact ⟨2, A5, n5, c5, by omega, by first | rfl | go_num, rfl, by rw [HN5.out, List.length_append]; rfl, HE5⟩
        · go_wp2_with (at_builtin; refine Aside0.out ?_)
          refine Aside0.mk ?_
          refine push_byte rfl (.tmp 43) (.tmp 49) w.heap.size rfl (.slice A' n' c') (Y ++ (len8 bits).take 2) (bits / 1099511627776) rfl rfl HE'.out.row HE'.out.below.size (by rw [List.length_append, List.length_take]; have := HN'.out; have := HYb.out; omega) ?_
          intro A5 c5 n5 w5 hn5 hr5 hg5
          have hXz : Y ++ (len8 bits).take 2 ++ [bits / 1099511627776] = Y ++ (len8 bits).take 3 := by rw [List.append_assoc]; rfl
          rw [hXz] at hn5 hr5
          have HE5 : Aside0 (Pad w w5 (.slice A5 n5 c5) (Y ++ (len8 bits).take 3)) := ⟨HE'.out.push hg5 (by rw [← hn5]; exact hr5)⟩
          have HN5 := Aside0.mk hn5
          clear hn5 hr5 hg5 hXz
          go_wp2_with fail
          go_roundg 5
          case measure => omega
          case rel => exact ⟨3, A5, n5, c5, by omega, by first | rfl | go_num, rfl, by rw [HN5.out, List.length_append]; rfl, HE5⟩
        · go_wp2_with (at_builtin; refine Aside0.out ?_)
          refine Aside0.mk ?_
          refine push_byte rfl (.tmp 43) (.tmp 49) w.heap.size rfl (.slice A' n' c') (Y ++ (len8 bits).take 3) (bits / 4294967296) rfl rfl HE'.out.row HE'.out.below.size (by rw [List.length_append, List.length_take]; have := HN'.out; have := HYb.out; omega) ?_
          intro A5 c5 n5 w5 hn5 hr5 hg5
          have hXz : Y ++ (len8 bits).take 3 ++ [bits / 4294967296] = Y ++ (len8 bits).take 4 := by rw [List.append_assoc]; rfl
          rw [hXz] at hn5 hr5
          have HE5 : Aside0 (Pad w w5 (.slice A5 n5 c5) (Y ++ (len8 bits).take 4)) := ⟨HE'.out.push hg5 (by rw [← hn5]; exact hr5)⟩
          have HN5 := Aside0.mk hn5
          clear hn5 hr5 hg5 hXz
          go_wp2_with fail
          go_roundg 4
          case measure => omega
          case rel => exact ⟨4, A5, n5, c5, by omega, by first | rfl | go_num, rfl, by rw [HN5.out, List.length_append]; rfl, HE5⟩
        · go_wp2_with (at_builtin; refine Aside0.out ?_)
          refine Aside0.mk ?_
          refine push_byte rfl (.tmp 43) (.tmp 49) w.heap.size rfl (.slice A' n' c') (Y ++ (len8 bits).take 4) (bits / 16777216 % 256) rfl rfl HE'.out.row HE'.out.below.size (by rw [List.length_append, List.length_take]; have := HN'.out; have := HYb.out; omega) ?_
          intro A5 c5 n5 w5 hn5 hr5 hg5
          have hXz : Y ++ (len8 bits).take 4 ++ [bits / 16777216 % 256] = Y ++ (len8 bits).take 5 := by rw [List.append_assoc]; rfl
          rw [hXz] at hn5 hr5
          have HE5 : Aside0 (Pad w w5 (.slice A5 n5 c5) (Y ++ (len8 bits).take 5)) := ⟨HE'.out.push hg5 (by rw [← hn5]; exact hr5)⟩
          have HN5 := Aside0.mk hn5
          clear hn5 hr5 hg5 hXz
          go_wp2_with fail
          go_roundg 3
          case measure => omega
          case rel => exact ⟨5, A5, n5, c5, by omega, by first | rfl | go_num, rfl, by rw [HN5.out, List.length_append]; rfl, HE5⟩
        · go_wp2_with (at_builtin; refine Aside0.out ?_)
          refine Aside0.mk ?_
          refine push_byte rfl (.tmp 43) (.tmp 49) w.heap.size rfl (.slice A' n' c') (Y ++ (len8 bits).take 5) (bits / 65536 % 256) rfl rfl HE'.out.row HE'.out.below.size (by rw [List.length_append, List.length_take]; have := HN'.out; have := HYb.out; omega) ?_
          intro A5 c5 n5 w5 hn5 hr5 hg5
          have hXz : Y ++ (len8 bits).take 5 ++ [bits / 65536 % 256] = Y ++ (len8 bits).take 6 := by rw [List.append_assoc]; rfl
          rw [hXz] at hn5 hr5
          have HE5 : Aside0 (Pad w w5 (.slice A5 n5 c5) (Y ++ (len8 bits).take 6)) := ⟨HE'.out.push hg5 (by rw [← hn5]; exact hr5)⟩
          have HN5 := Aside0.mk hn5
          clear hn5 hr5 hg5 hXz
          go_wp2_with fail
          go_roundg 2
          case measure => omega
          case rel => exact ⟨6, A5, n5, c5, by omega, by first | rfl | go_num, rfl, by rw [HN5.out, List.length_append]; rfl, HE5⟩
        · go_wp2_with (at_builtin; refine Aside0.out ?_)
          refine Aside0.mk ?_
          refine push_byte rfl (.tmp 43) (.tmp 49) w.heap.size rfl (.slice A' n' c') (Y ++ (len8 bits).take 6) (bits / 256 % 256) rfl rfl HE'.out.row HE'.out.below.size (by rw [List.length_append, List.length_take]; have := HN'.out; have := HYb.out; omega) ?_
          intro A5 c5 n5 w5 hn5 hr5 hg5
          have hXz : Y ++ (len8 bits).take 6 ++ [bits / 256 % 256] = Y ++ (len8 bits).take 7 := by rw [List.append_assoc]; rfl
          rw [hXz] at hn5 hr5
          have HE5 : Aside0 (Pad w w5 (.slice A5 n5 c5) (Y ++ (len8 bits).take 7)) := ⟨HE'.out.push hg5 (by rw [← hn5]; exact hr5)⟩
          have HN5 := Aside0.mk hn5
          clear hn5 hr5 hg5 hXz
          go_wp2_with fail
          go_roundg 1
          case measure => omega
          case rel => exact ⟨7, A5, n5, c5, by omega, by first | rfl | go_num, rfl, by rw [HN5.out, List.length_append]; rfl, HE5⟩
        · go_wp2_with (at_builtin; refine Aside0.out ?_)
          refine Aside0.mk ?_
          refine push_byte rfl (.tmp 43) (.tmp 49) w.heap.size rfl (.slice A' n' c') (Y ++ (len8 bits).take 7) (bits % 256) rfl rfl HE'.out.row HE'.out.below.size (by rw [List.length_append, List.length_take]; have := HN'.out; have := HYb.out; omega) ?_
          intro A5 c5 n5 w5 hn5 hr5 hg5
          have hXz : Y ++ (len8 bits).take 7 ++ [bits % 256] = Y ++ (len8 bits).take 8 := by rw [List.append_assoc]; rfl
          rw [hXz] at hn5 hr5
          have HE5 : Aside0 (Pad w w5 (.slice A5 n5 c5) (Y ++ (len8 bits).take 8)) := ⟨HE'.out.push hg5 (by rw [← hn5]; exact hr5)⟩
          have HN5 := Aside0.mk hn5
          clear hn5 hr5 hg5 hXz
          go_wp2_with fail
          go_roundg 0
          case measure => omega
          case rel => exact ⟨8, A5, n5, c5, by omega, by first | rfl | go_num, rfl, by rw [HN5.out, List.length_append]; rfl, HE5⟩
        · obtain ⟨P, hP⟩ : ∃ P, P = Y ++ len8 bits := ⟨_, rfl⟩
          have HP : Aside0 (P = padOf D D.length) := ⟨by rw [hP, HY.out, HX.out, HBits.out]; unfold padOf; rw [← HX.out, ← HZ.out, HN.out]⟩
          have HE8 : Aside0 (Pad w wr (.slice A' n' c') P) := ⟨by rw [hP]; exact HE'.out⟩
          have HPl : Aside0 (P.length % 64 = 0 ∧ P.length ≤ 1000000100 ∧ n' = P.length ∧ 64 ≤ P.length) := ⟨by
            have h1 := HZ.out
            have h2 := HN'.out
            have h3 : P.length = Y.length + 8 := by rw [hP, List.length_append]; rfl
            have h4 : Y.length = X.length + z := by rw [HY.out, List.length_append, List.length_replicate]
            have h5 := HYb.out
            refine ⟨by omega, by omega, by omega, by omega⟩⟩
          have hrow := HE8.out.row
          rw [← HPl.out.2.2.1] at hrow
          have hpos : 0 < n' := by have := HPl.out.2.2; omega
          obtain ⟨ad, hA, hcell⟩ := q_cells hrow hpos
          subst hA
          obtain ⟨g, o, hgo⟩ : ∃ g o, ad = ⟨g, o, none⟩ := by
            rcases hrow.2 with ⟨h0, _⟩ | ⟨g, o, _, _, e, _⟩
            · omega
            · cases e; exact ⟨g, o * 1, rfl⟩
          subst hgo
          have hnc : n' ≤ c' := by obtain ⟨_, _, e, h⟩ := q_slice hrow; cases e; exact h
          have hgw : g < wr.heap.size := q_lt hrow g rfl
          have hg5 : ∃ cells, wr.heap[g]? = some (.cells cells 5 (0, 0)) := (q_typed hrow g rfl).2
          have HCell : Aside0 (∀ j, j < n' → wr.cell? ⟨g, o + j, none⟩ = some (.int .u8 (P.getD j 0))) := ⟨fun j hj => by
            have hjl : j < P.length := by have := HPl.out.2.2.1; omega
            have := hcell j (.int .u8 P[j]) (by unfold nums; rw [List.getElem?_map, List.getElem?_eq_getElem hjl]; rfl)
            rw [add_off] at this
            rw [this, List.getD_eq_getElem?_getD, List.getElem?_eq_getElem hjl]
            rfl⟩
          have HG := Aside0.mk (⟨hgw, hg5⟩ : g < wr.heap.size ∧ ∃ cells, wr.heap[g]? = some (.cells cells 5 (0, 0)))
          have hn'l : n' ≤ 1000000100 := by have := HPl.out.2; omega
          have HNc := Aside0.mk hnc
          clear hP HE' HN' hrow hcell hgw hg5
          go_wp2_with fail
          obtain ⟨H, hH⟩ : ∃ H, H = wr.heap.size := ⟨_, rfl⟩
          obtain ⟨W1, hW1⟩ : ∃ W1, W1 = wr.alloc (.cells #[.int .u32 1732584193, .int .u32 4023233417, .int .u32 2562383102, .int .u32 271733878, .int .u32 3285377520] 59) := ⟨_, rfl⟩
          rw [← hW1, ← hH]
          have HH1 : Aside0 (H5 W1 H sha0) := ⟨by rw [hW1, hH]; exact heap_alloc_new wr _⟩
          have HB1 : Aside0 (Below wr.heap.size wr W1) := ⟨by rw [hW1]; exact below_alloc (Below.refl _ _) _⟩
          have HC1 : Aside0 (∀ j, j < n' → W1.cell? ⟨g, o + j, none⟩ = some (.int .u8 (P.getD j 0))) := ⟨fun j hj => (HB1.out.cell (World.block_lt_of_cell? wr _ (HCell.out j hj))).trans (HCell.out j hj)⟩
          have HgH : Aside0 (g ≠ H ∧ g < W1.heap.size) := ⟨⟨by have := HG.out.1; omega, Nat.lt_of_lt_of_le HG.out.1 HB1.out.size⟩⟩
          have HBw : Aside0 (Below w.heap.size w W1 ∧ w.heap.size ≤ H) := ⟨⟨HE8.out.below.trans (HB1.out.mono HE8.out.below.size), by rw [hH]; exact HE8.out.below.size⟩⟩
          clear hW1 hH HCell HG HE8 HB1
          obtain ⟨m, hm⟩ : ∃ m, m = P.length / 64 := ⟨_, rfl⟩
          have hmn : n' = 64 * m := by have := HPl.out; omega
          have HM := Aside0.mk (⟨hm, hmn⟩ : m = P.length / 64 ∧ n' = 64 * m)
          clear hm hmn
          go_loopg [7, 8, 9, 10, 11, 12, 13, 14, 15, 16, 17, 18] m (fun kq v7 v8 v9 v10 v11 v12 v13 v14 v15 v16 v17 v18 w' => ∃ (k : Nat), kq + k = m ∧ v7 = .int .i64 ((64 * k : Nat) : Int) ∧ Aside0 (H5 w' H (shaRun k sha0 P)) ∧ Aside0 (Keep W1 w' (fun j => j = H)))
          case atStart => exact ⟨0, by omega, rfl, HH1, ⟨Keep.refl _ _⟩⟩
          case round =>
            clear HH1
            obtain ⟨k, hgk, rfl, HHk, HKk⟩ := hrel
            obtain ⟨wo, hwo⟩ : ∃ wo : World, wo = wr := ⟨_, rfl⟩
            subst hwo
            obtain ⟨a0, ha0⟩ : ∃ a0, a0 = 64 * k := ⟨_, rfl⟩
            rw [← ha0]
            have HA0 := Aside0.mk ha0
            rcases Nat.lt_or_ge k m with hk | hk
            · have hlt : a0 + 64 ≤ n' := by have := HM.out.2; omega
              have d1 : decide (a0 < n') = true := decide_eq_true (by omega)
              have d1' : decide ((a0 : Int) < (n' : Int)) = true := decide_eq_true (by omega)
              obtain ⟨gko, hgko⟩ : ∃ gko, gko = gk := ⟨_, rfl⟩
              rw [← hgko] at hgk
              have HGk := Aside0.mk (⟨hgko, hgk, hk⟩ : gko = gk ∧ gko + k = m ∧ k < m)
              obtain ⟨B, hB⟩ : ∃ B, B = wo.heap.size := ⟨_, rfl⟩
              obtain ⟨W2, hW2⟩ : ∃ W2, W2 = wo.alloc (.cells Tryz.zeroCells60 60) := ⟨_, rfl⟩
              have HW2 := Aside0.mk hW2
              have HBq := Aside0.mk hB
              have HT0 : Aside0 (Tabl W2 B []) := ⟨by
                unfold Tabl
                rw [hW2, hB, heap_alloc_new]
                congr 2⟩
              have HK2 : Aside0 (Keep wo W2 (fun _ => False)) := ⟨by rw [hW2]; exact (Keep.refl wo _).alloc _⟩
              have hBH : B ≠ H := by have := lt_of_block HHk.out; omega
              have hgB : g ≠ B := by have := HgH.out.2; have := HKk.out.size; omega
              have HNe := Aside0.mk (⟨hBH, hgB⟩ : B ≠ H ∧ g ≠ B)
              obtain ⟨p, hp⟩ : ∃ p, p = (P.drop a0).take 64 := ⟨_, rfl⟩
              have HPp := Aside0.mk hp
              have HPc : Aside0 (∀ W, Keep wo W (fun j => j = B) → ∀ j, j < 64 → W.cell? ⟨g, o + (a0 + j), none⟩ = some (.int .u8 (p.getD j 0))) := ⟨fun W hk2 j hj => by
                have h1 := HC1.out (a0 + j) (by omega)
                have h2 := HKk.out.cell h1 (fun e => HgH.out.1 e)
                have h3 := hk2.cell h2 (fun e => hgB e)
                rw [h3, hp]
                congr 2
                rw [List.getD_eq_getElem?_getD, List.getD_eq_getElem?_getD, List.getElem?_take_of_lt hj, List.getElem?_drop]⟩
              clear ha0 hgk hk hgko hB hW2 hBH hgB hp
              go_wp2_with fail
              rw [← HW2.out, ← HBq.out]
              go_loopg [9, 58] 16 (fun kq v9 v58 w' => ∃ (pre : List Int), kq + pre.length = 16 ∧ v58 = .int .i64 pre.length ∧ Aside0 (pre = (List.range pre.length).map (word p)) ∧ Aside0 (Tabl w' B pre) ∧ Aside0 (Keep wo w' (fun j => j = B)))
              case atStart => exact ⟨[], rfl, rfl, ⟨rfl⟩, HT0, ⟨HK2.out.mono (fun _ h => h.elim)⟩⟩
              case round =>
                clear HT0 HK2 HW2
                obtain ⟨pre, hgi, rfl, HPr, HT, HK⟩ := hrel
                obtain ⟨i, hi0⟩ : ∃ i, i = pre.length := ⟨_, rfl⟩
                rw [← hi0] at hgi ⊢
                have HI := Aside0.mk hi0
                rcases Nat.lt_or_ge i 16 with hi | hi
                · obtain ⟨J, hJ⟩ : ∃ J, J = a0 + 4 * i := ⟨_, rfl⟩
                  obtain ⟨x, hx⟩ : ∃ x, x = word4 (p.getD (4 * i) 0) (p.getD (4 * i + 1) 0) (p.getD (4 * i + 2) 0) (p.getD (4 * i + 3) 0) := ⟨_, rfl⟩
                  have HX2 : Aside0 (x = word p i) := ⟨hx⟩
                  have hbig := (big32_calls (w := wr) (g := g) (o := o + J) (n := n' - J) (c := c' - J) (y0 := p.getD (4 * i) 0) (y1 := p.getD (4 * i + 1) 0) (y2 := p.getD (4 * i + 2) 0) (y3 := p.getD (4 * i + 3) 0) (by omega) (by omega)
                    (by rw [hJ]; exact HPc.out wr HK.out _ (by omega)) (by rw [hJ, Nat.add_assoc o, Nat.add_assoc a0]; exact HPc.out wr HK.out _ (by omega)) (by rw [hJ, Nat.add_assoc o, Nat.add_assoc a0]; exact HPc.out wr HK.out _ (by omega)) (by rw [hJ, Nat.add_assoc o, Nat.add_assoc a0]; exact HPc.out wr HK.out _ (by omega)))
                  rw [← hx] at hbig
                  have HBig := Aside0.mk hbig
                  clear hbig hx
                  have hcut : ∀ W : World, (Instr.slice 24 (.slice (some ⟨g, o, none⟩) n' c') (some (.int .i64 ((a0 : Int) + 4 * (i : Int)))) none none).run Tryz.prog W = .ok (.slice (some ⟨g, o + J, none⟩) (n' - J) (c' - J)) W := by
                    have := cut_row g o n' c' J (by omega) HNc.out
                    rwa [show ((J : Nat) : Int) = (a0 : Int) + 4 * (i : Int) by omega] at this
                  have d16 : decide (i < 16) = true := decide_eq_true hi
                  have d16' : decide ((i : Int) < 16) = true := decide_eq_true (by omega)
                  have ai : (0 : Int) ≤ (i : Int) := by omega
                  have bi : (i : Int) < 80 := by omega
                  have HZr : Aside0 (∀ W, Drawn0 wr W → W.cell? ⟨B, i, none⟩ = some (.int .u32 0) ∧ W.frozen? ⟨B, i, none⟩ = false) := ⟨fun W hd => by
                    obtain ⟨m2, rfl⟩ := hd.out
                    exact ⟨by rw [hi0]; exact Tabl.zero (w := wr.drewN m2) HT.out (by omega), frozen_of (w := wr.drewN m2) HT.out i⟩⟩
                  clear hJ hi0
                  go_wp2_with (go_at_call 19; refine HBig.out.mono ?_; rintro e w5 ⟨rfl, hd5⟩; have HD5 := Aside0.mk hd5; have hz := (HZr.out _ hd5).1; have fz := (HZr.out _ hd5).2; clear hd5)
                  obtain ⟨W3, hW3⟩ : ∃ W3, W3 = w5.setCell ⟨B, i, none⟩ (.int .u32 x) := ⟨_, rfl⟩
                  rw [← hW3]
                  have HT1 : Aside0 (Tabl W3 B (pre ++ [x])) := ⟨by rw [hW3, HI.out]; obtain ⟨m2, rfl⟩ := HD5.out.out; exact Tabl.set (w := wr.drewN m2) HT.out (by have := HI.out; omega) x⟩
                  have HK1 : Aside0 (Keep wo W3 (fun j => j = B)) := ⟨by rw [hW3]; obtain ⟨m2, rfl⟩ := HD5.out.out; exact Keep.setCell (F := fun j => j = B) (a := ⟨B, i, none⟩) (HK.out.drewN m2) (.inl rfl) _⟩
                  clear hW3 hz fz
                  go_roundg (gk - 1)
                  case measure => omega
                  case rel => exact ⟨pre ++ [x], by rw [List.length_append, ← HI.out]; simp; omega, by rw [List.length_append, ← HI.out]; go_num, ⟨by rw [List.length_append, List.length_singleton, ← HI.out, List.range_succ, List.map_append, List.map_cons, List.map_nil, ← HX2.out]; exact congrArg (· ++ [x]) (by rw [HI.out]; exact HPr.out)⟩, HT1, HK1⟩
                · obtain rfl : i = 16 := by omega
                  clear hi0
                  go_wp2_with fail
                  go_loopg [10] 64 (fun kq v10 w' => ∃ (pre : List Int), kq + pre.length = 80 ∧ v10 = .int .i64 pre.length ∧ Aside0 (16 ≤ pre.length ∧ pre = wTab p (pre.length - 16)) ∧ Aside0 (Tabl w' B pre) ∧ Aside0 (Keep wo w' (fun j => j = B)))
                  case atStart => exact ⟨pre, by rw [← HI.out], by rw [← HI.out]; go_num, ⟨by rw [← HI.out]; omega, by rw [← HI.out]; have := HPr.out; rw [← HI.out] at this; exact this⟩, HT, HK⟩
                  case round =>
                    clear HPr HT HK HI hgi
                    obtain ⟨pre, hgi, rfl, HPr, HT, HK⟩ := hrel
                    obtain ⟨i, hi0⟩ : ∃ i, i = pre.length := ⟨_, rfl⟩
                    rw [← hi0] at hgi ⊢
                    have HI := Aside0.mk hi0
                    have h16 : 16 ≤ i := by rw [hi0]; exact HPr.out.1
                    rcases Nat.lt_or_ge i 80 with hi | hi
                    · obtain ⟨j3, hj3⟩ : ∃ y, y = i - 3 := ⟨_, rfl⟩
                      obtain ⟨j8, hj8⟩ : ∃ y, y = i - 8 := ⟨_, rfl⟩
                      obtain ⟨j14, hj14⟩ : ∃ y, y = i - 14 := ⟨_, rfl⟩
                      obtain ⟨j16, hj16⟩ : ∃ y, y = i - 16 := ⟨_, rfl⟩
                      obtain ⟨y3, hy3⟩ : ∃ y, y = pre.getD j3 0 := ⟨_, rfl⟩
                      obtain ⟨y8, hy8⟩ : ∃ y, y = pre.getD j8 0 := ⟨_, rfl⟩
                      obtain ⟨y14, hy14⟩ : ∃ y, y = pre.getD j14 0 := ⟨_, rfl⟩
                      obtain ⟨y16, hy16⟩ : ∃ y, y = pre.getD j16 0 := ⟨_, rfl⟩
                      have hc : ∀ j, j < i → wr.cell? ⟨B, j, none⟩ = some (.int .u32 (pre.getD j 0)) := fun j hj => HT.out.get j _ (by
                        rw [List.getD_eq_getElem?_getD, List.getElem?_eq_getElem (by rw [← hi0]; exact hj)]
                        rfl)
                      have hc3 : wr.cell? ⟨B, j3, none⟩ = some (.int .u32 y3) := by rw [hy3]; exact hc j3 (by omega)
                      have hc8 : wr.cell? ⟨B, j8, none⟩ = some (.int .u32 y8) := by rw [hy8]; exact hc j8 (by omega)
                      have hc14 : wr.cell? ⟨B, j14, none⟩ = some (.int .u32 y14) := by rw [hy14]; exact hc j14 (by omega)
                      have hc16 : wr.cell? ⟨B, j16, none⟩ = some (.int .u32 y16) := by rw [hy16]; exact hc j16 (by omega)
                      have HCs : Aside0 (∀ v : Value, (wr.setCell ⟨B, i, none⟩ v).drew.cell? ⟨B, j3, none⟩ = some (.int .u32 y3) ∧ (wr.setCell ⟨B, i, none⟩ v).drew.cell? ⟨B, j8, none⟩ = some (.int .u32 y8) ∧ (wr.setCell ⟨B, i, none⟩ v).drew.cell? ⟨B, j14, none⟩ = some (.int .u32 y14) ∧ (wr.setCell ⟨B, i, none⟩ v).drew.cell? ⟨B, j16, none⟩ = some (.int .u32 y16)) := ⟨fun v => by
                        have g2 : ∀ q, q ≠ i → (wr.setCell ⟨B, i, none⟩ v).drew.cell? ⟨B, q, none⟩ = wr.cell? ⟨B, q, none⟩ := fun q hq => by
                          show (wr.setCell ⟨B, i, none⟩ v).cell? ⟨B, q, none⟩ = _
                          exact cell_set_ne wr B i q v hq
                        rw [g2 _ (by omega), g2 _ (by omega), g2 _ (by omega), g2 _ (by omega)]
                        exact ⟨hc3, hc8, hc14, hc16⟩⟩
                      have HJ := Aside0.mk (⟨hj3, hj8, hj14, hj16, hy3, hy8, hy14, hy16⟩ : j3 = i - 3 ∧ j8 = i - 8 ∧ j14 = i - 14 ∧ j16 = i - 16 ∧ y3 = pre.getD j3 0 ∧ y8 = pre.getD j8 0 ∧ y14 = pre.getD j14 0 ∧ y16 = pre.getD j16 0)
                      have d80 : decide (i < 80) = true := decide_eq_true hi
                      have d80' : decide ((i : Int) < 80) = true := decide_eq_true (by omega)
                      have e3 : IntKind.i64.wrap ((i : Int) - 3) = (j3 : Int) := by rw [IntWalk.i64_in _ (by omega)]; omega
                      have e8 : IntKind.i64.wrap ((i : Int) - 8) = (j8 : Int) := by rw [IntWalk.i64_in _ (by omega)]; omega
                      have e14 : IntKind.i64.wrap ((i : Int) - 14) = (j14 : Int) := by rw [IntWalk.i64_in _ (by omega)]; omega
                      have e16 : IntKind.i64.wrap ((i : Int) - 16) = (j16 : Int) := by rw [IntWalk.i64_in _ (by omega)]; omega
                      have b3 : (j3 : Int) < 80 := by omega
                      have b8 : (j8 : Int) < 80 := by omega
                      have b14 : (j14 : Int) < 80 := by omega
                      have b16 : (j16 : Int) < 80 := by omega
                      have a3 : (0 : Int) ≤ (j3 : Int) := by omega
                      have a8 : (0 : Int) ≤ (j8 : Int) := by omega
                      have a14 : (0 : Int) ≤ (j14 : Int) := by omega
                      have a16 : (0 : Int) ≤ (j16 : Int) := by omega
                      have ai : (0 : Int) ≤ (i : Int) := by omega
                      have bi : (i : Int) < 80 := by omega
                      have hz : wr.cell? ⟨B, i, none⟩ = some (.int .u32 0) := by rw [hi0]; exact HT.out.zero (by omega)
                      have fz : wr.frozen? ⟨B, i, none⟩ = false := frozen_of HT.out i
                      obtain ⟨x, hx⟩ : ∃ x, x = rot1 (xor4 y3 y8 y14 y16) := ⟨_, rfl⟩
                      have HX3 : Aside0 (x = wNext pre) := ⟨by rw [hx, HJ.out.2.2.2.2.1, HJ.out.2.2.2.2.2.1, HJ.out.2.2.2.2.2.2.1, HJ.out.2.2.2.2.2.2.2, HJ.out.2.2.2.1, HJ.out.2.2.1, HJ.out.2.1, HJ.out.1, HI.out]; rfl⟩
                      have ht1 := fun W => turn1_calls (xor4 y3 y8 y14 y16) W
                      rw [← hx] at ht1
                      unfold xor4 at ht1
                      have HTu := Aside0.mk ht1
                      clear hj3 hj8 hj14 hj16 hy3 hy8 hy14 hy16 hc hi0 hx ht1
                      go_wp2_with fail
                      go_region_held3 (fun w' => w'.cell? ⟨B, j3, none⟩ = some (.int .u32 y3) ∧ w'.cell? ⟨B, j8, none⟩ = some (.int .u32 y8) ∧ w'.cell? ⟨B, j14, none⟩ = some (.int .u32 y14) ∧ w'.cell? ⟨B, j16, none⟩ = some (.int .u32 y16)) (first | (exact ⟨hc3, hc8, hc14, hc16⟩) | (exact HCs.out _)) ((go_at_call 20; refine (HTu.out _).mono ?_; rintro e w5 ⟨rfl, rfl⟩))
                      obtain ⟨W3, hW3⟩ : ∃ W3, W3 = (wr.setCell ⟨B, i, none⟩ (.int .u32 x)).drew := ⟨_, rfl⟩
                      rw [← hW3]
                      have HT1 : Aside0 (Tabl W3 B (pre ++ [x])) := ⟨by rw [hW3, HI.out]; exact Tabl.set (w := wr) HT.out (by have := HI.out; omega) x⟩
                      have HK1 : Aside0 (Keep wo W3 (fun j => j = B)) := ⟨by rw [hW3]; exact (Keep.setCell (F := fun j => j = B) (a := ⟨B, i, none⟩) HK.out (.inl rfl) _).drewN 1⟩
                      clear hW3 hc3 hc8 hc14 hc16 hz fz HCs e3 e8 e14 e16
                      go_wp2_with fail
                      go_roundg (gk - 1)
                      case measure => omega
                      case rel => exact ⟨pre ++ [x], by rw [List.length_append, ← HI.out]; simp; omega, by rw [List.length_append, ← HI.out]; go_num, ⟨by rw [List.length_append, ← HI.out]; omega, by
                        rw [List.length_append, List.length_singleton, ← HI.out, HX3.out]
                        have e : i + 1 - 16 = (i - 16) + 1 := by omega
                        have h2 := HPr.out.2
                        rw [← HI.out] at h2
                        rw [e, wTab, ← h2]⟩, HT1, HK1⟩
                    · obtain rfl : i = 80 := by omega
                      have HWs : Aside0 (pre = wTab p 64) := ⟨by have h2 := HPr.out.2; rw [← HI.out] at h2; exact h2⟩
                      obtain ⟨ws, hws⟩ : ∃ ws, ws = pre := ⟨_, rfl⟩
                      rw [← hws] at HWs HT
                      have HWl : Aside0 (ws.length = 80) := ⟨by rw [hws]; exact HI.out.symm⟩
                      obtain ⟨s, hs⟩ : ∃ s, s = shaRun k sha0 P := ⟨_, rfl⟩
                      rw [← hs] at HHk
                      have HSk := Aside0.mk hs
                      clear hi0 h16 hgi HPr hws hs
                      have hb := (HK.out.block H (lt_of_block HHk.out) (fun e => HNe.out.1 e.symm)).trans HHk.out
                      have HbH := Aside0.mk hb
                      have cc0 : wr.cell? ⟨H, 0, none⟩ = some (.int .u32 s.a) := cell_of hb 0 rfl
                      have cc1 : wr.cell? ⟨H, 1, none⟩ = some (.int .u32 s.b) := cell_of hb 1 rfl
                      have cc2 : wr.cell? ⟨H, 2, none⟩ = some (.int .u32 s.c) := cell_of hb 2 rfl
                      have cc3 : wr.cell? ⟨H, 3, none⟩ = some (.int .u32 s.d) := cell_of hb 3 rfl
                      have cc4 : wr.cell? ⟨H, 4, none⟩ = some (.int .u32 s.e) := cell_of hb 4 rfl
                      clear hb
                      go_wp2_with fail
                      go_quiet (fail)
                      go_wp2_with fail
                      have HT2 : Aside0 (Tabl (wr.drewN nq) B ws) := ⟨HT.out⟩
                      have HK2 : Aside0 (Keep wo (wr.drewN nq) (fun j => j = B)) := ⟨HK.out.drewN nq⟩
                      clear cc0 cc1 cc2 cc3 cc4 HT HK HI HbH
                      go_loopg [11, 12, 13, 14, 15, 16, 17, 18, 107] 80 (fun kq v11 v12 v13 v14 v15 v16 v17 v18 v107 w' => ∃ (i : Nat) (a b c2 d e : Int), kq + i = 80 ∧ v11 = .int .u32 a ∧ v12 = .int .u32 b ∧ v13 = .int .u32 c2 ∧ v14 = .int .u32 d ∧ v15 = .int .u32 e ∧ v107 = .int .i64 i ∧ Aside0 ((⟨a, b, c2, d, e⟩ : S5) = rounds ws s i) ∧ Aside0 (Tabl w' B ws) ∧ Aside0 (Keep wo w' (fun j => j = B)))
                      case atStart => exact ⟨0, s.a, s.b, s.c, s.d, s.e, rfl, rfl, rfl, rfl, rfl, rfl, rfl, ⟨rfl⟩, HT2, HK2⟩
                      case round =>
                        clear HT2 HK2
                        obtain ⟨i, a, b, c2, d, e, hgi, rfl, rfl, rfl, rfl, rfl, rfl, HRo, HT, HK⟩ := hrel
                        rcases Nat.lt_or_ge i 80 with hi | hi
                        · obtain ⟨x, hx⟩ : ∃ x, x = ws.getD i 0 := ⟨_, rfl⟩
                          have hcx : wr.cell? ⟨B, i, none⟩ = some (.int .u32 x) := HT.out.get i _ (by
                            rw [hx, List.getD_eq_getElem?_getD, List.getElem?_eq_getElem (by rw [HWl.out]; exact hi)]
                            rfl)
                          have HXi := Aside0.mk hx
                          have HT5 := Aside0.mk (turn5_calls a)
                          have HT30 := Aside0.mk (turn30_calls b)
                          have d80 : decide (i < 80) = true := decide_eq_true hi
                          have d80' : decide ((i : Int) < 80) = true := decide_eq_true (by omega)
                          have ai : (0 : Int) ≤ (i : Int) := by omega
                          have bi : (i : Int) < 80 := by omega
                          clear hx
                          rcases Nat.lt_or_ge i 20 with h20 | h20
                          · have d20 : decide (i < 20) = true := decide_eq_true h20
                            have d20' : decide ((i : Int) < 20) = true := decide_eq_true (by omega)
                            go_wp2_with fail
                            refine wp_region_quiet_lit (by kernel_rfl) (by kernel_rfl) ?_
                            iterate 2 (go_big_quiet_step ((go_at_call 20; refine Calls.quiet_of_same (HT5.out _))))
                            repeat (go_big_quiet_step ((go_at_call 20; refine Calls.quiet_of_same (HT30.out _))))
                            refine wpQuiet_nil ?_
                            intro _ hw'
                            obtain ⟨nq, hw''⟩ := hw'
                            subst hw''
                            go_wp2_with fail
                            go_roundg (gk - 1)
                            case measure => omega
                            case rel => exact ⟨i + 1, _, _, _, _, _, by omega, rfl, rfl, rfl, rfl, rfl, by go_num, ⟨by
                              show _ = rnd (rounds ws _ i) i (ws.getD i 0)
                              rw [← HRo.out, ← HXi.out]
                              unfold rnd
                              rw [if_pos h20]
                              first | rfl | (simp only [rnd1, mix0, mix1, mix2, S5.mk.injEq, and_true, u32_wrap]; omega)⟩, ⟨HT.out⟩, ⟨HK.out.drewN nq⟩⟩
                          · rcases Nat.lt_or_ge i 40 with h40 | h40
                            · have d20 : decide (i < 20) = false := decide_eq_false (by omega)
                              have d20' : decide ((i : Int) < 20) = false := decide_eq_false (by omega)
                              have d40 : decide (i < 40) = true := decide_eq_true h40
                              have d40' : decide ((i : Int) < 40) = true := decide_eq_true (by omega)
                              go_wp2_with fail
                              refine wp_region_quiet_lit (by kernel_rfl) (by kernel_rfl) ?_
                              iterate 2 (go_big_quiet_step ((go_at_call 20; refine Calls.quiet_of_same (HT5.out _))))
                              repeat (go_big_quiet_step ((go_at_call 20; refine Calls.quiet_of_same (HT30.out _))))
                              refine wpQuiet_nil ?_
                              intro _ hw'
                              obtain ⟨nq, hw''⟩ := hw'
                              subst hw''
                              go_wp2_with fail
                              go_roundg (gk - 1)
                              case measure => omega
                              case rel => exact ⟨i + 1, _, _, _, _, _, by omega, rfl, rfl, rfl, rfl, rfl, by go_num, ⟨by
                                show _ = rnd (rounds ws _ i) i (ws.getD i 0)
                                rw [← HRo.out, ← HXi.out]
                                unfold rnd
                                rw [if_neg (by omega), if_pos h40]
                                first | rfl | (simp only [rnd1, mix0, mix1, mix2, S5.mk.injEq, and_true, u32_wrap]; omega)⟩, ⟨HT.out⟩, ⟨HK.out.drewN nq⟩⟩
                            · rcases Nat.lt_or_ge i 60 with h60 | h60
                              · have d20 : decide (i < 20) = false := decide_eq_false (by omega)
                                have d20' : decide ((i : Int) < 20) = false := decide_eq_false (by omega)
                                have d40 : decide (i < 40) = false := decide_eq_false (by omega)
                                have d40' : decide ((i : Int) < 40) = false := decide_eq_false (by omega)
                                have d60 : decide (i < 60) = true := decide_eq_true h60
                                have d60' : decide ((i : Int) < 60) = true := decide_eq_true (by omega)
                                go_wp2_with fail
                                refine wp_region_quiet_lit (by kernel_rfl) (by kernel_rfl) ?_
                                iterate 2 (go_big_quiet_step ((go_at_call 20; refine Calls.quiet_of_same (HT5.out _))))
                                repeat (go_big_quiet_step ((go_at_call 20; refine Calls.quiet_of_same (HT30.out _))))
                                refine wpQuiet_nil ?_
                                intro _ hw'
                                obtain ⟨nq, hw''⟩ := hw'
                                subst hw''
                                go_wp2_with fail
                                go_roundg (gk - 1)
                                case measure => omega
                                case rel => exact ⟨i + 1, _, _, _, _, _, by omega, rfl, rfl, rfl, rfl, rfl, by go_num, ⟨by
                                  show _ = rnd (rounds ws _ i) i (ws.getD i 0)
                                  rw [← HRo.out, ← HXi.out]
                                  unfold rnd
                                  rw [if_neg (by omega), if_neg (by omega), if_pos h60]
                                  first | rfl | (simp only [rnd1, mix0, mix1, mix2, S5.mk.injEq, and_true, u32_wrap]; omega)⟩, ⟨HT.out⟩, ⟨HK.out.drewN nq⟩⟩
                              · have d20 : decide (i < 20) = false := decide_eq_false (by omega)
                                have d20' : decide ((i : Int) < 20) = false := decide_eq_false (by omega)
                                have d40 : decide (i < 40) = false := decide_eq_false (by omega)
                                have d40' : decide ((i : Int) < 40) = false := decide_eq_false (by omega)
                                have d60 : decide (i < 60) = false := decide_eq_false (by omega)
                                have d60' : decide ((i : Int) < 60) = false := decide_eq_false (by omega)
                                go_wp2_with fail
                                refine wp_region_quiet_lit (by kernel_rfl) (by kernel_rfl) ?_
                                iterate 2 (go_big_quiet_step ((go_at_call 20; refine Calls.quiet_of_same (HT5.out _))))
                                repeat (go_big_quiet_step ((go_at_call 20; refine Calls.quiet_of_same (HT30.out _))))
                                refine wpQuiet_nil ?_
                                intro _ hw'
                                obtain ⟨nq, hw''⟩ := hw'
                                subst hw''
                                go_wp2_with fail
                                go_roundg (gk - 1)
                                case measure => omega
                                case rel => exact ⟨i + 1, _, _, _, _, _, by omega, rfl, rfl, rfl, rfl, rfl, by go_num, ⟨by
                                  show _ = rnd (rounds ws _ i) i (ws.getD i 0)
                                  rw [← HRo.out, ← HXi.out]
                                  unfold rnd
                                  rw [if_neg (by omega), if_neg (by omega), if_neg (by omega)]
                                  first | rfl | (simp only [rnd1, mix0, mix1, mix2, S5.mk.injEq, and_true, u32_wrap]; omega)⟩, ⟨HT.out⟩, ⟨HK.out.drewN nq⟩⟩
                        · obtain rfl : i = 80 := by omega
                          have hb := (HK.out.block H (lt_of_block HHk.out) (fun e => HNe.out.1 e.symm)).trans HHk.out
                          have HbH := Aside0.mk hb
                          have cf0 : wr.cell? ⟨H, 0, none⟩ = some (.int .u32 s.a) := cell_of hb 0 rfl
                          have cf1 : wr.cell? ⟨H, 1, none⟩ = some (.int .u32 s.b) := cell_of hb 1 rfl
                          have cf2 : wr.cell? ⟨H, 2, none⟩ = some (.int .u32 s.c) := cell_of hb 2 rfl
                          have cf3 : wr.cell? ⟨H, 3, none⟩ = some (.int .u32 s.d) := cell_of hb 3 rfl
                          have cf4 : wr.cell? ⟨H, 4, none⟩ = some (.int .u32 s.e) := cell_of hb 4 rfl
                          have f0 : wr.frozen? ⟨H, 0, none⟩ = false := frozen_of hb 0
                          have f1 : wr.frozen? ⟨H, 1, none⟩ = false := frozen_of hb 1
                          have f2 : wr.frozen? ⟨H, 2, none⟩ = false := frozen_of hb 2
                          have f3 : wr.frozen? ⟨H, 3, none⟩ = false := frozen_of hb 3
                          have f4 : wr.frozen? ⟨H, 4, none⟩ = false := frozen_of hb 4
                          clear hb
                          go_wp2_with fail
                          obtain ⟨W9, hW9⟩ : ∃ W9, W9 = (((((wr.setCell ⟨H, 0, none⟩ (.int .u32 ((s.a + a) % 4294967296))).setCell ⟨H, 1, none⟩ (.int .u32 ((s.b + b) % 4294967296))).setCell ⟨H, 2, none⟩ (.int .u32 ((s.c + c2) % 4294967296))).setCell ⟨H, 3, none⟩ (.int .u32 ((s.d + d) % 4294967296))).setCell ⟨H, 4, none⟩ (.int .u32 ((s.e + e) % 4294967296))) := ⟨_, rfl⟩
                          rw [← hW9]
                          have HH9 : Aside0 (H5 W9 H (shaRun (k + 1) sha0 P)) := ⟨by
                            rw [hW9, shaRun_succ, ← HSk.out, ← HA0.out, ← HPp.out]
                            have hro := HRo.out
                            rw [HWs.out] at hro
                            have h5 := (set_block (set_block (set_block (set_block (set_block HbH.out 0 (.int .u32 ((s.a + a) % 4294967296))) 1 (.int .u32 ((s.b + b) % 4294967296))) 2 (.int .u32 ((s.c + c2) % 4294967296))) 3 (.int .u32 ((s.d + d) % 4294967296))) 4 (.int .u32 ((s.e + e) % 4294967296)))
                            unfold sha1step
                            rw [← hro]
                            exact h5⟩
                          have HK9 : Aside0 (Keep W1 W9 (fun j => j = H)) := ⟨by
                            rw [hW9]
                            have hk0 : Keep W1 wr (fun j => j = H) := HKk.out.trans HK.out (fun q hq e => by
                              have h1 := HKk.out.size
                              have h2 := HBq.out
                              omega)
                            exact (Keep.setCell (a := ⟨H, 4, none⟩) (Keep.setCell (a := ⟨H, 3, none⟩) (Keep.setCell (a := ⟨H, 2, none⟩) (Keep.setCell (a := ⟨H, 1, none⟩) (Keep.setCell (a := ⟨H, 0, none⟩) hk0 (.inl rfl) _) (.inl rfl) _) (.inl rfl) _) (.inl rfl) _) (.inl rfl) _)⟩
                          clear hW9 cf0 cf1 cf2 cf3 cf4 f0 f1 f2 f3 f4 HbH
                          go_roundg (gko - 1)
                          case measure => have := HGk.out; omega
                          case rel => exact ⟨k + 1, by have := HGk.out; omega, by
                            have h0 := HA0.out
                            rw [show ((64 * (k + 1) : Nat) : Int) = (a0 : Int) + 64 by omega], HH9, HK9⟩
            · have hkm : k = m := by omega
              have d1 : decide (a0 < n') = false := decide_eq_false (by have := HM.out.2; omega)
              have d1' : decide ((a0 : Int) < (n' : Int)) = false := decide_eq_false (by have := HM.out.2; omega)
              obtain ⟨t, ht⟩ : ∃ t, t = shaRun k sha0 P := ⟨_, rfl⟩
              rw [← ht] at HHk
              have HTt : Aside0 (digestOf t = sha1Of D) := ⟨by
                unfold sha1Of
                rw [← HP.out, ← HM.out.1, ← hkm, ht]⟩
              have x0 : wo.cell? ⟨H, 0, none⟩ = some (.int .u32 t.a) := cell_of HHk.out 0 rfl
              have x1 : wo.cell? ⟨H, 1, none⟩ = some (.int .u32 t.b) := cell_of HHk.out 1 rfl
              have x2 : wo.cell? ⟨H, 2, none⟩ = some (.int .u32 t.c) := cell_of HHk.out 2 rfl
              have x3 : wo.cell? ⟨H, 3, none⟩ = some (.int .u32 t.d) := cell_of HHk.out 3 rfl
              have x4 : wo.cell? ⟨H, 4, none⟩ = some (.int .u32 t.e) := cell_of HHk.out 4 rfl
              have ix0 := five_at0 t.a t.b t.c t.d t.e
              have ix1 := five_at1 t.a t.b t.c t.d t.e
              have ix2 := five_at2 t.a t.b t.c t.d t.e
              have ix3 := five_at3 t.a t.b t.c t.d t.e
              have ix4 := five_at4 t.a t.b t.c t.d t.e
              have HBe : Aside0 (Below w.heap.size w wo) := ⟨by
                have hb := HBw.out.1
                have hk := HKk.out
                exact ⟨hk.os.trans hb.os, hk.tape.trans hb.tape, hk.output.trans hb.output, Nat.le_trans hb.size hk.size, fun q hq => (hk.block q (Nat.lt_of_lt_of_le hq hb.size) (by have := HBw.out.2; omega)).trans (hb.block q hq)⟩⟩
              clear ha0 hgk hk hkm ht
              go_wp2_with fail
              go_loopg [19, 21, 192] 5 (fun kq v19 v21 v192 w' => ∃ (j : Nat) (A1 : Option Addr) (n1 c1 : Nat), kq + j = 5 ∧ v192 = .int .i64 j ∧ v19 = .slice A1 n1 c1 ∧ n1 = 4 * j ∧ Aside0 (QRow w' w.heap.size 5 1 (.slice A1 n1 c1) ((digestOf t).take (4 * j)).length (nums .u8 ((digestOf t).take (4 * j)))) ∧ Aside0 (Below w.heap.size w w'))
              case atStart => exact ⟨0, none, 0, 0, rfl, rfl, rfl, rfl, ⟨q_nil _ _⟩, HBe⟩
              case round =>
                clear HBe x0 x1 x2 x3 x4
                obtain ⟨j, A1, n1, c1, hgj, rfl, rfl, hn1, HQ, HB⟩ := hrel
                have HN1 := Aside0.mk hn1
                clear hn1
                obtain rfl | rfl | rfl | rfl | rfl | rfl : j = 0 ∨ j = 1 ∨ j = 2 ∨ j = 3 ∨ j = 4 ∨ j = 5 := by omega
                · have HCl := Aside0.mk (fun W => put_calls t.a W)
                  go_wp2_with (first | (at_builtin; refine Aside0.out ?_) | (go_at_call 12; refine (HCl.out _).mono ?_; rintro e w5 ⟨A5, c5, rfl, hr5, hb5⟩; have HR5 := Aside0.mk hr5; have HB5 := Aside0.mk hb5; clear hr5 hb5))
                  refine Aside0.mk ?_
                  refine append_bytes rfl (.tmp 195) (.tmp 197) w.heap.size rfl (.slice A1 n1 c1) ((digestOf t).take (4 * 0)) (be4 t.a) A5 4 c5 rfl rfl (q_move HQ.out (fun q hq => HB5.out.block q (q_lt HQ.out q hq))) HR5.out rfl (by omega) (Nat.le_trans HB.out.size HB5.out.size) (by rw [List.length_take]; omega) ?_
                  intro v6 w6 hr6 hg6 _
                  have hXz : (digestOf t).take (4 * 0) ++ be4 t.a = (digestOf t).take (4 * 1) := rfl
                  rw [hXz] at hr6
                  obtain ⟨A6, c6, hv6, hl6⟩ := q_slice hr6
                  subst hv6
                  have HQ6 : Aside0 (QRow w6 w.heap.size 5 1 (.slice A6 ((digestOf t).take (4 * 1)).length c6) ((digestOf t).take (4 * 1)).length (nums .u8 ((digestOf t).take (4 * 1)))) := ⟨hr6⟩
                  have HB6 : Aside0 (Below w.heap.size w w6) := ⟨(HB.out.trans (HB5.out.mono HB.out.size)).grown hg6 (Nat.le_trans HB.out.size HB5.out.size) (fun k hk => (q_typed HQ.out k hk).1)⟩
                  clear hr6 hg6 hXz hl6
                  go_wp2_with fail
                  go_roundg 4
                  case measure => omega
                  case rel => exact ⟨1, A6, _, c6, by omega, by first | rfl | go_num, rfl, rfl, HQ6, HB6⟩
                · have HCl := Aside0.mk (fun W => put_calls t.b W)
                  go_wp2_with (first | (at_builtin; refine Aside0.out ?_) | (go_at_call 12; refine (HCl.out _).mono ?_; rintro e w5 ⟨A5, c5, rfl, hr5, hb5⟩; have HR5 := Aside0.mk hr5; have HB5 := Aside0.mk hb5; clear hr5 hb5))
                  refine Aside0.mk ?_
                  refine append_bytes rfl (.tmp 195) (.tmp 197) w.heap.size rfl (.slice A1 n1 c1) ((digestOf t).take (4 * 1)) (be4 t.b) A5 4 c5 rfl rfl (q_move HQ.out (fun q hq => HB5.out.block q (q_lt HQ.out q hq))) HR5.out rfl (by omega) (Nat.le_trans HB.out.size HB5.out.size) (by rw [List.length_take]; omega) ?_
                  intro v6 w6 hr6 hg6 _
                  have hXz : (digestOf t).take (4 * 1) ++ be4 t.b = (digestOf t).take (4 * 2) := rfl
                  rw [hXz] at hr6
                  obtain ⟨A6, c6, hv6, hl6⟩ := q_slice hr6
                  subst hv6
                  have HQ6 : Aside0 (QRow w6 w.heap.size 5 1 (.slice A6 ((digestOf t).take (4 * 2)).length c6) ((digestOf t).take (4 * 2)).length (nums .u8 ((digestOf t).take (4 * 2)))) := ⟨hr6⟩
                  have HB6 : Aside0 (Below w.heap.size w w6) := ⟨(HB.out.trans (HB5.out.mono HB.out.size)).grown hg6 (Nat.le_trans HB.out.size HB5.out.size) (fun k hk => (q_typed HQ.out k hk).1)⟩
                  clear hr6 hg6 hXz hl6
                  go_wp2_with fail
                  go_roundg 3
                  case measure => omega
                  case rel => exact ⟨2, A6, _, c6, by omega, by first | rfl | go_num, rfl, rfl, HQ6, HB6⟩
                · have HCl := Aside0.mk (fun W => put_calls t.c W)
                  go_wp2_with (first | (at_builtin; refine Aside0.out ?_) | (go_at_call 12; refine (HCl.out _).mono ?_; rintro e w5 ⟨A5, c5, rfl, hr5, hb5⟩; have HR5 := Aside0.mk hr5; have HB5 := Aside0.mk hb5; clear hr5 hb5))
                  refine Aside0.mk ?_
                  refine append_bytes rfl (.tmp 195) (.tmp 197) w.heap.size rfl (.slice A1 n1 c1) ((digestOf t).take (4 * 2)) (be4 t.c) A5 4 c5 rfl rfl (q_move HQ.out (fun q hq => HB5.out.block q (q_lt HQ.out q hq))) HR5.out rfl (by omega) (Nat.le_trans HB.out.size HB5.out.size) (by rw [List.length_take]; omega) ?_
                  intro v6 w6 hr6 hg6 _
                  have hXz : (digestOf t).take (4 * 2) ++ be4 t.c = (digestOf t).take (4 * 3) := rfl
                  rw [hXz] at hr6
                  obtain ⟨A6, c6, hv6, hl6⟩ := q_slice hr6
                  subst hv6
                  have HQ6 : Aside0 (QRow w6 w.heap.size 5 1 (.slice A6 ((digestOf t).take (4 * 3)).length c6) ((digestOf t).take (4 * 3)).length (nums .u8 ((digestOf t).take (4 * 3)))) := ⟨hr6⟩
                  have HB6 : Aside0 (Below w.heap.size w w6) := ⟨(HB.out.trans (HB5.out.mono HB.out.size)).grown hg6 (Nat.le_trans HB.out.size HB5.out.size) (fun k hk => (q_typed HQ.out k hk).1)⟩
                  clear hr6 hg6 hXz hl6
                  go_wp2_with fail
                  go_roundg 2
                  case measure => omega
                  case rel => exact ⟨3, A6, _, c6, by omega, by first | rfl | go_num, rfl, rfl, HQ6, HB6⟩
                · have HCl := Aside0.mk (fun W => put_calls t.d W)
                  go_wp2_with (first | (at_builtin; refine Aside0.out ?_) | (go_at_call 12; refine (HCl.out _).mono ?_; rintro e w5 ⟨A5, c5, rfl, hr5, hb5⟩; have HR5 := Aside0.mk hr5; have HB5 := Aside0.mk hb5; clear hr5 hb5))
                  refine Aside0.mk ?_
                  refine append_bytes rfl (.tmp 195) (.tmp 197) w.heap.size rfl (.slice A1 n1 c1) ((digestOf t).take (4 * 3)) (be4 t.d) A5 4 c5 rfl rfl (q_move HQ.out (fun q hq => HB5.out.block q (q_lt HQ.out q hq))) HR5.out rfl (by omega) (Nat.le_trans HB.out.size HB5.out.size) (by rw [List.length_take]; omega) ?_
                  intro v6 w6 hr6 hg6 _
                  have hXz : (digestOf t).take (4 * 3) ++ be4 t.d = (digestOf t).take (4 * 4) := rfl
                  rw [hXz] at hr6
                  obtain ⟨A6, c6, hv6, hl6⟩ := q_slice hr6
                  subst hv6
                  have HQ6 : Aside0 (QRow w6 w.heap.size 5 1 (.slice A6 ((digestOf t).take (4 * 4)).length c6) ((digestOf t).take (4 * 4)).length (nums .u8 ((digestOf t).take (4 * 4)))) := ⟨hr6⟩
                  have HB6 : Aside0 (Below w.heap.size w w6) := ⟨(HB.out.trans (HB5.out.mono HB.out.size)).grown hg6 (Nat.le_trans HB.out.size HB5.out.size) (fun k hk => (q_typed HQ.out k hk).1)⟩
                  clear hr6 hg6 hXz hl6
                  go_wp2_with fail
                  go_roundg 1
                  case measure => omega
                  case rel => exact ⟨4, A6, _, c6, by omega, by first | rfl | go_num, rfl, rfl, HQ6, HB6⟩
                · have HCl := Aside0.mk (fun W => put_calls t.e W)
                  go_wp2_with (first | (at_builtin; refine Aside0.out ?_) | (go_at_call 12; refine (HCl.out _).mono ?_; rintro e w5 ⟨A5, c5, rfl, hr5, hb5⟩; have HR5 := Aside0.mk hr5; have HB5 := Aside0.mk hb5; clear hr5 hb5))
                  refine Aside0.mk ?_
                  refine append_bytes rfl (.tmp 195) (.tmp 197) w.heap.size rfl (.slice A1 n1 c1) ((digestOf t).take (4 * 4)) (be4 t.e) A5 4 c5 rfl rfl (q_move HQ.out (fun q hq => HB5.out.block q (q_lt HQ.out q hq))) HR5.out rfl (by omega) (Nat.le_trans HB.out.size HB5.out.size) (by rw [List.length_take]; omega) ?_
                  intro v6 w6 hr6 hg6 _
                  have hXz : (digestOf t).take (4 * 4) ++ be4 t.e = (digestOf t).take (4 * 5) := rfl
                  rw [hXz] at hr6
                  obtain ⟨A6, c6, hv6, hl6⟩ := q_slice hr6
                  subst hv6
                  have HQ6 : Aside0 (QRow w6 w.heap.size 5 1 (.slice A6 ((digestOf t).take (4 * 5)).length c6) ((digestOf t).take (4 * 5)).length (nums .u8 ((digestOf t).take (4 * 5)))) := ⟨hr6⟩
                  have HB6 : Aside0 (Below w.heap.size w w6) := ⟨(HB.out.trans (HB5.out.mono HB.out.size)).grown hg6 (Nat.le_trans HB.out.size HB5.out.size) (fun k hk => (q_typed HQ.out k hk).1)⟩
                  clear hr6 hg6 hXz hl6
                  go_wp2_with fail
                  go_roundg 0
                  case measure => omega
                  case rel => exact ⟨5, A6, _, c6, by omega, by first | rfl | go_num, rfl, rfl, HQ6, HB6⟩
                · go_wp2_with fail
                  go_ret
                  refine ⟨_, rfl, ?_, HB.out⟩
                  rw [← HTt.out]
                  exact HQ.out
end Go.Proofs.YtllikhbafaohgaaGreatDoor.Idx
