/- spec.FileBytes. -/
import Derived.Test.YtllikhbafaohgaaGreatDoorJF
namespace Go.Proofs.YtllikhbafaohgaaGreatDoor.Idx
open Go.RowKit Go.Proofs.YtllikhbafaohgaaGreatDoorW.PrintWords Go.Proofs.YtllikhbafaohgaaGreatDoorW.PrintLast Go.Proofs.YtllikhbafaohgaaGreatDoorW.PrintMore
set_option linter.unusedVariables false
set_option linter.unusedSimpArgs false

theorem own_low {w : World} {base base' size n : Nat} {e : TypeId} {v : Value} {xs : List Value} (h : w.ownsRow base e size v n xs) (hb : base' ≤ base) : w.ownsRow base' e size v n xs := ⟨h.1, h.2.imp id fun ⟨g, cap, cur, h1, h2, r⟩ => ⟨g, cap, cur, h1, Nat.le_trans hb h2, r⟩⟩
theorem bytesOf_ok (s : ByteArray) : ∀ y ∈ bytesOf s, 0 ≤ y ∧ y < 256 := by
  intro y hy
  obtain ⟨b, _, rfl⟩ := List.mem_map.1 hy
  exact ⟨Int.natCast_nonneg _, by have := b.toNat_lt; omega⟩
theorem be4_len (x : Int) : (be4 x).length = 4 := rfl
theorem be2_ok (x : Int) : ∀ y ∈ be2 x, 0 ≤ y ∧ y < 256 := by
  intro y hy
  unfold be2 at hy
  simp only [List.mem_cons, List.not_mem_nil, or_false] at hy
  rcases hy with rfl | rfl <;> omega
theorem be4_ok' (x : Int) : ∀ y ∈ be4 x, 0 ≤ y ∧ y < 256 := by
  intro y hy
  unfold be4 at hy
  simp only [List.mem_cons, List.not_mem_nil, or_false] at hy
  rcases hy with rfl | rfl | rfl | rfl <;> omega
theorem both_ok {a b : List Int} (ha : ∀ y ∈ a, 0 ≤ y ∧ y < 256) (hb : ∀ y ∈ b, 0 ≤ y ∧ y < 256) : ∀ y ∈ a ++ b, 0 ≤ y ∧ y < 256 := fun y hy => (List.mem_append.1 hy).elim (ha y) (hb y)
theorem box4 {w : World} {B : Nat} {c0 c1 m0 m1 d0 d1 d2 d3 d4 d5 st : Int} {hs nm : ByteArray} {b1 b2 : Bool} (h : w.heap[B]? = some (.cells #[.int .i64 c0, .int .i64 c1, .int .i64 m0, .int .i64 m1, .int .u32 d0, .int .u32 d1, .int .u32 d2, .int .u32 d3, .int .u32 d4, .int .u32 d5, .string hs, .string nm, .int .i64 st, .bool b1, .bool b2] 35 (0, 0))) : w.cell? ⟨B, 0, none⟩ = some (.int .i64 c0) ∧ w.cell? ⟨B, 1, none⟩ = some (.int .i64 c1) ∧ w.cell? ⟨B, 2, none⟩ = some (.int .i64 m0) ∧ w.cell? ⟨B, 3, none⟩ = some (.int .i64 m1) := ⟨cell_of h 0 rfl, cell_of h 1 rfl, cell_of h 2 rfl, cell_of h 3 rfl⟩
set_option maxHeartbeats 32000000 in
set_option maxRecDepth 100000 in
theorem fileBytes_calls {w : World} {c0 c1 m0 m1 d0 d1 d2 d3 d4 d5 st : Int} {hs nm : ByteArray} {b1 b2 : Bool} {U : List Int} {ku : Nat} (hU : PFnIdxSum.spec_Unhex.f ku hs = some U) (h20 : U.length = 20) (hUb : ∀ y ∈ U, 0 ≤ y ∧ y < 256) (hn0 : 0 < nm.size) (hn : nm.size < 4000) (hs0 : 0 ≤ st) (hs3 : st ≤ 3) :
    Calls Tryz.prog 13 #[.agg #[.int .i64 c0, .int .i64 c1, .int .i64 m0, .int .i64 m1, .int .u32 d0, .int .u32 d1, .int .u32 d2, .int .u32 d3, .int .u32 d4, .int .u32 d5, .string hs, .string nm, .int .i64 st, .bool b1, .bool b2]] w fun e w' => ∃ g c L, e = .returned (.slice (some ⟨g, 0, none⟩) L.length c) ∧ OwnB w w' (.slice (some ⟨g, 0, none⟩) L.length c) L ∧ FileB L nm.size := by
  obtain ⟨B, hB⟩ : ∃ B, B = w.heap.size := ⟨_, rfl⟩
  obtain ⟨W1, hW1⟩ : ∃ W1, W1 = w.alloc (.cells #[.int .i64 c0, .int .i64 c1, .int .i64 m0, .int .i64 m1, .int .u32 d0, .int .u32 d1, .int .u32 d2, .int .u32 d3, .int .u32 d4, .int .u32 d5, .string hs, .string nm, .int .i64 st, .bool b1, .bool b2] 35) := ⟨_, rfl⟩
  have hb1 : Below w.heap.size w W1 := by rw [hW1]; exact below_alloc (Below.refl _ _) _
  have hx1 : W1.heap[B]? = some (.cells #[.int .i64 c0, .int .i64 c1, .int .i64 m0, .int .i64 m1, .int .u32 d0, .int .u32 d1, .int .u32 d2, .int .u32 d3, .int .u32 d4, .int .u32 d5, .string hs, .string nm, .int .i64 st, .bool b1, .bool b2] 35 (0, 0)) := by rw [hW1, hB]; exact heap_alloc_new w _
  have HB1 := Aside0.mk hb1
  have HX1 := Aside0.mk hx1
  have HUx := Aside0.mk (⟨hU, h20, hUb⟩ : _ ∧ _ ∧ _)
  have HN := Aside0.mk (⟨hn0, hn, hs0, hs3⟩ : _ ∧ _ ∧ _ ∧ _)
  have HW1 := Aside0.mk hW1
  have HBq := Aside0.mk hB
  have k0 := box4 (w := W1.drew) hx1
  have k0' := box4 hx1
  have HC1 : Aside0 (∀ q, Calls Tryz.prog 22 #[.agg #[.int .i64 c0, .int .i64 c1]] (W1.drewN q) fun e w' => ∃ g c, e = .returned (.slice (some ⟨g, 0, none⟩) 8 c) ∧ OwnB W1 w' (.slice (some ⟨g, 0, none⟩) 8 c) (be4 (c0 % 4294967296) ++ be4 (c1 % 4294967296))) := ⟨fun q => (stamp_own c0 c1 _).mono fun e w' ⟨g, c, h1, h2⟩ => ⟨g, c, h1, h2.row, ⟨h2.below.os, h2.below.tape, h2.below.output, h2.below.size, h2.below.block⟩⟩⟩
  clear hW1 hb1 hx1 hB hU h20 hUb hn0 hn hs0 hs3
  go_enter Tryz.func13, Tryz.ntmps13
  have hu33 := Tryz.underlying33
  go_upto_region 1 with (fail)
  rw [← HW1.out, ← HBq.out]
  go_cut [3] (fun s3 wx => ∃ g c X, s3 = .slice (some ⟨g, 0, none⟩) 16 c ∧ Aside0 (X.length = 16 ∧ ∀ y ∈ X, 0 ≤ y ∧ y < 256) ∧ Aside0 (OwnB W1 wx s3 X))
  case first =>
    go_region_held3 (fun w' => w'.cell? ⟨B, 0, none⟩ = some (.int .i64 c0) ∧ w'.cell? ⟨B, 1, none⟩ = some (.int .i64 c1) ∧ w'.cell? ⟨B, 2, none⟩ = some (.int .i64 m0) ∧ w'.cell? ⟨B, 3, none⟩ = some (.int .i64 m1)) (first | (with_reducible exact k0) | (with_reducible exact k2) | (with_reducible exact k3) | (with_reducible exact k5) | (with_reducible exact k0') | (fail)) ((first | (go_at_call 22; refine (HC1.out _).mono ?_; rintro e w2 ⟨g2, q2, rfl, ho2⟩; have HO2 := Aside0.mk ho2; have k2 := box4 ((ho2.below.block B (lt_of_block HX1.out)).trans HX1.out); have HC2 := Aside0.mk (stamp_own m0 m1 w2); clear ho2 HC1) | (go_at_call 22; refine HC2.out.mono ?_; rintro e w3 ⟨g3, q3, rfl, ho3⟩; have HO3 := Aside0.mk ho3; have HO2' := Aside0.mk (HO2.out.step ho3.below); have k3 := box4 ((HO2'.out.below.block B (lt_of_block HX1.out)).trans HX1.out); clear ho3 HC2 HO2) | (refine append_own_step rfl (.tmp 8) (.tmp 11) rfl (.slice (some ⟨g2, 0, none⟩) 8 q2) (be4 (c0 % 4294967296) ++ be4 (c1 % 4294967296)) (be4 (m0 % 4294967296) ++ be4 (m1 % 4294967296)) ⟨g3, 0, none⟩ 8 q3 rfl rfl HO2'.out (own_start HO3.out rfl) rfl (by decide) (by show 8 + 8 ≤ 1000000000; omega) ?_; intro g5 n5 q5 w5 hn5 ho5 hg5; have hn5 : n5 = 16 := hn5; subst hn5; have k5 := box4 ((ho5.below.block B (lt_of_block HX1.out)).trans HX1.out); have HO5 := Aside0.mk ho5; clear ho5 hg5)))
    clear k0 k0' k2 k3 k5
    go_wp2_with fail
    go_meet
    case rel => exact ⟨g5, q5, _, rfl, ⟨rfl, both_ok (both_ok (be4_ok' _) (be4_ok' _)) (both_ok (be4_ok' _) (be4_ok' _))⟩, HO5⟩
  case rest =>
    obtain ⟨g, c, X, rfl, HX16, HO⟩ := hcut
    have hx := (HO.out.below.block B (lt_of_block HX1.out)).trans HX1.out
    have z4 : wc.cell? ⟨B, 4, none⟩ = some (.int .u32 d0) := cell_of hx 4 rfl; have z5 : wc.cell? ⟨B, 5, none⟩ = some (.int .u32 d1) := cell_of hx 5 rfl; have z6 : wc.cell? ⟨B, 6, none⟩ = some (.int .u32 d2) := cell_of hx 6 rfl; have z7 : wc.cell? ⟨B, 7, none⟩ = some (.int .u32 d3) := cell_of hx 7 rfl; have z8 : wc.cell? ⟨B, 8, none⟩ = some (.int .u32 d4) := cell_of hx 8 rfl; have z9 : wc.cell? ⟨B, 9, none⟩ = some (.int .u32 d5) := cell_of hx 9 rfl
    clear hx k0 k0' HC1
    go_wp2_with fail
    obtain ⟨W2, hW2⟩ : ∃ W2, W2 = wc.alloc (.cells #[.int .u32 d0, .int .u32 d1, .int .u32 d2, .int .u32 d3, .int .u32 d4, .int .u32 d5] 27) := ⟨_, rfl⟩
    obtain ⟨G, hG⟩ : ∃ G, G = wc.heap.size := ⟨_, rfl⟩
    have hg6 : W2.heap[G]? = some (.cells #[.int .u32 d0, .int .u32 d1, .int .u32 d2, .int .u32 d3, .int .u32 d4, .int .u32 d5] 27 (0, 0)) := by rw [hW2, hG]; exact heap_alloc_new wc _
    have ho2 : OwnB W1 W2 (.slice (some ⟨g, 0, none⟩) 16 c) X := HO.out.step (by rw [hW2]; exact below_alloc (Below.refl _ _) _)
    have HG6 := Aside0.mk hg6
    have HO2 := Aside0.mk ho2
    rw [← hW2, ← hG]
    clear hW2 hG hg6 ho2 HO z4 z5 z6 z7 z8 z9
    go_loopg [3, 27] 6 (fun kq v3 v27 w' => ∃ (i g' n' c' : Nat), kq + i = 6 ∧ v27 = .int .i64 i ∧ v3 = .slice (some ⟨g', 0, none⟩) n' c' ∧ Aside0 (∃ X', n' = X'.length ∧ X'.length = 16 + 4 * i ∧ (∀ y ∈ X', 0 ≤ y ∧ y < 256) ∧ OwnB W1 w' (.slice (some ⟨g', 0, none⟩) n' c') X' ∧ w'.heap[G]? = some (.cells #[.int .u32 d0, .int .u32 d1, .int .u32 d2, .int .u32 d3, .int .u32 d4, .int .u32 d5] 27 (0, 0))))
    case atStart => exact ⟨0, g, 16, c, rfl, rfl, rfl, ⟨X, HX16.out.1.symm, HX16.out.1, HX16.out.2, HO2.out, HG6.out⟩⟩
    case round =>
      obtain ⟨i, g', n', c', hgz, rfl, rfl, HE⟩ := hrel
      obtain ⟨X', hn', hl', hy', ho', hg'⟩ := HE.out
      have HI := Aside0.mk (⟨hn', hl', hy'⟩ : _ ∧ _ ∧ _)
      have HO' := Aside0.mk ho'
      have HG' := Aside0.mk hg'
      have HX' : Aside0 (wr.heap[B]? = some (.cells #[.int .i64 c0, .int .i64 c1, .int .i64 m0, .int .i64 m1, .int .u32 d0, .int .u32 d1, .int .u32 d2, .int .u32 d3, .int .u32 d4, .int .u32 d5, .string hs, .string nm, .int .i64 st, .bool b1, .bool b2] 35 (0, 0))) := ⟨(ho'.below.block B (lt_of_block HX1.out)).trans HX1.out⟩
      clear HE hn' hl' hy' ho' HO2 HG6
      rcases Nat.lt_or_ge i 6 with hi | hi
      · obtain ⟨y, hy⟩ : ∃ y, [d0, d1, d2, d3, d4, d5][i]? = some y := ⟨[d0, d1, d2, d3, d4, d5][i], List.getElem?_eq_getElem hi⟩
        have cy : wr.cell? ⟨G, i, none⟩ = some (.int .u32 y) := cell_of hg' i (by
          rw [show (#[.int .u32 d0, .int .u32 d1, .int .u32 d2, .int .u32 d3, .int .u32 d4, .int .u32 d5] : Array Value) = ([d0, d1, d2, d3, d4, d5].map (Value.int .u32)).toArray from rfl, List.getElem?_toArray, List.getElem?_map, hy]; rfl)
        have d6 : decide (i < 6) = true := decide_eq_true hi
        have d6' : decide ((i : Int) < 6) = true := decide_eq_true (by omega)
        have ai : (0 : Int) ≤ (i : Int) := by omega
        have ai' : (i : Int) < 6 := by omega
        have HCp := Aside0.mk (put_own y wr)
        clear hy hg'
        go_wp2_with (first | (at_builtin; refine Aside0.out ?_) | (go_at_call 12; refine HCp.out.mono ?_; rintro e w3 ⟨g3, q3, rfl, ho3⟩; have HO3 := Aside0.mk ho3; clear ho3))
        refine Aside0.mk ?_
        refine append_own rfl (.tmp 31) (.tmp 33) rfl (.slice (some ⟨g', 0, none⟩) n' c') X' (be4 y) ⟨g3, 0, none⟩ 4 q3 rfl rfl (HO'.out.step HO3.out.below) (own_start HO3.out rfl) rfl (by omega) (by have := HI.out.2.1; omega) ?_
        intro g5 n5 c5 w5 hn5 ho5 hg5
        have HG5 : Aside0 (w5.heap[G]? = some (.cells #[.int .u32 d0, .int .u32 d1, .int .u32 d2, .int .u32 d3, .int .u32 d4, .int .u32 d5] 27 (0, 0))) := ⟨(HO'.out.step HO3.out.below).far hg5 ((HO3.out.below.block G (lt_of_block HG'.out)).trans HG'.out) (by decide)⟩
        have HE5 : Aside0 (∃ X', n5 = X'.length ∧ X'.length = 16 + 4 * (i + 1) ∧ (∀ y ∈ X', 0 ≤ y ∧ y < 256) ∧ OwnB W1 w5 (.slice (some ⟨g5, 0, none⟩) n5 c5) X' ∧ w5.heap[G]? = some (.cells #[.int .u32 d0, .int .u32 d1, .int .u32 d2, .int .u32 d3, .int .u32 d4, .int .u32 d5] 27 (0, 0))) := ⟨X' ++ be4 y, hn5, by rw [List.length_append, be4_len, HI.out.2.1]; omega, both_ok HI.out.2.2 (be4_ok' y), ho5, HG5.out⟩
        clear hn5 ho5 hg5 HG5 HO3 HO' HG' HX' cy
        go_wp2_with fail
        go_roundg (gk - 1)
        case measure => omega
        case rel => exact ⟨i + 1, g5, n5, c5, by omega, by go_num, rfl, HE5⟩
      · obtain rfl : i = 6 := by omega
        have d6 : decide (6 < 6) = false := rfl
        have z10 : wr.cell? ⟨B, 10, none⟩ = some (.string hs) := cell_of HX'.out 10 rfl
        have HC7 := Aside0.mk (unhex_own HUx.out.1 HUx.out.2.1 wr)
        clear hg'
        go_wp2_with (first | (at_builtin; refine Aside0.out ?_) | (go_at_call 23; refine HC7.out.mono ?_; rintro e w3 ⟨g3, q3, rfl, ho3⟩; have HO3 := Aside0.mk ho3; clear ho3))
        refine Aside0.mk ?_
        refine append_own rfl (.tmp 36) (.tmp 39) rfl (.slice (some ⟨g', 0, none⟩) n' c') X' U ⟨g3, 0, none⟩ 20 q3 rfl rfl (HO'.out.step HO3.out.below) (own_start HO3.out HUx.out.2.1.symm) HUx.out.2.1 (by omega) (by have := HI.out.2.1; omega) ?_
        intro g5 n5 c5 w5 hn5 ho5 hg5
        obtain ⟨Y, hY⟩ : ∃ Y, Y = X' ++ U := ⟨_, rfl⟩
        rw [← hY] at hn5 ho5
        have HY : Aside0 (Y.length = 60 ∧ ∀ y ∈ Y, 0 ≤ y ∧ y < 256) := ⟨by rw [hY, List.length_append, HI.out.2.1, HUx.out.2.1], by rw [hY]; exact both_ok HI.out.2.2 HUx.out.2.2⟩
        obtain rfl : n5 = 60 := hn5.trans HY.out.1
        have HO5 := Aside0.mk ho5
        have hx5 := (ho5.below.block B (lt_of_block HX1.out)).trans HX1.out
        have HX5 := Aside0.mk hx5
        have z11 : w5.cell? ⟨B, 11, none⟩ = some (.string nm) := cell_of hx5 11 rfl
        have z12 : w5.cell? ⟨B, 12, none⟩ = some (.int .i64 st) := cell_of hx5 12 rfl
        clear hn5 ho5 hg5 hY hx5 HO3 HO' HG' HX' HI z10 HC7 d6
        obtain ⟨fx, hfx⟩ : ∃ fx, fx = Go.bits .or .u32 (st * 4096) (nm.size : Int) := ⟨_, rfl⟩
        have HFx := Aside0.mk hfx
        have HFy : Aside0 (Go.bits .or .u32 (st % 4294967296 * 4096 % 4294967296) (if 4095 < ((nm.size : Nat) : Int) then (4095 : Int) else ((nm.size : Nat) : Int)) = fx) := ⟨by rw [if_neg (by have := HN.out; omega), show st % 4294967296 * 4096 % 4294967296 = st * 4096 by have := HN.out; omega, hfx]⟩
        have HFz : Aside0 (Go.bits .or .u32 (st % 4294967296 * 4096 % 4294967296) ((nm.size : Nat) : Int) = fx) := ⟨by rw [show st % 4294967296 * 4096 % 4294967296 = st * 4096 by have := HN.out; omega, hfx]⟩
        have HC8 := Aside0.mk (put2_own fx w5)
        have hle : ((nm.size : Nat) : Int) ≤ 4095 := by have := HN.out; omega
        have hnl : ¬ (4095 < ((nm.size : Nat) : Int)) := by have := HN.out; omega
        clear hfx
        go_wp2_with (first | (at_builtin; refine Aside0.out ?_) | (go_at_call 24; (first | rw [HFy.out] | rw [HFz.out]); refine HC8.out.mono ?_; rintro e w6 ⟨g6, q6, rfl, ho6⟩; have HO6 := Aside0.mk ho6; clear ho6))
        refine Aside0.mk ?_
        refine append_own rfl (.tmp 41) (.tmp 52) rfl (.slice (some ⟨g5, 0, none⟩) 60 c5) Y (be2 fx) ⟨g6, 0, none⟩ 2 q6 rfl rfl (HO5.out.step HO6.out.below) (own_start HO6.out rfl) rfl (by omega) (by have := HY.out.1; omega) ?_
        intro g7 n7 c7 w7 hn7 ho7 hg7
        obtain rfl : n7 = 62 := hn7.trans (by rw [List.length_append, HY.out.1]; rfl)
        have HO7 := Aside0.mk ho7
        have hx7 := (ho7.below.block B (lt_of_block HX1.out)).trans HX1.out
        have HX7 := Aside0.mk hx7
        have z11' : w7.cell? ⟨B, 11, none⟩ = some (.string nm) := cell_of hx7 11 rfl
        clear hn7 ho7 hg7 hx7 HO6 HO5 HX5 z11 z12 HC8 HFy
        go_wp2_with (at_builtin; refine Aside0.out ?_)
        refine Aside0.mk ?_
        refine append_own_str rfl (.tmp 54) (.tmp 56) rfl (.slice (some ⟨g7, 0, none⟩) 62 c7) (Y ++ be2 fx) nm rfl rfl HO7.out (by rw [List.length_append, HY.out.1]; have := HN.out; show 60 + 2 + nm.size ≤ 1000000000; omega) ?_
        intro v8 w8 ho8 hg8
        obtain ⟨Z, hZ⟩ : ∃ Z, Z = Y ++ be2 fx ++ bytesOf nm := ⟨_, rfl⟩
        rw [← hZ] at ho8
        have HZ : Aside0 (Z = Y ++ be2 fx ++ bytesOf nm ∧ Z.length = 62 + nm.size ∧ ∀ y ∈ Z, 0 ≤ y ∧ y < 256) := ⟨hZ, by rw [hZ, List.length_append, List.length_append, HY.out.1, bytesOf_length]; rfl, by rw [hZ]; exact both_ok (both_ok HY.out.2 (be2_ok _)) (bytesOf_ok _)⟩
        obtain ⟨g8, c8, rfl, _⟩ := ho8.row.form (by have := HZ.out.2.1; omega)
        have HO8 := Aside0.mk ho8
        clear ho8 hg8 hZ HO7 HX7 z11'
        go_wp2_with (at_builtin; refine Aside0.out ?_)
        refine Aside0.mk ?_
        refine append_own_byte rfl (.tmp 57) (.tmp 58) rfl (.slice (some ⟨g8, 0, none⟩) Z.length c8) Z 0 rfl rfl HO8.out (by have := HZ.out.2.1; have := HN.out; omega) ?_
        intro g9 n9 c9 w9 hn9 ho9 _
        obtain ⟨V, hV⟩ : ∃ V, V = Z ++ [(0 : Int)] := ⟨_, rfl⟩
        rw [← hV] at hn9 ho9
        have HV : Aside0 (V = Z ++ [(0 : Int)] ∧ V.length = 63 + nm.size) := ⟨hV, by rw [hV, List.length_append, HZ.out.2.1]; show 62 + nm.size + 1 = _; omega⟩
        have HO9 := Aside0.mk ho9
        obtain ⟨zp, hzp⟩ : ∃ zp, zp = (8 - V.length % 8) % 8 := ⟨_, rfl⟩
        have HZp := Aside0.mk hzp
        have HN9 : Aside0 (n9 = V.length) := ⟨hn9⟩
        clear hn9 ho9 hV HO8 hzp
        go_wp2_with fail
        go_loopg [3] zp (fun kq v3 w' => ∃ (z g' n' c' : Nat), kq + z = zp ∧ v3 = .slice (some ⟨g', 0, none⟩) n' c' ∧ n' = V.length + z ∧ Aside0 (OwnB W1 w' (.slice (some ⟨g', 0, none⟩) n' c') (V ++ List.replicate z 0)))
        case atStart => exact ⟨0, g9, n9, c9, rfl, rfl, HN9.out, ⟨by simpa using HO9.out⟩⟩
        case round =>
          clear HO9 HN9
          obtain ⟨z, g', n', c', hgz, rfl, hn', HE'⟩ := hrel
          have HN' := Aside0.mk hn'
          have hn'l : n' ≤ 100000 := by have := HZp.out; have := HV.out.2; have := HN.out; omega
          rcases Nat.lt_or_ge z zp with hz | hz
          · have d1 : ((n' : Int) % 8 != 0) = true := by rw [bne_iff_ne]; have := HZp.out; omega
            clear hn'
            go_wp2_with (at_builtin; refine Aside0.out ?_)
            refine Aside0.mk ?_
            refine append_own_byte rfl (.tmp 64) (.tmp 65) rfl (.slice (some ⟨g', 0, none⟩) n' c') (V ++ List.replicate z 0) 0 rfl rfl HE'.out (by rw [List.length_append, List.length_replicate]; have := HN'.out; omega) ?_
            intro g5 n5 c5 w5 hn5 ho5 _
            have hXz : V ++ List.replicate z 0 ++ [0] = V ++ List.replicate (z + 1) (0 : Int) := by rw [List.append_assoc, List.replicate_succ']
            rw [hXz] at hn5 ho5
            have HE5 := Aside0.mk ho5
            have HN5 := Aside0.mk hn5
            clear hn5 ho5 hXz
            go_wp2_with fail
            go_roundg (gk - 1)
            case measure => omega
            case rel => exact ⟨z + 1, g5, n5, c5, by omega, rfl, by have := HN5.out; rw [List.length_append, List.length_replicate] at this; omega, HE5⟩
          · obtain rfl : z = zp := by omega
            have d1 : ((n' : Int) % 8 != 0) = false := by rw [bne_eq_false_iff_eq]; have := HZp.out; omega
            clear hn'
            go_wp2_with fail
            go_ret
            have hL : (V ++ List.replicate z (0 : Int)).length = n' := by rw [List.length_append, List.length_replicate, HN'.out]
            have h62 := HZ.out.2.1
            have h63 := HV.out.2
            have hzz := HZp.out
            have hd : ((V ++ List.replicate z (0 : Int)).drop 60).take 2 = be2 fx := by
              have e : V ++ List.replicate z (0 : Int) = Y ++ (be2 fx ++ (bytesOf nm ++ ([0] ++ List.replicate z 0))) := by
                rw [HV.out.1, HZ.out.1]; simp only [List.append_assoc]
              rw [e, show (60 : Nat) = Y.length from HY.out.1.symm, List.drop_left, show (2 : Nat) = (be2 fx).length from rfl, List.take_left]
            refine ⟨g', c', V ++ List.replicate z 0, by rw [hL]; rfl, ⟨by have := own_low HE'.out.row HB1.out.size; rw [hL] at this ⊢; exact this, ?_⟩, HN.out.1, HN.out.2.1, ?_, ?_, ?_, ?_⟩
            · exact HB1.out.trans (HE'.out.below.mono HB1.out.size)
            · rw [hL, HN'.out]; unfold pad; omega
            · rw [hd, HFx.out]; exact (flags_ok HN.out.2.2.1 HN.out.2.2.2 HN.out.2.1).1
            · rw [hd, HFx.out]; exact (flags_ok HN.out.2.2.1 HN.out.2.2.2 HN.out.2.1).2
            · rw [HV.out.1]
              exact both_ok (both_ok HZ.out.2.2 (by decide)) (fun y hy => by rw [(List.mem_replicate.1 hy).2]; omega)
end Go.Proofs.YtllikhbafaohgaaGreatDoor.Idx
