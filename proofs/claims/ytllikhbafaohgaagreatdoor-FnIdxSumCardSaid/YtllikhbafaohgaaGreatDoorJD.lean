/- spec.IndexBytes. -/
import Derived.Test.YtllikhbafaohgaaGreatDoorJC
import Derived.Test.YtllikhbafaohgaaGreatDoorIY
import Derived.Test.YtllikhbafaohgaaGreatDoorJL
import Derived.Lib.SlBytesConst
namespace Go.Proofs.YtllikhbafaohgaaGreatDoor.Idx
open Go.RowKit Go.Proofs.YtllikhbafaohgaaGreatDoorW.PrintWords Go.Proofs.YtllikhbafaohgaaGreatDoorW.PrintLast Go.Proofs.YtllikhbafaohgaaGreatDoorW.PrintMore Go.Proofs.YtllikhbafaohgaaGreatDoor.PFnIdxSum
set_option linter.unusedVariables false
set_option linter.unusedSimpArgs false

theorem flat_len {fl : List (List Int × Nat)} (h : ∀ x ∈ fl, FileB x.1 x.2) : (flat fl).length ≤ 4070 * fl.length := by
  induction fl with
  | nil => exact Nat.le_refl _
  | cons x xs ih =>
    rw [flat_cons, List.length_append, List.length_cons]
    have h1 := (h x (List.mem_cons_self ..))
    have h2 := h1.len
    have h3 := h1.small
    have h4 := ih (fun y hy => h y (List.mem_cons_of_mem _ hy))
    have h5 : pad x.2 ≤ 8 := by unfold pad; omega
    omega
theorem append_grow {ops : Array Oper} {rest : List Oper} {o : Oper} {a : Act} {Q' : Exit → Act → World → Prop} {W w0 : World} (hgd : o.guard = none) (s x : Operand)
    (ho : o.op = .call { callee := .builtin .append, args := #[s, x], argTypes := #[24, 24] }) (b : Addr) (n cap : Nat) (xs ys : List Int) (A : Addr) (m c : Nat) (hs : a.eval s = .slice (some b) n cap) (hx : a.eval x = .slice (some A) m c)
    (hn : xs.length = n) (hX : ∀ (j : Nat) (u : Value), (nums .u8 xs)[j]? = some u → W.cell? (b.add j) = some u) (hC : ∀ (j : Nat) (u : Value), (nums .u8 ys)[j]? = some u → W.cell? (A.add j) = some u) (hm : ys.length = m) (hcap : cap < n + m) (HB : Below w0.heap.size w0 W) (hl : xs.length + m ≤ 1000000000)
    (h : ∀ g n1 c1 w1, n1 = (xs ++ ys).length → OwnB w0 w1 (.slice (some ⟨g, 0, none⟩) n1 c1) (xs ++ ys) → wpList Tryz.prog ops Q' rest (a.put o.dst (.slice (some ⟨g, 0, none⟩) n1 c1)) w1) (hm0 : 0 < m) :
    wpList Tryz.prog ops Q' (o :: rest) a W := by
  obtain ⟨i0, hi, hz0, hz1, hz2⟩ := info_parts PFnIdxSum.info5
  obtain ⟨v1, w1, hr, ho1, hg⟩ := run_append_arg_grows (P := Tryz.prog) (w := W) 24 o.type 5 i0 (.int .u8 0) 1 1 Tryz.underlying24 hi hz0 hz1 hz2 rfl (by decide) b n cap (nums .u8 xs) (by rw [nums_length, hn, Nat.mul_one]) hX A m c (nums .u8 ys) (by rw [nums_length, hm, Nat.mul_one]) hC hcap (by simp only [maxLen]; omega) (by omega)
  obtain ⟨g, c1, rfl, _⟩ := ho1.form (by omega)
  refine wpList_plain hgd fun K hK => ?_
  unfold Oper.wp execOp
  simp only [ho, resolve, invoke, builtin, Sem.run_bind, Sem.run_pure, Result.andThen_ok, List.map_toArray, List.map_cons, List.map_nil, hs, hx, hr]
  refine hK _ _ (h g (n + m) c1 w1 (by rw [List.length_append, hm, hn]) ⟨?_, ?_⟩)
  · have := own_low ho1 HB.size
    rw [List.length_append, hm, hn, nums_append]
    exact this
  · exact HB.trans ⟨hg.os, hg.tape, hg.output, hg.size, fun k hk => hg.block k (Nat.lt_of_lt_of_le hk HB.size) (by simp)⟩
theorem OwnB.C {w0 w : World} {g n c : Nat} {X : List Int} (h : OwnB w0 w (.slice (some ⟨g, 0, none⟩) n c) X) (hn : n = X.length) : Kd.C (Kd.int .u8) w (some ⟨g, 0, none⟩) n X := by
  subst hn
  exact Kd.C_of_reads (own_reads' h.row)
set_option maxHeartbeats 32000000 in
set_option maxRecDepth 100000 in
theorem indexBytes_calls {w : World} {A0 : Option Addr} {n c0 : Nat} {l0 : List S35} (hr0 : Kd.C k35 w A0 n l0) (hl : l0.length = n) (hn : n ≤ 1000) (hF : ∀ x ∈ l0, FOk x) :
    Calls Tryz.prog 6 #[.slice A0 n c0] w fun e w' => ∃ fl g n' c, e = .returned (.slice (some ⟨g, 0, none⟩) n' c) ∧ n' = (indexB fl).length ∧ n' ≤ c ∧ OwnB w w' (.slice (some ⟨g, 0, none⟩) n' c) (indexB fl) ∧ (∀ x ∈ fl, FileB x.1 x.2) ∧ fl.map (·.2) = l0.map (·.f9.size) := by
  have HR0 := Aside0.mk hr0
  have HL := Aside0.mk (⟨hl, hn⟩ : _ ∧ _)
  have HF := Aside0.mk hF
  have HC1 := Aside0.mk (fun W => put_own 2 W)
  have HC2 := Aside0.mk (fun W => put_own (n : Int) W)
  have hnm : (n : Int) % 4294967296 = (n : Int) := by omega
  clear hr0 hl hF
  have kc := Lib.run_convert_bytes_const (P := Tryz.prog) w 24 5 #[.int .u8 68, .int .u8 73, .int .u8 82, .int .u8 67] 4 4 Tryz.underlying24 Tryz.underlying5
  obtain ⟨W1, hW1⟩ : ∃ W1, W1 = w.alloc (.cells #[.int .u8 68, .int .u8 73, .int .u8 82, .int .u8 67] 5 (4, 5)) := ⟨_, rfl⟩
  replace kc : Sem.run Tryz.prog (convert 24 24 (.slice (some ⟨w.heap.size, 0, none⟩) 4 4)) (w.alloc (.cells #[.int .u8 68, .int .u8 73, .int .u8 82, .int .u8 67] 5)) = .ok (.slice (some ⟨w.heap.size, 0, none⟩) 4 4) W1 := by rw [hW1]; exact kc
  have HB1 : Aside0 (Below w.heap.size w W1) := ⟨by rw [hW1]; exact below_alloc (Below.refl _ _) _⟩
  have HX1 : Aside0 (∀ (j : Nat) (u : Value), (nums .u8 [68, 73, 82, 67])[j]? = some u → W1.cell? ((⟨w.heap.size, 0, none⟩ : Addr).add j) = some u) := ⟨fun j u hu => by
    rw [add_off, Nat.zero_add, hW1]
    exact cell_of (heap_alloc_new w _) j (by rw [← hu]; exact (List.getElem?_toArray ..).symm ▸ rfl)⟩
  clear hW1
  go_enter Tryz.func6, Tryz.ntmps6
  go_wp2_with (first | (at_builtin; refine Aside0.out ?_) | (go_at_call 12; refine (HC1.out _).mono ?_; rintro e w2 ⟨g2, q2, rfl, ho2⟩; have HO2 := Aside0.mk ho2; clear ho2))
  refine Aside0.mk ?_
  refine append_grow (w0 := w) rfl (.tmp 7) (.tmp 8) rfl ⟨w.heap.size, 0, none⟩ 4 4 [68, 73, 82, 67] (be4 2) ⟨g2, 0, none⟩ 4 q2 rfl rfl rfl (fun j u hu => ?_) (own_start HO2.out rfl) rfl (by omega) (HB1.out.trans (HO2.out.below.mono HB1.out.size)) (by decide) ?_ (by omega)
  · have := HX1.out j u hu
    exact (HO2.out.below.cell (World.block_lt_of_cell? _ _ this)).trans this
  intro g3 n3 c3 w3 hn3 ho3
  obtain rfl : n3 = 8 := hn3
  have HO3 := Aside0.mk ho3
  clear ho3 HO2 HB1 HX1 kc
  go_wp2_with (first | (at_builtin; refine Aside0.out ?_) | (go_at_call 12; (first | rw [hnm] | skip); refine (HC2.out _).mono ?_; rintro e w4 ⟨g4, q4, rfl, ho4⟩; have HO4 := Aside0.mk ho4; clear ho4))
  refine Aside0.mk ?_
  refine append_own rfl (.tmp 10) (.tmp 14) rfl (.slice (some ⟨g3, 0, none⟩) 8 c3) ([68, 73, 82, 67] ++ be4 2) (be4 n) ⟨g4, 0, none⟩ 4 q4 rfl rfl (HO3.out.step HO4.out.below) (own_start HO4.out rfl) rfl (by omega) (by decide) ?_
  intro g5 n5 c5 w5 hn5 ho5 _
  obtain rfl : n5 = 12 := hn5
  have HO5 : Aside0 (OwnB w w5 (.slice (some ⟨g5, 0, none⟩) 12 c5) (headB n)) := ⟨ho5⟩
  clear ho5 HO4 HO3 HC1 HC2
  go_wp2_with fail
  go_loopg [3, 18] n (fun kq v3 v18 w' => ∃ (i : Nat) (x : Int) (g' n' c' : Nat), kq + i = n ∧ v18 = .int .i64 x ∧ v3 = .slice (some ⟨g', 0, none⟩) n' c' ∧ Aside0 (x = (i : Int)) ∧ Aside0 (∃ fl, fl.length = i ∧ fl.map (·.2) = (l0.take i).map (·.f9.size) ∧ (∀ x ∈ fl, FileB x.1 x.2) ∧ n' = (headB n ++ flat fl).length ∧ OwnB w w' (.slice (some ⟨g', 0, none⟩) n' c') (headB n ++ flat fl)))
  case atStart => exact ⟨0, 0, g5, 12, c5, by omega, rfl, rfl, ⟨rfl⟩, ⟨[], rfl, rfl, (fun x hx => by cases hx), rfl, HO5.out⟩⟩
  case round =>
    clear HO5
    obtain ⟨i, x, g', n', c', hgz, rfl, rfl, HXI, HE⟩ := hrel
    obtain ⟨fl, hfl, hmap, hFB, hn', ho'⟩ := HE.out
    have HM := Aside0.mk (⟨hfl, hmap, hFB, hn'⟩ : _ ∧ _ ∧ _ ∧ _)
    have HO' := Aside0.mk ho'
    clear HE hfl hmap hFB hn' ho'
    rcases Nat.lt_or_ge i n with hi | hi
    · have p1 : 0 ≤ x := by have := HXI.out; omega
      have q1 : x < (n : Int) := by have := HXI.out; omega
      have d1 : decide (x < (n : Int)) = true := decide_eq_true q1
      have d2 : decide (0 ≤ x) = true := decide_eq_true p1
      obtain ⟨ad, e1, hx0, hx1, hx2, hx3, hx4, hx5, hx6, hx7, hx8, hx9, hx10, hx11, hx12, hx13, hx14⟩ := at_T35 HR0.out x p1 q1
      obtain ⟨y, hy⟩ : ∃ y, y = rd_T35 l0 x := ⟨_, rfl⟩
      rw [← hy] at hx0 hx1 hx2 hx3 hx4 hx5 hx6 hx7 hx8 hx9 hx10 hx11 hx12 hx13 hx14
      have hil : i < l0.length := by have := HL.out.1; omega
      have HY : Aside0 (y = l0[i]) := ⟨by rw [hy, HXI.out, rd35 hil]⟩
      have HYm : Aside0 (FOk y) := ⟨by rw [HY.out]; exact HF.out _ (List.getElem_mem hil)⟩
      subst e1
      have hb := HO'.out.below
      replace hx0 := (hb.cell (World.block_lt_of_cell? w _ hx0)).trans hx0
      replace hx1 := (hb.cell (World.block_lt_of_cell? w _ hx1)).trans hx1
      replace hx2 := (hb.cell (World.block_lt_of_cell? w _ hx2)).trans hx2
      replace hx3 := (hb.cell (World.block_lt_of_cell? w _ hx3)).trans hx3
      replace hx4 := (hb.cell (World.block_lt_of_cell? w _ hx4)).trans hx4
      replace hx5 := (hb.cell (World.block_lt_of_cell? w _ hx5)).trans hx5
      replace hx6 := (hb.cell (World.block_lt_of_cell? w _ hx6)).trans hx6
      replace hx7 := (hb.cell (World.block_lt_of_cell? w _ hx7)).trans hx7
      replace hx8 := (hb.cell (World.block_lt_of_cell? w _ hx8)).trans hx8
      replace hx9 := (hb.cell (World.block_lt_of_cell? w _ hx9)).trans hx9
      replace hx10 := (hb.cell (World.block_lt_of_cell? w _ hx10)).trans hx10
      replace hx11 := (hb.cell (World.block_lt_of_cell? w _ hx11)).trans hx11
      replace hx12 := (hb.cell (World.block_lt_of_cell? w _ hx12)).trans hx12
      replace hx13 := (hb.cell (World.block_lt_of_cell? w _ hx13)).trans hx13
      replace hx14 := (hb.cell (World.block_lt_of_cell? w _ hx14)).trans hx14
      clear hb hy
      replace p1 := eq_true p1
      replace q1 := eq_true q1
      go_upto_region 6 with (fail)
      obtain ⟨W2, hW2⟩ : ∃ W2, W2 = wr.alloc (.cells #[.int .i64 y.f0.f0, .int .i64 y.f0.f1, .int .i64 y.f1.f0, .int .i64 y.f1.f1, .int .u32 y.f2, .int .u32 y.f3, .int .u32 y.f4, .int .u32 y.f5, .int .u32 y.f6, .int .u32 y.f7, .string y.f8, .string y.f9, .int .i64 y.f10, .bool y.f11, .bool y.f12] 35) := ⟨_, rfl⟩
      rw [← hW2]
      have hbx : W2.heap[wr.heap.size]? = some (.cells #[.int .i64 y.f0.f0, .int .i64 y.f0.f1, .int .i64 y.f1.f0, .int .i64 y.f1.f1, .int .u32 y.f2, .int .u32 y.f3, .int .u32 y.f4, .int .u32 y.f5, .int .u32 y.f6, .int .u32 y.f7, .string y.f8, .string y.f9, .int .i64 y.f10, .bool y.f11, .bool y.f12] 35 (0, 0)) := by rw [hW2]; exact heap_alloc_new wr _
      have hbw : Below wr.heap.size wr W2 := by rw [hW2]; exact below_alloc (Below.refl _ _) _
      have HO2 := Aside0.mk (HO'.out.step hbw)
      obtain ⟨B, hB⟩ : ∃ B, B = wr.heap.size := ⟨_, rfl⟩
      rw [← hB] at hbx ⊢
      have z0 : W2.cell? ⟨B, 0, none⟩ = some (.int .i64 y.f0.f0) := cell_of hbx 0 rfl; have z1 : W2.cell? ⟨B, 1, none⟩ = some (.int .i64 y.f0.f1) := cell_of hbx 1 rfl; have z2 : W2.cell? ⟨B, 2, none⟩ = some (.int .i64 y.f1.f0) := cell_of hbx 2 rfl; have z3 : W2.cell? ⟨B, 3, none⟩ = some (.int .i64 y.f1.f1) := cell_of hbx 3 rfl; have z4 : W2.cell? ⟨B, 4, none⟩ = some (.int .u32 y.f2) := cell_of hbx 4 rfl; have z5 : W2.cell? ⟨B, 5, none⟩ = some (.int .u32 y.f3) := cell_of hbx 5 rfl; have z6 : W2.cell? ⟨B, 6, none⟩ = some (.int .u32 y.f4) := cell_of hbx 6 rfl; have z7 : W2.cell? ⟨B, 7, none⟩ = some (.int .u32 y.f5) := cell_of hbx 7 rfl; have z8 : W2.cell? ⟨B, 8, none⟩ = some (.int .u32 y.f6) := cell_of hbx 8 rfl; have z9 : W2.cell? ⟨B, 9, none⟩ = some (.int .u32 y.f7) := cell_of hbx 9 rfl; have z10 : W2.cell? ⟨B, 10, none⟩ = some (.string y.f8) := cell_of hbx 10 rfl; have z11 : W2.cell? ⟨B, 11, none⟩ = some (.string y.f9) := cell_of hbx 11 rfl; have z12 : W2.cell? ⟨B, 12, none⟩ = some (.int .i64 y.f10) := cell_of hbx 12 rfl; have z13 : W2.cell? ⟨B, 13, none⟩ = some (.bool y.f11) := cell_of hbx 13 rfl; have z14 : W2.cell? ⟨B, 14, none⟩ = some (.bool y.f12) := cell_of hbx 14 rfl
      have HC3 : Aside0 (Calls Tryz.prog 13 #[.agg #[.int .i64 y.f0.f0, .int .i64 y.f0.f1, .int .i64 y.f1.f0, .int .i64 y.f1.f1, .int .u32 y.f2, .int .u32 y.f3, .int .u32 y.f4, .int .u32 y.f5, .int .u32 y.f6, .int .u32 y.f7, .string y.f8, .string y.f9, .int .i64 y.f10, .bool y.f11, .bool y.f12]] W2 fun e w' => ∃ g c L, e = .returned (.slice (some ⟨g, 0, none⟩) L.length c) ∧ OwnB W2 w' (.slice (some ⟨g, 0, none⟩) L.length c) L ∧ FileB L y.f9.size) := ⟨by
        obtain ⟨ku, U, h1, h2, h3⟩ := unhex_all y.f8 HYm.out.hash
        exact fileBytes_calls h1 h2 h3 HYm.out.name0 HYm.out.name1 HYm.out.st0 HYm.out.st3⟩
      clear hW2 hbx hbw hB HO' hx0 hx1 hx2 hx3 hx4 hx5 hx6 hx7 hx8 hx9 hx10 hx11 hx12 hx13 hx14
      go_wp2_with (first | (at_builtin; refine Aside0.out ?_) | (go_at_call 13; refine HC3.out.mono ?_; rintro e w3 ⟨g3, q3, L, rfl, ho3, hf3⟩; have HO3 := Aside0.mk ho3; have HF3 := Aside0.mk hf3; clear ho3 hf3))
      refine Aside0.mk ?_
      have hlen : (flat fl).length ≤ 4070 * i := by have := flat_len HM.out.2.2.1; rwa [HM.out.1] at this
      have hLl : L.length ≤ 4070 := by
        have h1 := HF3.out.len
        have h2 := HF3.out.small
        have h3 : pad y.f9.size ≤ 8 := by unfold pad; omega
        omega
      refine append_own rfl (.tmp 22) (.tmp 24) rfl (.slice (some ⟨g', 0, none⟩) n' c') (headB n ++ flat fl) L ⟨g3, 0, none⟩ L.length q3 rfl rfl (HO2.out.step HO3.out.below) (own_start HO3.out rfl) rfl (by have := HF3.out.len; omega) (by rw [List.length_append, headB_length]; omega) ?_
      intro g6 n6 c6 w6 hn6 ho6 _
      have HE6 : Aside0 (∃ fl, fl.length = i + 1 ∧ fl.map (·.2) = (l0.take (i + 1)).map (·.f9.size) ∧ (∀ x ∈ fl, FileB x.1 x.2) ∧ n6 = (headB n ++ flat fl).length ∧ OwnB w w6 (.slice (some ⟨g6, 0, none⟩) n6 c6) (headB n ++ flat fl)) := ⟨fl ++ [(L, y.f9.size)], by rw [List.length_append, HM.out.1]; rfl, by
          rw [List.map_append, HM.out.2.1, List.take_add_one, List.getElem?_eq_getElem hil, List.map_append, HY.out]; rfl, fun z hz => (List.mem_append.1 hz).elim (HM.out.2.2.1 z) (fun h => by rw [List.mem_singleton.1 h]; exact HF3.out), by rw [hn6, flat_append, flat_cons, flat_nil, List.append_nil, List.append_assoc], by rw [flat_append, flat_cons, flat_nil, List.append_nil, ← List.append_assoc]; exact ho6⟩
      have HXJ : Aside0 (wrap64 (x + 1) = ((i + 1 : Nat) : Int)) := ⟨by rw [HXI.out, wrap_succ (by omega)]⟩
      clear hn6 ho6 HO3 HO2 hlen z0 z1 z2 z3 z4 z5 z6 z7 z8 z9 z10 z11 z12 z13 z14
      go_wp2_with fail
      go_roundg (gk - 1)
      case measure => omega
      case rel => exact ⟨i + 1, _, g6, n6, c6, by omega, rfl, rfl, HXJ, HE6⟩
    · obtain rfl : i = n := by omega
      have q1 : ¬ (x < (i : Int)) := by have := HXI.out; omega
      have d1 : decide (x < (i : Int)) = false := decide_eq_false q1
      have hlen : (flat fl).length ≤ 4070 * i := by have := flat_len HM.out.2.2.1; rwa [HM.out.1] at this
      obtain ⟨X, hX⟩ : ∃ X, X = headB i ++ flat fl := ⟨_, rfl⟩
      have HX : Aside0 (X = bodyB fl ∧ n' = X.length ∧ X.length ≤ 5000000) := ⟨by rw [hX]; unfold bodyB; rw [HM.out.1], by rw [hX]; exact HM.out.2.2.2, by rw [hX, List.length_append, headB_length]; omega⟩
      rw [← hX] at HO'
      have HC4 := Aside0.mk (sha1_calls (c := c') (HO'.out.C HX.out.2.1) HX.out.2.1.symm (by have := HX.out; omega))
      clear hX hlen
      go_wp2_with (first | (at_builtin; refine Aside0.out ?_) | (go_at_call 9; refine HC4.out.mono ?_; rintro e w3 ⟨v3, rfl, hq3, hb3⟩; have HQ3 := Aside0.mk hq3; have HB3 := Aside0.mk hb3; clear hq3 hb3))
      obtain ⟨A3, q3, hv3, _⟩ := q_slice HQ3.out
      subst hv3
      obtain ⟨ad3, hA3, hcell3⟩ := q_cells HQ3.out (by omega)
      subst hA3
      refine Aside0.mk ?_
      refine append_own rfl (.tmp 27) (.tmp 29) rfl (.slice (some ⟨g', 0, none⟩) n' c') X (sha1Of X) ad3 20 q3 rfl rfl (HO'.out.step HB3.out) hcell3 rfl (by omega) (by have := HX.out; omega) ?_
      intro g6 n6 c6 w6 hn6 ho6 _
      have HO6 := Aside0.mk ho6
      have HN6 := Aside0.mk hn6
      clear hn6 ho6 hcell3 HQ3 HB3
      go_wp2_with fail
      go_ret
      have e6 : X ++ sha1Of X = indexB fl := by rw [HX.out.1]; rfl
      rw [e6] at HO6 HN6
      obtain ⟨A', q', hv', hle'⟩ := q_slice (q_of_own HO6.out.row)
      injection hv' with _ _ hv'
      refine ⟨fl, g6, n6, c6, rfl, HN6.out, by rw [HN6.out, hv']; exact hle', HO6.out, HM.out.2.2.1, ?_⟩
      have := HM.out.2.1
      rwa [List.take_of_length_le (by have := HL.out; omega)] at this
end Go.Proofs.YtllikhbafaohgaaGreatDoor.Idx
