/- spec.AreFiles. -/
import Derived.Test.YtllikhbafaohgaaGreatDoorJL
import Derived.Lib.SlBytesConst
namespace Go.Proofs.YtllikhbafaohgaaGreatDoor.Idx
open Go.RowKit Go.Proofs.YtllikhbafaohgaaGreatDoorW.PrintWords Go.Proofs.YtllikhbafaohgaaGreatDoorW.PrintLast Go.Proofs.YtllikhbafaohgaaGreatDoorW.PrintMore Go.Proofs.YtllikhbafaohgaaGreatDoor.PFnIdxSum
set_option linter.unusedVariables false
set_option linter.unusedSimpArgs false

theorem str_geq (a b : ByteArray) : ∃ gq : Bool, ∀ W : World, Sem.run Tryz.prog (binOp BinOp.geq 9 (.string a) (.string b)) W = .ok (.bool gq) W := by
  refine ⟨?_, fun W => ?_⟩
  rotate_left
  · unfold binOp
    simp [go_sem]
    rfl
theorem box15 {w' : World} {B : Nat} {y : S35} (h : w'.heap[B]? = some (.cells #[.int .i64 y.f0.f0, .int .i64 y.f0.f1, .int .i64 y.f1.f0, .int .i64 y.f1.f1, .int .u32 y.f2, .int .u32 y.f3, .int .u32 y.f4, .int .u32 y.f5, .int .u32 y.f6, .int .u32 y.f7, .string y.f8, .string y.f9, .int .i64 y.f10, .bool y.f11, .bool y.f12] 35 (0, 0))) : w'.cell? ⟨B, 0, none⟩ = some (.int .i64 y.f0.f0) ∧ w'.cell? ⟨B, 1, none⟩ = some (.int .i64 y.f0.f1) ∧ w'.cell? ⟨B, 2, none⟩ = some (.int .i64 y.f1.f0) ∧ w'.cell? ⟨B, 3, none⟩ = some (.int .i64 y.f1.f1) ∧ w'.cell? ⟨B, 4, none⟩ = some (.int .u32 y.f2) ∧ w'.cell? ⟨B, 5, none⟩ = some (.int .u32 y.f3) ∧ w'.cell? ⟨B, 6, none⟩ = some (.int .u32 y.f4) ∧ w'.cell? ⟨B, 7, none⟩ = some (.int .u32 y.f5) ∧ w'.cell? ⟨B, 8, none⟩ = some (.int .u32 y.f6) ∧ w'.cell? ⟨B, 9, none⟩ = some (.int .u32 y.f7) ∧ w'.cell? ⟨B, 10, none⟩ = some (.string y.f8) ∧ w'.cell? ⟨B, 11, none⟩ = some (.string y.f9) ∧ w'.cell? ⟨B, 12, none⟩ = some (.int .i64 y.f10) ∧ w'.cell? ⟨B, 13, none⟩ = some (.bool y.f11) ∧ w'.cell? ⟨B, 14, none⟩ = some (.bool y.f12) := ⟨cell_of h 0 rfl, cell_of h 1 rfl, cell_of h 2 rfl, cell_of h 3 rfl, cell_of h 4 rfl, cell_of h 5 rfl, cell_of h 6 rfl, cell_of h 7 rfl, cell_of h 8 rfl, cell_of h 9 rfl, cell_of h 10 rfl, cell_of h 11 rfl, cell_of h 12 rfl, cell_of h 13 rfl, cell_of h 14 rfl⟩
def areTb : Bool × List (List Nat × List Nat) := (true, [([], []), ([0], [0]), ([1], [1]), ([2, 1], [2]), ([3], [3]), ([4, 3], [3, 4]), ([5, 3, 3], [3, 5]), ([6], [6]), ([6], [6]), ([8, 6], [6, 8]), ([7, 9, 6], [6, 7, 9]), ([10, 6], [6, 10]), ([11, 6], [6, 11]), ([6], [6]), ([13, 6], [6, 13]), ([12, 14, 6], [6, 12, 14]), ([6, 15, 3], [3, 6, 15]), ([3, 16], [3, 16])])
def areBs : List Nat := [0, 1, 3, 7, 15, 31, 63, 127, 127, 383, 1023, 2047, 4095, 127, 8319, 32767, 65535, 131071]
def AreSays (v : Value) (n : Nat) (l0 : List S35) : Prop := ∃ r : Bool, v = .bool r ∧ (r = true → n ≤ 1000 ∧ ∀ x ∈ l0, FOk x)
theorem AreSays.no (n : Nat) (l0 : List S35) : AreSays (.bool false) n l0 := ⟨false, rfl, fun h => by cases h⟩
theorem areT : rtab .any (opsOf Tryz.f5 6) = areTb := by kernel_rfl
theorem areW : waitsOk areTb.2 areBs = true := by kernel_rfl
theorem box16 {w' : World} {B : Nat} {y y2 : S35} {ad : Addr} {ji : Int} (h : w'.heap[B]? = some (.cells #[.int .i64 y.f0.f0, .int .i64 y.f0.f1, .int .i64 y.f1.f0, .int .i64 y.f1.f1, .int .u32 y.f2, .int .u32 y.f3, .int .u32 y.f4, .int .u32 y.f5, .int .u32 y.f6, .int .u32 y.f7, .string y.f8, .string y.f9, .int .i64 y.f10, .bool y.f11, .bool y.f12] 35 (0, 0))) (h2 : w'.cell? ⟨(ad.add (ji.toNat * 15)).block, (ad.add (ji.toNat * 15)).off + 11, none⟩ = some (.string y2.f9)) : w'.cell? ⟨B, 0, none⟩ = some (.int .i64 y.f0.f0) ∧ w'.cell? ⟨B, 1, none⟩ = some (.int .i64 y.f0.f1) ∧ w'.cell? ⟨B, 2, none⟩ = some (.int .i64 y.f1.f0) ∧ w'.cell? ⟨B, 3, none⟩ = some (.int .i64 y.f1.f1) ∧ w'.cell? ⟨B, 4, none⟩ = some (.int .u32 y.f2) ∧ w'.cell? ⟨B, 5, none⟩ = some (.int .u32 y.f3) ∧ w'.cell? ⟨B, 6, none⟩ = some (.int .u32 y.f4) ∧ w'.cell? ⟨B, 7, none⟩ = some (.int .u32 y.f5) ∧ w'.cell? ⟨B, 8, none⟩ = some (.int .u32 y.f6) ∧ w'.cell? ⟨B, 9, none⟩ = some (.int .u32 y.f7) ∧ w'.cell? ⟨B, 10, none⟩ = some (.string y.f8) ∧ w'.cell? ⟨B, 11, none⟩ = some (.string y.f9) ∧ w'.cell? ⟨B, 12, none⟩ = some (.int .i64 y.f10) ∧ w'.cell? ⟨B, 13, none⟩ = some (.bool y.f11) ∧ w'.cell? ⟨B, 14, none⟩ = some (.bool y.f12) ∧ w'.cell? ⟨(ad.add (ji.toNat * 15)).block, (ad.add (ji.toNat * 15)).off + 11, none⟩ = some (.string y2.f9) := ⟨cell_of h 0 rfl, cell_of h 1 rfl, cell_of h 2 rfl, cell_of h 3 rfl, cell_of h 4 rfl, cell_of h 5 rfl, cell_of h 6 rfl, cell_of h 7 rfl, cell_of h 8 rfl, cell_of h 9 rfl, cell_of h 10 rfl, cell_of h 11 rfl, cell_of h 12 rfl, cell_of h 13 rfl, cell_of h 14 rfl, h2⟩
theorem isPlain_calls {y : S35} {q : Bool} (hq : Ev (fun k => spec_IsPlainFile.f k y.f0.f0 y.f0.f1 y.f1.f0 y.f1.f1 y.f2 y.f3 y.f4 y.f5 y.f6 y.f7 y.f8 y.f9 y.f10 y.f11 y.f12) q) (w : World) : Calls Tryz.prog 11 #[.agg #[.int .i64 y.f0.f0, .int .i64 y.f0.f1, .int .i64 y.f1.f0, .int .i64 y.f1.f1, .int .u32 y.f2, .int .u32 y.f3, .int .u32 y.f4, .int .u32 y.f5, .int .u32 y.f6, .int .u32 y.f7, .string y.f8, .string y.f9, .int .i64 y.f10, .bool y.f11, .bool y.f12]] w fun e w' => e = .returned (.bool q) ∧ Below w.heap.size w w' := by
  obtain ⟨k, hk⟩ := hq.rounds
  exact spec_IsPlainFile.calls k _ _ _ _ _ _ _ _ _ _ _ _ _ _ _ q w hk
set_option maxHeartbeats 32000000 in
set_option maxRecDepth 100000 in
theorem areFiles_calls {w : World} {A0 : Option Addr} {n c0 : Nat} {l0 : List S35} (hr0 : Kd.C k35 w A0 n l0) (hl : l0.length = n) (hn31 : n ≤ 2147483647) (hfit : ∀ x ∈ l0, FitF x) :
    Calls Tryz.prog 5 #[.slice A0 n c0] w fun e w' => ∃ v, e = .returned v ∧ Below w.heap.size w w' ∧ AreSays v n l0 := by
  have HR0 := Aside0.mk hr0
  have HL := Aside0.mk hl
  have HF := Aside0.mk hfit
  clear hr0 hl hfit
  by_cases hn : 1000 < n
  · have d0 : decide (1000 < n) = true := decide_eq_true hn
    have d0' : decide (1000 < (n : Int)) = true := decide_eq_true (by omega)
    go_enter Tryz.func5, Tryz.ntmps5
    go_wp2_with fail
    go_ret
    exact ⟨_, rfl, Below.refl _ _, AreSays.no _ _⟩
  have d0 : decide (1000 < n) = false := decide_eq_false hn
  have d0' : decide (1000 < (n : Int)) = false := decide_eq_false (by omega)
  go_enter Tryz.func5, Tryz.ntmps5
  go_wp2_with fail
  go_loopg [10] n (fun kq v10 w' => ∃ (i : Nat) (x : Int), kq + i = n ∧ v10 = .int .i64 x ∧ Aside0 (x = (i : Int)) ∧ Aside0 (Below w.heap.size w w' ∧ ∀ j (hj : j < l0.length), j < i → FOk l0[j]))
  case atStart => exact ⟨0, 0, by omega, rfl, ⟨rfl⟩, ⟨Below.refl _ _, fun j _ hj => by omega⟩⟩
  case round =>
    obtain ⟨i, x, hgz, rfl, HXI, HE⟩ := hrel
    rcases Nat.lt_or_ge i n with hi | hi
    · have p1 : 0 ≤ x := by have := HXI.out; omega
      have q1 : x < (n : Int) := by have := HXI.out; omega
      have d1 : decide (x < (n : Int)) = true := decide_eq_true q1
      have d2 : decide (0 ≤ x) = true := decide_eq_true p1
      obtain ⟨ad, e1, hx0, hx1, hx2, hx3, hx4, hx5, hx6, hx7, hx8, hx9, hx10, hx11, hx12, hx13, hx14⟩ := at_T35 HR0.out x p1 q1
      obtain ⟨y, hy⟩ : ∃ y, y = rd_T35 l0 x := ⟨_, rfl⟩
      rw [← hy] at hx0 hx1 hx2 hx3 hx4 hx5 hx6 hx7 hx8 hx9 hx10 hx11 hx12 hx13 hx14
      have hil : i < l0.length := by have := HL.out; omega
      have HY : Aside0 (y = l0[i]) := ⟨by rw [hy, HXI.out, rd35 hil]⟩
      have HYf : FitF y := by rw [HY.out]; exact HF.out _ (List.getElem_mem hil)
      obtain ⟨q, hq, hqi⟩ := isPlainFile y HYf
      have HQ := Aside0.mk hq
      have HQI := Aside0.mk hqi
      subst e1
      have hb := HE.out.1
      replace hx0 := (hb.cell (World.block_lt_of_cell? w _ hx0)).trans hx0
      replace hx1 := (hb.cell (World.block_lt_of_cell? w _ hx1)).trans hx1
      replace hx2 := (hb.cell (World.block_lt_of_cell? w _ hx2)).trans hx2
      replace hx3 := (hb.cell (World.block_lt_of_cell? w _ hx3)).trans hx3
      replace hx4 := (hb.cell (World.block_lt_of_cell? w _ hx4)).trans hx4
      replace hx5 := (hb.cell (World.block_lt_of_cell? w _ hx5)).trans hx5
      replace hx6 := (hb.cell (World.block_lt_of_cell? w _ hx6)).trans hx6
      replace hx7 := (hb.cell (World.block_lt_of_cell? w _ hx7)).trans hx7
      replace hx8 := (hb.cell (World.block_lt_of_cell? w _ hx8)).trans hx8
      replace hx9 := (hb.cell (World.block_lt_of_cell? w _ hx9)).trans hx9
      replace hx10 := (hb.cell (World.block_lt_of_cell? w _ hx10)).trans hx10
      replace hx11 := (hb.cell (World.block_lt_of_cell? w _ hx11)).trans hx11
      replace hx12 := (hb.cell (World.block_lt_of_cell? w _ hx12)).trans hx12
      replace hx13 := (hb.cell (World.block_lt_of_cell? w _ hx13)).trans hx13
      replace hx14 := (hb.cell (World.block_lt_of_cell? w _ hx14)).trans hx14
      clear hb hy hq hqi HYf
      have P1 := eq_true p1
      have Q1 := eq_true q1
      go_upto_region 6 with (fail)
      obtain ⟨W2, hW2⟩ : ∃ W2, W2 = wr.alloc (.cells #[.int .i64 y.f0.f0, .int .i64 y.f0.f1, .int .i64 y.f1.f0, .int .i64 y.f1.f1, .int .u32 y.f2, .int .u32 y.f3, .int .u32 y.f4, .int .u32 y.f5, .int .u32 y.f6, .int .u32 y.f7, .string y.f8, .string y.f9, .int .i64 y.f10, .bool y.f11, .bool y.f12] 35) := ⟨_, rfl⟩
      rw [← hW2]
      have hbx : W2.heap[wr.heap.size]? = some (.cells #[.int .i64 y.f0.f0, .int .i64 y.f0.f1, .int .i64 y.f1.f0, .int .i64 y.f1.f1, .int .u32 y.f2, .int .u32 y.f3, .int .u32 y.f4, .int .u32 y.f5, .int .u32 y.f6, .int .u32 y.f7, .string y.f8, .string y.f9, .int .i64 y.f10, .bool y.f11, .bool y.f12] 35 (0, 0)) := by rw [hW2]; exact heap_alloc_new wr _
      have hbw : Below wr.heap.size wr W2 := by rw [hW2]; exact below_alloc (Below.refl _ _) _
      have HBw : Aside0 (Below w.heap.size w W2) := ⟨HE.out.1.trans (hbw.mono HE.out.1.size)⟩
      obtain ⟨B, hB⟩ : ∃ B, B = wr.heap.size := ⟨_, rfl⟩
      rw [← hB] at hbx ⊢
      have HBX := Aside0.mk hbx
      have HC11 : Aside0 (Calls Tryz.prog 11 #[.agg #[.int .i64 y.f0.f0, .int .i64 y.f0.f1, .int .i64 y.f1.f0, .int .i64 y.f1.f1, .int .u32 y.f2, .int .u32 y.f3, .int .u32 y.f4, .int .u32 y.f5, .int .u32 y.f6, .int .u32 y.f7, .string y.f8, .string y.f9, .int .i64 y.f10, .bool y.f11, .bool y.f12]] W2.drew fun e w' => e = .returned (.bool q) ∧ Below W2.heap.size W2 w') := ⟨(isPlain_calls HQ.out _).mono fun e w' ⟨h1, h2⟩ => ⟨h1, ⟨h2.os, h2.tape, h2.output, h2.size, h2.block⟩⟩⟩
      have HFs := Aside0.mk HE.out.2
      clear hW2 hbw hB HE
      cases q with
      | false =>
        have k0 := box15 (w' := W2.drew) hbx
        clear hbx
        refine start_ (n := 18) (S := fun w' => w'.cell? ⟨B, 0, none⟩ = some (.int .i64 y.f0.f0) ∧ w'.cell? ⟨B, 1, none⟩ = some (.int .i64 y.f0.f1) ∧ w'.cell? ⟨B, 2, none⟩ = some (.int .i64 y.f1.f0) ∧ w'.cell? ⟨B, 3, none⟩ = some (.int .i64 y.f1.f1) ∧ w'.cell? ⟨B, 4, none⟩ = some (.int .u32 y.f2) ∧ w'.cell? ⟨B, 5, none⟩ = some (.int .u32 y.f3) ∧ w'.cell? ⟨B, 6, none⟩ = some (.int .u32 y.f4) ∧ w'.cell? ⟨B, 7, none⟩ = some (.int .u32 y.f5) ∧ w'.cell? ⟨B, 8, none⟩ = some (.int .u32 y.f6) ∧ w'.cell? ⟨B, 9, none⟩ = some (.int .u32 y.f7) ∧ w'.cell? ⟨B, 10, none⟩ = some (.string y.f8) ∧ w'.cell? ⟨B, 11, none⟩ = some (.string y.f9) ∧ w'.cell? ⟨B, 12, none⟩ = some (.int .i64 y.f10) ∧ w'.cell? ⟨B, 13, none⟩ = some (.bool y.f11) ∧ w'.cell? ⟨B, 14, none⟩ = some (.bool y.f12)) (ds := []) #[false, false, false, false, false, false, false, false, false, false, false, false, false, false, false, false, false, false] (by kernel_rfl) rfl rfl k0 (fun hHeld => ?_); refine with_tabW areT areW (fun HT_ HW_ => ?_)
        generalize W2.drew = w6 at HC11 hHeld ⊢
        refine take_ (i := 0) (N := some 15) (v := ?_) (a' := ?_) #[true, false, false, false, false, false, false, false, false, false, false, false, false, false, false, false, false, false] rfl rfl (take_ofW HT_.out HW_.out (by kernel_rfl)) (fun _ _ _ h => h) (Or.inl ⟨by rfl, ?_⟩) hHeld ?_ ?_
        rotate_left
        · rintro w' ⟨s0, s1, s2, s3, s4, s5, s6, s7, s8, s9, s10, s11, s12, s13, s14⟩
          go_simp
          with_reducible rfl
        rotate_left
        · simp only [Act.put, List.setIfInBounds_toArray, List.set_cons_zero, List.set_cons_succ, i64_w, i32_w]
          rfl
        refine one_ (i := 1) (N := some 16) #[true, true, false, false, false, false, false, false, false, false, false, false, false, false, false, false, false, false] rfl rfl (one_of HT_.out (by kernel_rfl)) (by decide) (fun K hK => ?_)
        refine goes_ Tryz.func11 (by kernel_rfl) rfl #[.agg #[.int .i64 y.f0.f0, .int .i64 y.f0.f1, .int .i64 y.f1.f0, .int .i64 y.f1.f1, .int .u32 y.f2, .int .u32 y.f3, .int .u32 y.f4, .int .u32 y.f5, .int .u32 y.f6, .int .u32 y.f7, .string y.f8, .string y.f9, .int .i64 y.f10, .bool y.f11, .bool y.f12]] (by rfl) rfl rfl (by (try simp only [List.map_toArray, List.map_cons, List.map_nil]); first | done | rfl) ?_
        refine HC11.out.mono ?_
        rintro e w7 ⟨rfl, hb7⟩
        refine ⟨_, rfl, ?_⟩
        have HB7 := Aside0.mk hb7
        have k7 := box15 ((hb7.block B (lt_of_block HBX.out)).trans HBX.out)
        clear hb7 k0
        refine hK.out _ _ k7 (fun hHeld => ?_)
        clear hK K k7
        refine norm_ (a' := ?_) ?_ ?_
        rotate_left
        · show Act.put _ (some 16) _ = _
          simp only [Act.put, List.setIfInBounds_toArray, List.set_cons_zero, List.set_cons_succ, i64_w, i32_w]
          rfl
        refine pure_ (i := 2) (N := some 17) (v := ?_) (a' := ?_) #[true, true, true, false, false, false, false, false, false, false, false, false, false, false, false, false, false, false] rfl rfl (any_of HT_.out (by kernel_rfl)) (fun _ _ _ h => h) (Or.inl ⟨by rfl, ?_⟩) ?_ ?_
        rotate_left
        · intro w'
          go_simp
          with_reducible rfl
        rotate_left
        · simp only [Act.put, List.setIfInBounds_toArray, List.set_cons_zero, List.set_cons_succ, i64_w, i32_w]
          rfl
        refine pure_ (i := 3) (N := some 18) (v := ?_) (a' := ?_) #[true, true, true, true, false, false, false, false, false, false, false, false, false, false, false, false, false, false] rfl rfl (any_of HT_.out (by kernel_rfl)) (fun _ _ _ h => h) (Or.inl ⟨by rfl, ?_⟩) ?_ ?_
        rotate_left
        · intro w'
          go_simp
          with_reducible rfl
        rotate_left
        · simp only [Act.put, List.setIfInBounds_toArray, List.set_cons_zero, List.set_cons_succ, i64_w, i32_w]
          rfl
        refine pure_ (i := 4) (N := some 19) (v := undef) (a' := ?_) #[true, true, true, true, true, false, false, false, false, false, false, false, false, false, false, false, false, false] rfl rfl (any_of HT_.out (by kernel_rfl)) (fun _ _ _ h => h) (Or.inr ⟨by rfl, rfl⟩) ?_ ?_
        rotate_left
        · simp only [Act.put, List.setIfInBounds_toArray, List.set_cons_zero, List.set_cons_succ, i64_w, i32_w]
          rfl
        refine pure_ (i := 5) (N := some 20) (v := undef) (a' := ?_) #[true, true, true, true, true, true, false, false, false, false, false, false, false, false, false, false, false, false] rfl rfl (any_of HT_.out (by kernel_rfl)) (fun _ _ _ h => h) (Or.inr ⟨by rfl, rfl⟩) ?_ ?_
        rotate_left
        · simp only [Act.put, List.setIfInBounds_toArray, List.set_cons_zero, List.set_cons_succ, i64_w, i32_w]
          rfl
        refine pure_ (i := 6) (N := some 21) (v := undef) (a' := ?_) #[true, true, true, true, true, true, true, false, false, false, false, false, false, false, false, false, false, false] rfl rfl (any_of HT_.out (by kernel_rfl)) (fun _ _ _ h => h) (Or.inr ⟨by rfl, rfl⟩) ?_ ?_
        rotate_left
        · simp only [Act.put, List.setIfInBounds_toArray, List.set_cons_zero, List.set_cons_succ, i64_w, i32_w]
          rfl
        refine pure_ (i := 7) (N := some 22) (v := undef) (a' := ?_) #[true, true, true, true, true, true, true, true, false, false, false, false, false, false, false, false, false, false] rfl rfl (any_of HT_.out (by kernel_rfl)) (fun _ _ _ h => h) (Or.inr ⟨by rfl, rfl⟩) ?_ ?_
        rotate_left
        · simp only [Act.put, List.setIfInBounds_toArray, List.set_cons_zero, List.set_cons_succ, i64_w, i32_w]
          rfl
        refine pure_ (i := 8) (N := some 23) (v := undef) (a' := ?_) #[true, true, true, true, true, true, true, true, true, false, false, false, false, false, false, false, false, false] rfl rfl (any_of HT_.out (by kernel_rfl)) (fun _ _ _ h => h) (Or.inr ⟨by rfl, rfl⟩) ?_ ?_
        rotate_left
        · simp only [Act.put, List.setIfInBounds_toArray, List.set_cons_zero, List.set_cons_succ, i64_w, i32_w]
          rfl
        refine pure_ (i := 9) (N := some 24) (v := undef) (a' := ?_) #[true, true, true, true, true, true, true, true, true, true, false, false, false, false, false, false, false, false] rfl rfl (any_of HT_.out (by kernel_rfl)) (fun _ _ _ h => h) (Or.inr ⟨by rfl, rfl⟩) ?_ ?_
        rotate_left
        · simp only [Act.put, List.setIfInBounds_toArray, List.set_cons_zero, List.set_cons_succ, i64_w, i32_w]
          rfl
        refine pure_ (i := 10) (N := some 25) (v := undef) (a' := ?_) #[true, true, true, true, true, true, true, true, true, true, true, false, false, false, false, false, false, false] rfl rfl (any_of HT_.out (by kernel_rfl)) (fun _ _ _ h => h) (Or.inr ⟨by rfl, rfl⟩) ?_ ?_
        rotate_left
        · simp only [Act.put, List.setIfInBounds_toArray, List.set_cons_zero, List.set_cons_succ, i64_w, i32_w]
          rfl
        refine pure_ (i := 11) (N := some 26) (v := undef) (a' := ?_) #[true, true, true, true, true, true, true, true, true, true, true, true, false, false, false, false, false, false] rfl rfl (any_of HT_.out (by kernel_rfl)) (fun _ _ _ h => h) (Or.inr ⟨by rfl, rfl⟩) ?_ ?_
        rotate_left
        · simp only [Act.put, List.setIfInBounds_toArray, List.set_cons_zero, List.set_cons_succ, i64_w, i32_w]
          rfl
        refine pure_ (i := 12) (N := some 27) (v := undef) (a' := ?_) #[true, true, true, true, true, true, true, true, true, true, true, true, true, false, false, false, false, false] rfl rfl (any_of HT_.out (by kernel_rfl)) (fun _ _ _ h => h) (Or.inr ⟨by rfl, rfl⟩) ?_ ?_
        rotate_left
        · simp only [Act.put, List.setIfInBounds_toArray, List.set_cons_zero, List.set_cons_succ, i64_w, i32_w]
          rfl
        refine pure_ (i := 13) (N := some 28) (v := undef) (a' := ?_) #[true, true, true, true, true, true, true, true, true, true, true, true, true, true, false, false, false, false] rfl rfl (any_of HT_.out (by kernel_rfl)) (fun _ _ _ h => h) (Or.inr ⟨by rfl, rfl⟩) ?_ ?_
        rotate_left
        · simp only [Act.put, List.setIfInBounds_toArray, List.set_cons_zero, List.set_cons_succ, i64_w, i32_w]
          rfl
        refine pure_ (i := 14) (N := some 29) (v := undef) (a' := ?_) #[true, true, true, true, true, true, true, true, true, true, true, true, true, true, true, false, false, false] rfl rfl (any_of HT_.out (by kernel_rfl)) (fun _ _ _ h => h) (Or.inr ⟨by rfl, rfl⟩) ?_ ?_
        rotate_left
        · simp only [Act.put, List.setIfInBounds_toArray, List.set_cons_zero, List.set_cons_succ, i64_w, i32_w]
          rfl
        refine pure_ (i := 15) (N := some 30) (v := undef) (a' := ?_) #[true, true, true, true, true, true, true, true, true, true, true, true, true, true, true, true, false, false] rfl rfl (any_of HT_.out (by kernel_rfl)) (fun _ _ _ h => h) (Or.inr ⟨by rfl, rfl⟩) ?_ ?_
        rotate_left
        · simp only [Act.put, List.setIfInBounds_toArray, List.set_cons_zero, List.set_cons_succ, i64_w, i32_w]
          rfl
        refine pure_ (i := 16) (N := some 31) (v := undef) (a' := ?_) #[true, true, true, true, true, true, true, true, true, true, true, true, true, true, true, true, true, false] rfl rfl (any_of HT_.out (by kernel_rfl)) (fun _ _ _ h => h) (Or.inr ⟨by rfl, rfl⟩) ?_ ?_
        rotate_left
        · simp only [Act.put, List.setIfInBounds_toArray, List.set_cons_zero, List.set_cons_succ, i64_w, i32_w]
          rfl
        refine pure_ (i := 17) (N := some 32) (v := ?_) (a' := ?_) #[true, true, true, true, true, true, true, true, true, true, true, true, true, true, true, true, true, true] rfl rfl (any_of HT_.out (by kernel_rfl)) (fun _ _ _ h => h) (Or.inl ⟨by rfl, ?_⟩) ?_ ?_
        rotate_left
        · intro w'
          go_simp
          with_reducible rfl
        rotate_left
        · simp only [Act.put, List.setIfInBounds_toArray, List.set_cons_zero, List.set_cons_succ, i64_w, i32_w]
          rfl
        refine done_ (done_of HT_.out (by kernel_rfl)) ?_
        go_wp2_with fail
        go_ret
        exact ⟨_, rfl, HBw.out.trans (HB7.out.mono HBw.out.size), AreSays.no _ _⟩
      | true =>
        have hFok := HQI.out rfl
        have HG : Aside0 (∀ j (hj : j < l0.length), j < i + 1 → FOk l0[j]) := ⟨fun j hj hji => by
          rcases Nat.lt_or_ge j i with h | h
          · exact HFs.out j hj h
          · obtain rfl : j = i := by omega
            rw [← HY.out]; exact hFok⟩
        have HXJ : Aside0 (wrap64 (x + 1) = ((i + 1 : Nat) : Int)) := ⟨by rw [HXI.out, wrap_succ (by omega)]⟩
        clear hFok
        by_cases hx0 : 0 < x
        · have dx : decide (0 < x) = true := decide_eq_true hx0
          obtain ⟨ji, hji⟩ : ∃ j_ : Int, wrap64 (x - 1) = j_ := ⟨_, rfl⟩
          have hjw : IntKind.i64.wrap (x - 1) = ji := (i64_w _).trans hji
          have hjx : ji = x - 1 := by rw [← hji]; unfold wrap64; omega
          have pj : 0 ≤ ji := by omega
          have qj : ji < (n : Int) := by omega
          obtain ⟨ad', e1, -, -, -, -, -, -, -, -, -, -, -, hpv, -, -, -⟩ := at_T35 HR0.out ji pj qj
          injection e1 with e1
          subst e1
          obtain ⟨y2, hy2⟩ : ∃ y2, y2 = rd_T35 l0 ji := ⟨_, rfl⟩
          rw [← hy2] at hpv
          have HPV : Aside0 (W2.cell? ⟨(ad.add (ji.toNat * 15)).block, (ad.add (ji.toNat * 15)).off + 11, none⟩ = some (.string y2.f9)) := ⟨(HBw.out.cell (World.block_lt_of_cell? w _ hpv)).trans hpv⟩
          obtain ⟨gq, hgq⟩ := str_geq y2.f9 y.f9
          have k0 := box16 (w' := W2.drew) hbx HPV.out
          have dj : decide (0 ≤ ji) = true := decide_eq_true pj
          have dj' : decide (ji < (n : Int)) = true := decide_eq_true qj
          have PJ := eq_true pj
          have QJ := eq_true qj
          clear hbx hpv hy2 hjx pj qj
          refine start_ (n := 18) (S := fun w' => w'.cell? ⟨B, 0, none⟩ = some (.int .i64 y.f0.f0) ∧ w'.cell? ⟨B, 1, none⟩ = some (.int .i64 y.f0.f1) ∧ w'.cell? ⟨B, 2, none⟩ = some (.int .i64 y.f1.f0) ∧ w'.cell? ⟨B, 3, none⟩ = some (.int .i64 y.f1.f1) ∧ w'.cell? ⟨B, 4, none⟩ = some (.int .u32 y.f2) ∧ w'.cell? ⟨B, 5, none⟩ = some (.int .u32 y.f3) ∧ w'.cell? ⟨B, 6, none⟩ = some (.int .u32 y.f4) ∧ w'.cell? ⟨B, 7, none⟩ = some (.int .u32 y.f5) ∧ w'.cell? ⟨B, 8, none⟩ = some (.int .u32 y.f6) ∧ w'.cell? ⟨B, 9, none⟩ = some (.int .u32 y.f7) ∧ w'.cell? ⟨B, 10, none⟩ = some (.string y.f8) ∧ w'.cell? ⟨B, 11, none⟩ = some (.string y.f9) ∧ w'.cell? ⟨B, 12, none⟩ = some (.int .i64 y.f10) ∧ w'.cell? ⟨B, 13, none⟩ = some (.bool y.f11) ∧ w'.cell? ⟨B, 14, none⟩ = some (.bool y.f12) ∧ w'.cell? ⟨(ad.add (ji.toNat * 15)).block, (ad.add (ji.toNat * 15)).off + 11, none⟩ = some (.string y2.f9)) (ds := []) #[false, false, false, false, false, false, false, false, false, false, false, false, false, false, false, false, false, false] (by kernel_rfl) rfl rfl k0 (fun hHeld => ?_); refine with_tabW areT areW (fun HT_ HW_ => ?_)
          generalize W2.drew = w6 at HC11 hHeld ⊢
          refine take_ (i := 0) (N := some 15) (v := ?_) (a' := ?_) #[true, false, false, false, false, false, false, false, false, false, false, false, false, false, false, false, false, false] rfl rfl (take_ofW HT_.out HW_.out (by kernel_rfl)) (fun _ _ _ h => h) (Or.inl ⟨by rfl, ?_⟩) hHeld ?_ ?_
          rotate_left
          · rintro w' ⟨s0, s1, s2, s3, s4, s5, s6, s7, s8, s9, s10, s11, s12, s13, s14, s15⟩
            go_simp
            with_reducible rfl
          rotate_left
          · simp only [Act.put, List.setIfInBounds_toArray, List.set_cons_zero, List.set_cons_succ, i64_w, i32_w]
            rfl
          refine one_ (i := 1) (N := some 16) #[true, true, false, false, false, false, false, false, false, false, false, false, false, false, false, false, false, false] rfl rfl (one_of HT_.out (by kernel_rfl)) (by decide) (fun K hK => ?_)
          refine goes_ Tryz.func11 (by kernel_rfl) rfl #[.agg #[.int .i64 y.f0.f0, .int .i64 y.f0.f1, .int .i64 y.f1.f0, .int .i64 y.f1.f1, .int .u32 y.f2, .int .u32 y.f3, .int .u32 y.f4, .int .u32 y.f5, .int .u32 y.f6, .int .u32 y.f7, .string y.f8, .string y.f9, .int .i64 y.f10, .bool y.f11, .bool y.f12]] (by rfl) rfl rfl (by (try simp only [List.map_toArray, List.map_cons, List.map_nil]); first | done | rfl) ?_
          refine HC11.out.mono ?_
          rintro e w7 ⟨rfl, hb7⟩
          refine ⟨_, rfl, ?_⟩
          have HB7 := Aside0.mk hb7
          have k7 := box16 ((hb7.block B (lt_of_block HBX.out)).trans HBX.out) ((hb7.cell (World.block_lt_of_cell? _ _ HPV.out)).trans HPV.out)
          clear hb7 k0
          refine hK.out _ _ k7 (fun hHeld => ?_)
          clear hK K k7
          refine norm_ (a' := ?_) ?_ ?_
          rotate_left
          · show Act.put _ (some 16) _ = _
            simp only [Act.put, List.setIfInBounds_toArray, List.set_cons_zero, List.set_cons_succ, i64_w, i32_w]
            rfl
          refine pure_ (i := 2) (N := some 17) (v := ?_) (a' := ?_) #[true, true, true, false, false, false, false, false, false, false, false, false, false, false, false, false, false, false] rfl rfl (any_of HT_.out (by kernel_rfl)) (fun _ _ _ h => h) (Or.inl ⟨by rfl, ?_⟩) ?_ ?_
          rotate_left
          · intro w'
            go_simp
            with_reducible rfl
          rotate_left
          · simp only [Act.put, List.setIfInBounds_toArray, List.set_cons_zero, List.set_cons_succ, i64_w, i32_w]
            rfl
          refine pure_ (i := 3) (N := some 18) (v := ?_) (a' := ?_) #[true, true, true, true, false, false, false, false, false, false, false, false, false, false, false, false, false, false] rfl rfl (any_of HT_.out (by kernel_rfl)) (fun _ _ _ h => h) (Or.inl ⟨by rfl, ?_⟩) ?_ ?_
          rotate_left
          · intro w'
            go_simp
            with_reducible rfl
          rotate_left
          · simp only [Act.put, List.setIfInBounds_toArray, List.set_cons_zero, List.set_cons_succ, i64_w, i32_w]
            rfl
          refine pure_ (i := 4) (N := some 19) (v := ?_) (a' := ?_) #[true, true, true, true, true, false, false, false, false, false, false, false, false, false, false, false, false, false] rfl rfl (any_of HT_.out (by kernel_rfl)) (fun _ _ _ h => h) (Or.inl ⟨by rfl, ?_⟩) ?_ ?_
          rotate_left
          · intro w'
            go_simp
            with_reducible rfl
          rotate_left
          · simp only [Act.put, List.setIfInBounds_toArray, List.set_cons_zero, List.set_cons_succ, i64_w, i32_w]
            rfl
          refine pure_ (i := 5) (N := some 20) (v := ?_) (a' := ?_) #[true, true, true, true, true, true, false, false, false, false, false, false, false, false, false, false, false, false] rfl rfl (any_of HT_.out (by kernel_rfl)) (fun _ _ _ h => h) (Or.inl ⟨by rfl, ?_⟩) ?_ ?_
          rotate_left
          · intro w'
            go_simp
            with_reducible rfl
          rotate_left
          · simp only [Act.put, List.setIfInBounds_toArray, List.set_cons_zero, List.set_cons_succ, i64_w, i32_w]
            rfl
          refine pure_ (i := 6) (N := some 21) (v := ?_) (a' := ?_) #[true, true, true, true, true, true, true, false, false, false, false, false, false, false, false, false, false, false] rfl rfl (any_of HT_.out (by kernel_rfl)) (fun _ _ _ h => h) (Or.inl ⟨by rfl, ?_⟩) ?_ ?_
          rotate_left
          · intro w'
            go_simp
            with_reducible rfl
          rotate_left
          · simp only [Act.put, List.setIfInBounds_toArray, List.set_cons_zero, List.set_cons_succ, i64_w, i32_w]
            rfl
          refine pure_ (i := 7) (N := some 22) (v := ?_) (a' := ?_) #[true, true, true, true, true, true, true, true, false, false, false, false, false, false, false, false, false, false] rfl rfl (any_of HT_.out (by kernel_rfl)) (fun _ _ _ h => h) (Or.inl ⟨by rfl, ?_⟩) ?_ ?_
          rotate_left
          · intro w'
            go_simp
            with_reducible rfl
          rotate_left
          · simp only [Act.put, List.setIfInBounds_toArray, List.set_cons_zero, List.set_cons_succ, i64_w, i32_w]
            rfl
          refine pure_ (i := 8) (N := some 23) (v := ?_) (a' := ?_) #[true, true, true, true, true, true, true, true, true, false, false, false, false, false, false, false, false, false] rfl rfl (any_of HT_.out (by kernel_rfl)) (fun _ _ _ h => h) (Or.inl ⟨by rfl, ?_⟩) ?_ ?_
          rotate_left
          · intro w'
            go_simp
            with_reducible rfl
          rotate_left
          · simp only [Act.put, List.setIfInBounds_toArray, List.set_cons_zero, List.set_cons_succ, i64_w, i32_w]
            rfl
          refine pure_ (i := 9) (N := some 24) (v := ?_) (a' := ?_) #[true, true, true, true, true, true, true, true, true, true, false, false, false, false, false, false, false, false] rfl rfl (any_of HT_.out (by kernel_rfl)) (fun _ _ _ h => h) (Or.inl ⟨by rfl, ?_⟩) ?_ ?_
          rotate_left
          · intro w'
            go_simp
            with_reducible rfl
          rotate_left
          · simp only [Act.put, List.setIfInBounds_toArray, List.set_cons_zero, List.set_cons_succ, i64_w, i32_w]
            rfl
          refine pure_ (i := 10) (N := some 25) (v := ?_) (a' := ?_) #[true, true, true, true, true, true, true, true, true, true, true, false, false, false, false, false, false, false] rfl rfl (any_of HT_.out (by kernel_rfl)) (fun _ _ _ h => h) (Or.inl ⟨by rfl, ?_⟩) ?_ ?_
          rotate_left
          · intro w'
            go_simp
            with_reducible rfl
          rotate_left
          · simp only [Act.put, List.setIfInBounds_toArray, List.set_cons_zero, List.set_cons_succ, i64_w, i32_w]
            rfl
          refine pure_ (i := 11) (N := some 26) (v := ?_) (a' := ?_) #[true, true, true, true, true, true, true, true, true, true, true, true, false, false, false, false, false, false] rfl rfl (any_of HT_.out (by kernel_rfl)) (fun _ _ _ h => h) (Or.inl ⟨by rfl, ?_⟩) ?_ ?_
          rotate_left
          · intro w'
            go_simp
            with_reducible rfl
          rotate_left
          · simp only [Act.put, List.setIfInBounds_toArray, List.set_cons_zero, List.set_cons_succ, i64_w, i32_w]
            rfl
          refine pure_ (i := 13) (N := some 28) (v := ?_) (a' := ?_) #[true, true, true, true, true, true, true, true, true, true, true, true, false, true, false, false, false, false] rfl rfl (any_of HT_.out (by kernel_rfl)) (fun _ _ _ h => h) (Or.inl ⟨by rfl, ?_⟩) ?_ ?_
          rotate_left
          · intro w'
            go_simp
            with_reducible rfl
          rotate_left
          · simp only [Act.put, List.setIfInBounds_toArray, List.set_cons_zero, List.set_cons_succ, i64_w, i32_w]
            rfl
          refine take_ (i := 12) (N := some 27) (v := ?_) (a' := ?_) #[true, true, true, true, true, true, true, true, true, true, true, true, true, true, false, false, false, false] rfl rfl (take_ofW HT_.out HW_.out (by kernel_rfl)) (fun _ _ _ h => h) (Or.inl ⟨by rfl, ?_⟩) hHeld ?_ ?_
          rotate_left
          · rintro w' ⟨s0, s1, s2, s3, s4, s5, s6, s7, s8, s9, s10, s11, s12, s13, s14, s15⟩
            go_simp
            with_reducible rfl
          rotate_left
          · simp only [Act.put, List.setIfInBounds_toArray, List.set_cons_zero, List.set_cons_succ, i64_w, i32_w]
            rfl
          refine take_ (i := 14) (N := some 29) (v := ?_) (a' := ?_) #[true, true, true, true, true, true, true, true, true, true, true, true, true, true, true, false, false, false] rfl rfl (take_ofW HT_.out HW_.out (by kernel_rfl)) (fun _ _ _ h => h) (Or.inl ⟨by rfl, ?_⟩) hHeld ?_ ?_
          rotate_left
          · rintro w' ⟨s0, s1, s2, s3, s4, s5, s6, s7, s8, s9, s10, s11, s12, s13, s14, s15⟩
            go_simp
            with_reducible rfl
          rotate_left
          · simp only [Act.put, List.setIfInBounds_toArray, List.set_cons_zero, List.set_cons_succ, i64_w, i32_w]
            rfl
          refine pure_ (i := 15) (N := some 30) (v := ?_) (a' := ?_) #[true, true, true, true, true, true, true, true, true, true, true, true, true, true, true, true, false, false] rfl rfl (any_of HT_.out (by kernel_rfl)) (fun _ _ _ h => h) (Or.inl ⟨by rfl, ?_⟩) ?_ ?_
          rotate_left
          · intro w'
            go_simp
            with_reducible rfl
          rotate_left
          · simp only [Act.put, List.setIfInBounds_toArray, List.set_cons_zero, List.set_cons_succ, i64_w, i32_w]
            rfl
          refine pure_ (i := 16) (N := some 31) (v := ?_) (a' := ?_) #[true, true, true, true, true, true, true, true, true, true, true, true, true, true, true, true, true, false] rfl rfl (any_of HT_.out (by kernel_rfl)) (fun _ _ _ h => h) (Or.inl ⟨by rfl, ?_⟩) ?_ ?_
          rotate_left
          · intro w'
            go_simp
            with_reducible rfl
          rotate_left
          · simp only [Act.put, List.setIfInBounds_toArray, List.set_cons_zero, List.set_cons_succ, i64_w, i32_w]
            rfl
          refine pure_ (i := 17) (N := some 32) (v := ?_) (a' := ?_) #[true, true, true, true, true, true, true, true, true, true, true, true, true, true, true, true, true, true] rfl rfl (any_of HT_.out (by kernel_rfl)) (fun _ _ _ h => h) (Or.inl ⟨by rfl, ?_⟩) ?_ ?_
          rotate_left
          · intro w'
            go_simp
            with_reducible rfl
          rotate_left
          · simp only [Act.put, List.setIfInBounds_toArray, List.set_cons_zero, List.set_cons_succ, i64_w, i32_w]
            rfl
          refine done_ (done_of HT_.out (by kernel_rfl)) ?_
          cases gq with
          | true =>
            go_wp2_with fail
            go_ret
            exact ⟨_, rfl, HBw.out.trans (HB7.out.mono HBw.out.size), AreSays.no _ _⟩
          | false =>
            go_wp2_with fail
            go_roundg (gk - 1)
            case measure => omega
            case rel => first | exact ⟨i + 1, _, by omega, rfl, HXJ, ⟨HBw.out.trans (HB7.out.mono HBw.out.size), HG.out⟩⟩ | exact ⟨i + 1, _, by omega, rfl, ⟨by have := HXI.out; omega⟩, ⟨HBw.out.trans (HB7.out.mono HBw.out.size), HG.out⟩⟩
        · have dx : decide (0 < x) = false := decide_eq_false hx0
          have k0 := box15 (w' := W2.drew) hbx
          clear hbx
          refine start_ (n := 18) (S := fun w' => w'.cell? ⟨B, 0, none⟩ = some (.int .i64 y.f0.f0) ∧ w'.cell? ⟨B, 1, none⟩ = some (.int .i64 y.f0.f1) ∧ w'.cell? ⟨B, 2, none⟩ = some (.int .i64 y.f1.f0) ∧ w'.cell? ⟨B, 3, none⟩ = some (.int .i64 y.f1.f1) ∧ w'.cell? ⟨B, 4, none⟩ = some (.int .u32 y.f2) ∧ w'.cell? ⟨B, 5, none⟩ = some (.int .u32 y.f3) ∧ w'.cell? ⟨B, 6, none⟩ = some (.int .u32 y.f4) ∧ w'.cell? ⟨B, 7, none⟩ = some (.int .u32 y.f5) ∧ w'.cell? ⟨B, 8, none⟩ = some (.int .u32 y.f6) ∧ w'.cell? ⟨B, 9, none⟩ = some (.int .u32 y.f7) ∧ w'.cell? ⟨B, 10, none⟩ = some (.string y.f8) ∧ w'.cell? ⟨B, 11, none⟩ = some (.string y.f9) ∧ w'.cell? ⟨B, 12, none⟩ = some (.int .i64 y.f10) ∧ w'.cell? ⟨B, 13, none⟩ = some (.bool y.f11) ∧ w'.cell? ⟨B, 14, none⟩ = some (.bool y.f12)) (ds := []) #[false, false, false, false, false, false, false, false, false, false, false, false, false, false, false, false, false, false] (by kernel_rfl) rfl rfl k0 (fun hHeld => ?_); refine with_tabW areT areW (fun HT_ HW_ => ?_)
          generalize W2.drew = w6 at HC11 hHeld ⊢
          refine take_ (i := 0) (N := some 15) (v := ?_) (a' := ?_) #[true, false, false, false, false, false, false, false, false, false, false, false, false, false, false, false, false, false] rfl rfl (take_ofW HT_.out HW_.out (by kernel_rfl)) (fun _ _ _ h => h) (Or.inl ⟨by rfl, ?_⟩) hHeld ?_ ?_
          rotate_left
          · rintro w' ⟨s0, s1, s2, s3, s4, s5, s6, s7, s8, s9, s10, s11, s12, s13, s14⟩
            go_simp
            with_reducible rfl
          rotate_left
          · simp only [Act.put, List.setIfInBounds_toArray, List.set_cons_zero, List.set_cons_succ, i64_w, i32_w]
            rfl
          refine one_ (i := 1) (N := some 16) #[true, true, false, false, false, false, false, false, false, false, false, false, false, false, false, false, false, false] rfl rfl (one_of HT_.out (by kernel_rfl)) (by decide) (fun K hK => ?_)
          refine goes_ Tryz.func11 (by kernel_rfl) rfl #[.agg #[.int .i64 y.f0.f0, .int .i64 y.f0.f1, .int .i64 y.f1.f0, .int .i64 y.f1.f1, .int .u32 y.f2, .int .u32 y.f3, .int .u32 y.f4, .int .u32 y.f5, .int .u32 y.f6, .int .u32 y.f7, .string y.f8, .string y.f9, .int .i64 y.f10, .bool y.f11, .bool y.f12]] (by rfl) rfl rfl (by (try simp only [List.map_toArray, List.map_cons, List.map_nil]); first | done | rfl) ?_
          refine HC11.out.mono ?_
          rintro e w7 ⟨rfl, hb7⟩
          refine ⟨_, rfl, ?_⟩
          have HB7 := Aside0.mk hb7
          have k7 := box15 ((hb7.block B (lt_of_block HBX.out)).trans HBX.out)
          clear hb7 k0
          refine hK.out _ _ k7 (fun hHeld => ?_)
          clear hK K k7
          refine norm_ (a' := ?_) ?_ ?_
          rotate_left
          · show Act.put _ (some 16) _ = _
            simp only [Act.put, List.setIfInBounds_toArray, List.set_cons_zero, List.set_cons_succ, i64_w, i32_w]
            rfl
          refine pure_ (i := 2) (N := some 17) (v := ?_) (a' := ?_) #[true, true, true, false, false, false, false, false, false, false, false, false, false, false, false, false, false, false] rfl rfl (any_of HT_.out (by kernel_rfl)) (fun _ _ _ h => h) (Or.inl ⟨by rfl, ?_⟩) ?_ ?_
          rotate_left
          · intro w'
            go_simp
            with_reducible rfl
          rotate_left
          · simp only [Act.put, List.setIfInBounds_toArray, List.set_cons_zero, List.set_cons_succ, i64_w, i32_w]
            rfl
          refine pure_ (i := 3) (N := some 18) (v := ?_) (a' := ?_) #[true, true, true, true, false, false, false, false, false, false, false, false, false, false, false, false, false, false] rfl rfl (any_of HT_.out (by kernel_rfl)) (fun _ _ _ h => h) (Or.inl ⟨by rfl, ?_⟩) ?_ ?_
          rotate_left
          · intro w'
            go_simp
            with_reducible rfl
          rotate_left
          · simp only [Act.put, List.setIfInBounds_toArray, List.set_cons_zero, List.set_cons_succ, i64_w, i32_w]
            rfl
          refine pure_ (i := 4) (N := some 19) (v := ?_) (a' := ?_) #[true, true, true, true, true, false, false, false, false, false, false, false, false, false, false, false, false, false] rfl rfl (any_of HT_.out (by kernel_rfl)) (fun _ _ _ h => h) (Or.inl ⟨by rfl, ?_⟩) ?_ ?_
          rotate_left
          · intro w'
            go_simp
            with_reducible rfl
          rotate_left
          · simp only [Act.put, List.setIfInBounds_toArray, List.set_cons_zero, List.set_cons_succ, i64_w, i32_w]
            rfl
          refine pure_ (i := 5) (N := some 20) (v := ?_) (a' := ?_) #[true, true, true, true, true, true, false, false, false, false, false, false, false, false, false, false, false, false] rfl rfl (any_of HT_.out (by kernel_rfl)) (fun _ _ _ h => h) (Or.inl ⟨by rfl, ?_⟩) ?_ ?_
          rotate_left
          · intro w'
            go_simp
            with_reducible rfl
          rotate_left
          · simp only [Act.put, List.setIfInBounds_toArray, List.set_cons_zero, List.set_cons_succ, i64_w, i32_w]
            rfl
          refine pure_ (i := 6) (N := some 21) (v := ?_) (a' := ?_) #[true, true, true, true, true, true, true, false, false, false, false, false, false, false, false, false, false, false] rfl rfl (any_of HT_.out (by kernel_rfl)) (fun _ _ _ h => h) (Or.inl ⟨by rfl, ?_⟩) ?_ ?_
          rotate_left
          · intro w'
            go_simp
            with_reducible rfl
          rotate_left
          · simp only [Act.put, List.setIfInBounds_toArray, List.set_cons_zero, List.set_cons_succ, i64_w, i32_w]
            rfl
          refine pure_ (i := 7) (N := some 22) (v := undef) (a' := ?_) #[true, true, true, true, true, true, true, true, false, false, false, false, false, false, false, false, false, false] rfl rfl (any_of HT_.out (by kernel_rfl)) (fun _ _ _ h => h) (Or.inr ⟨by rfl, rfl⟩) ?_ ?_
          rotate_left
          · simp only [Act.put, List.setIfInBounds_toArray, List.set_cons_zero, List.set_cons_succ, i64_w, i32_w]
            rfl
          refine pure_ (i := 8) (N := some 23) (v := undef) (a' := ?_) #[true, true, true, true, true, true, true, true, true, false, false, false, false, false, false, false, false, false] rfl rfl (any_of HT_.out (by kernel_rfl)) (fun _ _ _ h => h) (Or.inr ⟨by rfl, rfl⟩) ?_ ?_
          rotate_left
          · simp only [Act.put, List.setIfInBounds_toArray, List.set_cons_zero, List.set_cons_succ, i64_w, i32_w]
            rfl
          refine pure_ (i := 9) (N := some 24) (v := undef) (a' := ?_) #[true, true, true, true, true, true, true, true, true, true, false, false, false, false, false, false, false, false] rfl rfl (any_of HT_.out (by kernel_rfl)) (fun _ _ _ h => h) (Or.inr ⟨by rfl, rfl⟩) ?_ ?_
          rotate_left
          · simp only [Act.put, List.setIfInBounds_toArray, List.set_cons_zero, List.set_cons_succ, i64_w, i32_w]
            rfl
          refine pure_ (i := 10) (N := some 25) (v := undef) (a' := ?_) #[true, true, true, true, true, true, true, true, true, true, true, false, false, false, false, false, false, false] rfl rfl (any_of HT_.out (by kernel_rfl)) (fun _ _ _ h => h) (Or.inr ⟨by rfl, rfl⟩) ?_ ?_
          rotate_left
          · simp only [Act.put, List.setIfInBounds_toArray, List.set_cons_zero, List.set_cons_succ, i64_w, i32_w]
            rfl
          refine pure_ (i := 11) (N := some 26) (v := undef) (a' := ?_) #[true, true, true, true, true, true, true, true, true, true, true, true, false, false, false, false, false, false] rfl rfl (any_of HT_.out (by kernel_rfl)) (fun _ _ _ h => h) (Or.inr ⟨by rfl, rfl⟩) ?_ ?_
          rotate_left
          · simp only [Act.put, List.setIfInBounds_toArray, List.set_cons_zero, List.set_cons_succ, i64_w, i32_w]
            rfl
          refine pure_ (i := 12) (N := some 27) (v := undef) (a' := ?_) #[true, true, true, true, true, true, true, true, true, true, true, true, true, false, false, false, false, false] rfl rfl (any_of HT_.out (by kernel_rfl)) (fun _ _ _ h => h) (Or.inr ⟨by rfl, rfl⟩) ?_ ?_
          rotate_left
          · simp only [Act.put, List.setIfInBounds_toArray, List.set_cons_zero, List.set_cons_succ, i64_w, i32_w]
            rfl
          refine pure_ (i := 13) (N := some 28) (v := undef) (a' := ?_) #[true, true, true, true, true, true, true, true, true, true, true, true, true, true, false, false, false, false] rfl rfl (any_of HT_.out (by kernel_rfl)) (fun _ _ _ h => h) (Or.inr ⟨by rfl, rfl⟩) ?_ ?_
          rotate_left
          · simp only [Act.put, List.setIfInBounds_toArray, List.set_cons_zero, List.set_cons_succ, i64_w, i32_w]
            rfl
          refine pure_ (i := 14) (N := some 29) (v := undef) (a' := ?_) #[true, true, true, true, true, true, true, true, true, true, true, true, true, true, true, false, false, false] rfl rfl (any_of HT_.out (by kernel_rfl)) (fun _ _ _ h => h) (Or.inr ⟨by rfl, rfl⟩) ?_ ?_
          rotate_left
          · simp only [Act.put, List.setIfInBounds_toArray, List.set_cons_zero, List.set_cons_succ, i64_w, i32_w]
            rfl
          refine pure_ (i := 15) (N := some 30) (v := undef) (a' := ?_) #[true, true, true, true, true, true, true, true, true, true, true, true, true, true, true, true, false, false] rfl rfl (any_of HT_.out (by kernel_rfl)) (fun _ _ _ h => h) (Or.inr ⟨by rfl, rfl⟩) ?_ ?_
          rotate_left
          · simp only [Act.put, List.setIfInBounds_toArray, List.set_cons_zero, List.set_cons_succ, i64_w, i32_w]
            rfl
          refine pure_ (i := 16) (N := some 31) (v := ?_) (a' := ?_) #[true, true, true, true, true, true, true, true, true, true, true, true, true, true, true, true, true, false] rfl rfl (any_of HT_.out (by kernel_rfl)) (fun _ _ _ h => h) (Or.inl ⟨by rfl, ?_⟩) ?_ ?_
          rotate_left
          · intro w'
            go_simp
            with_reducible rfl
          rotate_left
          · simp only [Act.put, List.setIfInBounds_toArray, List.set_cons_zero, List.set_cons_succ, i64_w, i32_w]
            rfl
          refine pure_ (i := 17) (N := some 32) (v := ?_) (a' := ?_) #[true, true, true, true, true, true, true, true, true, true, true, true, true, true, true, true, true, true] rfl rfl (any_of HT_.out (by kernel_rfl)) (fun _ _ _ h => h) (Or.inl ⟨by rfl, ?_⟩) ?_ ?_
          rotate_left
          · intro w'
            go_simp
            with_reducible rfl
          rotate_left
          · simp only [Act.put, List.setIfInBounds_toArray, List.set_cons_zero, List.set_cons_succ, i64_w, i32_w]
            rfl
          refine done_ (done_of HT_.out (by kernel_rfl)) ?_
          go_wp2_with fail
          go_roundg (gk - 1)
          case measure => omega
          case rel => first | exact ⟨i + 1, _, by omega, rfl, HXJ, ⟨HBw.out.trans (HB7.out.mono HBw.out.size), HG.out⟩⟩ | exact ⟨i + 1, _, by omega, rfl, ⟨by have := HXI.out; omega⟩, ⟨HBw.out.trans (HB7.out.mono HBw.out.size), HG.out⟩⟩
    · obtain rfl : i = n := by omega
      have q1 : ¬ (x < (i : Int)) := by have := HXI.out; omega
      have d1 : decide (x < (i : Int)) = false := decide_eq_false q1
      go_wp2_with fail
      go_ret
      exact ⟨_, rfl, HE.out.1, true, rfl, fun _ => ⟨by omega, fun z hz => by
        obtain ⟨j, hj, rfl⟩ := List.getElem_of_mem hz
        exact HE.out.2 j hj (by have := HL.out; omega)⟩⟩
end Go.Proofs.YtllikhbafaohgaaGreatDoor.Idx
