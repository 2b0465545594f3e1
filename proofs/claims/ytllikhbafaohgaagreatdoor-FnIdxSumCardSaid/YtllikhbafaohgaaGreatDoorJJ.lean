/- laws.idxFixed. -/
import Derived.Test.YtllikhbafaohgaaGreatDoorJC
import Derived.Test.YtllikhbafaohgaaGreatDoorJL
import Derived.Lib.SlBytesConst
namespace Go.Proofs.YtllikhbafaohgaaGreatDoor.Idx
open Go.RowKit Go.Proofs.YtllikhbafaohgaaGreatDoorW.PrintWords Go.Proofs.YtllikhbafaohgaaGreatDoorW.PrintLast Go.Proofs.YtllikhbafaohgaaGreatDoorW.PrintMore Go.Proofs.YtllikhbafaohgaaGreatDoor.PFnIdxSum
set_option linter.unusedVariables false
set_option linter.unusedSimpArgs false

/-- Where the entry of file a begins, by the lengths of the names. -/
def posS (ls : List Nat) (a : Nat) : Nat := 12 + ((ls.take a).map (fun l => 62 + l + pad l)).sum
theorem posS_succ {ls : List Nat} {a l : Nat} (h : ls[a]? = some l) : posS ls (a + 1) = posS ls a + (62 + l + pad l) := by
  unfold posS
  rw [List.take_add_one, h]
  simp
  omega
theorem posS_flat : ∀ (fl : List (List Int × Nat)), (∀ x ∈ fl, FileB x.1 x.2) → (flat fl).length = ((fl.map (·.2)).map (fun l => 62 + l + pad l)).sum := by
  intro fl
  induction fl with
  | nil => intro _; rfl
  | cons x xs ih =>
    intro h
    rw [flat_cons, List.length_append, ih (fun y hy => h y (List.mem_cons_of_mem _ hy)), (h x (List.mem_cons_self ..)).len]
    simp
theorem posS_is (fl : List (List Int × Nat)) (h : ∀ x ∈ fl, FileB x.1 x.2) (a : Nat) : posOf fl a = posS (fl.map (·.2)) a := by
  unfold posOf posS
  rw [posS_flat _ (fun x hx => h x (List.mem_of_mem_take hx)), List.map_take]
def Fixed (v : Value) (k : Int) (ls : List Nat) : Prop := ∃ r : Bool, v = .bool r ∧ (r = true → (k < 4 ∨ 12 ≤ k) ∧ ∀ a, a < ls.length → k ≠ (posS ls a : Int) + 60 ∧ k ≠ (posS ls a : Int) + 61)
theorem Fixed.no (k : Int) (ls : List Nat) : Fixed (.bool false) k ls := ⟨false, rfl, fun h => by cases h⟩
def lensOf (l0 : List S35) : List Nat := l0.map (·.f9.size)
theorem posS_small {ls : List Nat} (h : ∀ l ∈ ls, l < 4000) (a : Nat) (ha : a ≤ 1000) : posS ls a ≤ 5000000 := by
  have key : ∀ (m : List Nat), (∀ l ∈ m, l < 4000) → (m.map (fun l => 62 + l + pad l)).sum ≤ 4070 * m.length := by
    intro m
    induction m with
    | nil => intro _; simp
    | cons l m ih =>
      intro hm
      have h1 := hm l (List.mem_cons_self ..)
      have h2 := ih (fun y hy => hm y (List.mem_cons_of_mem _ hy))
      have h3 : pad l ≤ 8 := by unfold pad; omega
      simp only [List.map_cons, List.sum_cons, List.length_cons]
      omega
  have h1 := key (ls.take a) (fun l hl => h l (List.mem_of_mem_take hl))
  have h2 : (ls.take a).length ≤ a := List.length_take_le ..
  unfold posS
  have h3 : 4070 * (ls.take a).length ≤ 4070 * a := Nat.mul_le_mul_left _ h2
  omega
set_option maxHeartbeats 32000000 in
set_option maxRecDepth 100000 in
theorem idxFixed_calls {w : World} {A0 : Option Addr} {n c0 : Nat} {k : Int} {l0 : List S35} (hr0 : Kd.C k35 w A0 n l0) (hl : l0.length = n) (hn : n ≤ 1000) (hF : ∀ x ∈ l0, FOk x) (hk0 : 0 ≤ k) (hk1 : k ≤ 100000000) :
    Calls Tryz.prog 7 #[.slice A0 n c0, .int .i64 k] w fun e w' => ∃ v, e = .returned v ∧ Below w.heap.size w w' ∧ Fixed v k (lensOf l0) := by
  have HR0 := Aside0.mk hr0
  have HL := Aside0.mk (⟨hl, hn⟩ : _ ∧ _)
  have HF := Aside0.mk hF
  have HK := Aside0.mk (⟨hk0, hk1⟩ : _ ∧ _)
  clear hr0 hl hF
  by_cases hmid : 4 ≤ k ∧ k < 12
  · have e1 : decide (4 ≤ k) = true := decide_eq_true hmid.1
    have e2 : decide (k < 12) = true := decide_eq_true hmid.2
    have f1 := hmid.1
    have f2 := hmid.2
    clear hmid
    go_enter Tryz.func7, Tryz.ntmps7
    go_wp2_with fail
    go_ret
    exact ⟨_, rfl, Below.refl _ _, Fixed.no _ _⟩
  have HMid : Aside0 (k < 4 ∨ 12 ≤ k) := ⟨by omega⟩
  have hcase : (k < 4) ∨ (4 ≤ k ∧ 12 ≤ k) := by omega
  clear hmid
  rcases hcase with e1 | ⟨e1, e2⟩
  · have d1 : decide (4 ≤ k) = false := decide_eq_false (by omega)
    have n1 : ¬ (4 ≤ k) := by omega
    clear e1
    go_enter Tryz.func7, Tryz.ntmps7
    go_wp2_with fail
    go_loopg [5, 16] n (fun kq v5 v16 w' => ∃ (i : Nat) (x at_ : Int), kq + i = n ∧ v16 = .int .i64 x ∧ v5 = .int .i64 at_ ∧ Aside0 (x = (i : Int) ∧ at_ = (posS (lensOf l0) i : Int)) ∧ Aside0 (Below w.heap.size w w' ∧ ∀ a, a < i → k ≠ (posS (lensOf l0) a : Int) + 60 ∧ k ≠ (posS (lensOf l0) a : Int) + 61))
    case atStart => exact ⟨0, 0, 12, by omega, rfl, rfl, ⟨rfl, rfl⟩, ⟨Below.refl _ _, fun a ha => by omega⟩⟩
    case round =>
      obtain ⟨i, x, at_, hgz, rfl, rfl, HXI, HE⟩ := hrel
      rcases Nat.lt_or_ge i n with hi | hi
      · have p1 : 0 ≤ x := by have := HXI.out; omega
        have q1 : x < (n : Int) := by have := HXI.out; omega
        have d1 : decide (x < (n : Int)) = true := decide_eq_true q1
        have d2 : decide (0 ≤ x) = true := decide_eq_true p1
        obtain ⟨ad, e1, hx0, hx1, hx2, hx3, hx4, hx5, hx6, hx7, hx8, hx9, hx10, hx11, hx12, hx13, hx14⟩ := at_T35 HR0.out x p1 q1
        obtain ⟨y, hy⟩ : ∃ y, y = rd_T35 l0 x := ⟨_, rfl⟩
        rw [← hy] at hx0 hx1 hx2 hx3 hx4 hx5 hx6 hx7 hx8 hx9 hx10 hx11 hx12 hx13 hx14
        have hil : i < l0.length := by have := HL.out.1; omega
        have HY : Aside0 (y = l0[i]) := ⟨by rw [hy, HXI.out.1, rd35 hil]⟩
        have HYm : Aside0 (FOk y) := ⟨by rw [HY.out]; exact HF.out _ (List.getElem_mem hil)⟩
        have HLi : Aside0 ((lensOf l0)[i]? = some y.f9.size) := ⟨by unfold lensOf; rw [List.getElem?_map, List.getElem?_eq_getElem hil, HY.out]; rfl⟩
        have hat0 : 0 ≤ at_ := by have := HXI.out; omega
        have hat1 : at_ ≤ 5000000 := by
          have h1 := HXI.out.2
          have h2 := posS_small (ls := lensOf l0) (fun l hl => by obtain ⟨z, hz, rfl⟩ := List.mem_map.1 hl; exact (HF.out z hz).name1) i (by have := HL.out; omega)
          omega
        subst e1
        have hb := HE.out.1
        replace hx0 := (hb.cell (World.block_lt_of_cell? w _ hx0)).trans hx0
        replace hx1 := (hb.cell (World.block_lt_of_cell? w _ hx1)).trans hx1
        replace hx2 := (hb.cell (World.block_lt_of_cell? w _ hx2)).trans hx2
        replace hx3 := (hb.cell (World.block_lt_of_cell? w _ hx3)).trans hx3
        replace hx4 := (hb.cell (World.block_lt_of_cell? w _ hx4)).trans hx4
        replace hx5 := (hb.cell (World.block_lt_of_cell? w _ hx5)).trans hx5
        replace hx6 := (hb.cell (World.block_lt_of_cell? w _ hx6)).trans hx6
        replace hx7 := (hb.cell (World.block_lt_of_cell? w _ hx7)).trans hx7
        replace hx8 := (hb.cell (World.block_lt_of_cell? w _ hx8)).trans hx8
        replace hx9 := (hb.cell (World.block_lt_of_cell? w _ hx9)).trans hx9
        replace hx10 := (hb.cell (World.block_lt_of_cell? w _ hx10)).trans hx10
        replace hx11 := (hb.cell (World.block_lt_of_cell? w _ hx11)).trans hx11
        replace hx12 := (hb.cell (World.block_lt_of_cell? w _ hx12)).trans hx12
        replace hx13 := (hb.cell (World.block_lt_of_cell? w _ hx13)).trans hx13
        replace hx14 := (hb.cell (World.block_lt_of_cell? w _ hx14)).trans hx14
        clear hb hy
        replace p1 := eq_true p1
        replace q1 := eq_true q1
        go_upto_region 7 with (fail)
        obtain ⟨W2, hW2⟩ : ∃ W2, W2 = wr.alloc (.cells #[.int .i64 y.f0.f0, .int .i64 y.f0.f1, .int .i64 y.f1.f0, .int .i64 y.f1.f1, .int .u32 y.f2, .int .u32 y.f3, .int .u32 y.f4, .int .u32 y.f5, .int .u32 y.f6, .int .u32 y.f7, .string y.f8, .string y.f9, .int .i64 y.f10, .bool y.f11, .bool y.f12] 35) := ⟨_, rfl⟩
        rw [← hW2]
        have hbx : W2.heap[wr.heap.size]? = some (.cells #[.int .i64 y.f0.f0, .int .i64 y.f0.f1, .int .i64 y.f1.f0, .int .i64 y.f1.f1, .int .u32 y.f2, .int .u32 y.f3, .int .u32 y.f4, .int .u32 y.f5, .int .u32 y.f6, .int .u32 y.f7, .string y.f8, .string y.f9, .int .i64 y.f10, .bool y.f11, .bool y.f12] 35 (0, 0)) := by rw [hW2]; exact heap_alloc_new wr _
        have hbw : Below wr.heap.size wr W2 := by rw [hW2]; exact below_alloc (Below.refl _ _) _
        have HB2 : Aside0 (Below w.heap.size w W2) := ⟨HE.out.1.trans (hbw.mono HE.out.1.size)⟩
        have HFs := Aside0.mk HE.out.2
        obtain ⟨B, hB⟩ : ∃ B, B = wr.heap.size := ⟨_, rfl⟩
        rw [← hB] at hbx ⊢
        have z0 : W2.cell? ⟨B, 0, none⟩ = some (.int .i64 y.f0.f0) := cell_of hbx 0 rfl; have z1 : W2.cell? ⟨B, 1, none⟩ = some (.int .i64 y.f0.f1) := cell_of hbx 1 rfl; have z2 : W2.cell? ⟨B, 2, none⟩ = some (.int .i64 y.f1.f0) := cell_of hbx 2 rfl; have z3 : W2.cell? ⟨B, 3, none⟩ = some (.int .i64 y.f1.f1) := cell_of hbx 3 rfl; have z4 : W2.cell? ⟨B, 4, none⟩ = some (.int .u32 y.f2) := cell_of hbx 4 rfl; have z5 : W2.cell? ⟨B, 5, none⟩ = some (.int .u32 y.f3) := cell_of hbx 5 rfl; have z6 : W2.cell? ⟨B, 6, none⟩ = some (.int .u32 y.f4) := cell_of hbx 6 rfl; have z7 : W2.cell? ⟨B, 7, none⟩ = some (.int .u32 y.f5) := cell_of hbx 7 rfl; have z8 : W2.cell? ⟨B, 8, none⟩ = some (.int .u32 y.f6) := cell_of hbx 8 rfl; have z9 : W2.cell? ⟨B, 9, none⟩ = some (.int .u32 y.f7) := cell_of hbx 9 rfl; have z10 : W2.cell? ⟨B, 10, none⟩ = some (.string y.f8) := cell_of hbx 10 rfl; have z11 : W2.cell? ⟨B, 11, none⟩ = some (.string y.f9) := cell_of hbx 11 rfl; have z12 : W2.cell? ⟨B, 12, none⟩ = some (.int .i64 y.f10) := cell_of hbx 12 rfl; have z13 : W2.cell? ⟨B, 13, none⟩ = some (.bool y.f11) := cell_of hbx 13 rfl; have z14 : W2.cell? ⟨B, 14, none⟩ = some (.bool y.f12) := cell_of hbx 14 rfl
        have HC3 : Aside0 (Calls Tryz.prog 13 #[.agg #[.int .i64 y.f0.f0, .int .i64 y.f0.f1, .int .i64 y.f1.f0, .int .i64 y.f1.f1, .int .u32 y.f2, .int .u32 y.f3, .int .u32 y.f4, .int .u32 y.f5, .int .u32 y.f6, .int .u32 y.f7, .string y.f8, .string y.f9, .int .i64 y.f10, .bool y.f11, .bool y.f12]] W2 fun e w' => ∃ g c L, e = .returned (.slice (some ⟨g, 0, none⟩) L.length c) ∧ OwnB W2 w' (.slice (some ⟨g, 0, none⟩) L.length c) L ∧ FileB L y.f9.size) := ⟨by
          obtain ⟨ku, U, h1, h2, h3⟩ := unhex_all y.f8 HYm.out.hash
          exact fileBytes_calls h1 h2 h3 HYm.out.name0 HYm.out.name1 HYm.out.st0 HYm.out.st3⟩
        clear hW2 hbx hbw hB hx0 hx1 hx2 hx3 hx4 hx5 hx6 hx7 hx8 hx9 hx10 hx11 hx12 hx13 hx14 HE
        have hw60 : wrap64 (at_ + 60) = at_ + 60 := by unfold wrap64; omega
        have hw61 : wrap64 (at_ + 61) = at_ + 61 := by unfold wrap64; omega
        by_cases c60 : k = at_ + 60
        · have d60 : decide (k = at_ + 60) = true := decide_eq_true c60
          have b60 : (k == at_ + 60) = true := beq_iff_eq.2 c60
          clear c60
          go_wp2_with fail
          go_ret
          exact ⟨_, rfl, HB2.out, Fixed.no _ _⟩
        have d60 : decide (k = at_ + 60) = false := decide_eq_false c60
        have b60 : (k == at_ + 60) = false := beq_eq_false_iff_ne.2 c60
        by_cases c61 : k = at_ + 61
        · have d61 : decide (k = at_ + 61) = true := decide_eq_true c61
          have b61 : (k == at_ + 61) = true := beq_iff_eq.2 c61
          clear c61
          go_wp2_with fail
          go_ret
          exact ⟨_, rfl, HB2.out, Fixed.no _ _⟩
        have d61 : decide (k = at_ + 61) = false := decide_eq_false c61
        have b61 : (k == at_ + 61) = false := beq_eq_false_iff_ne.2 c61
        have HFs2 : Aside0 (∀ a, a < i + 1 → k ≠ (posS (lensOf l0) a : Int) + 60 ∧ k ≠ (posS (lensOf l0) a : Int) + 61) := ⟨fun a ha => by
          rcases Nat.lt_or_ge a i with h | h
          · exact HFs.out a h
          · obtain rfl : a = i := by omega
            rw [← HXI.out.2]; exact ⟨c60, c61⟩⟩
        have dn : decide (4095 ≤ (y.f9.size : Int)) = false := decide_eq_false (by have := HYm.out.name1; omega)
        have dn' : decide (4095 ≤ y.f9.size) = false := decide_eq_false (by have := HYm.out.name1; omega)
        clear c60 c61
        go_wp2_with (first | (go_at_call 13; refine HC3.out.mono ?_; rintro e w3 ⟨g3, q3, L, rfl, ho3, hf3⟩; have HO3 := Aside0.mk ho3; have HF3 := Aside0.mk hf3; clear ho3 hf3))
        have hLl : L.length ≤ 4070 := by
          have h1 := HF3.out.len
          have h2 := HF3.out.small
          have h3 : pad y.f9.size ≤ 8 := by unfold pad; omega
          omega
        have HAt : Aside0 (at_ + (L.length : Int) = (posS (lensOf l0) (i + 1) : Int)) := ⟨by rw [posS_succ HLi.out, HXI.out.2, HF3.out.len]; omega⟩
        have hwA : wrap64 (at_ + (L.length : Int)) = at_ + (L.length : Int) := by unfold wrap64; omega
        have hwX : wrap64 (x + 1) = x + 1 := by have := HXI.out.1; have := HL.out; unfold wrap64; omega
        go_roundg (gk - 1)
        case measure => omega
        case rel => exact ⟨i + 1, x + 1, at_ + (L.length : Int), by omega, by first | rfl | rw [hwX], by first | rfl | rw [hwA], ⟨by have := HXI.out.1; omega, HAt.out⟩, ⟨HB2.out.trans (HO3.out.below.mono HB2.out.size), HFs2.out⟩⟩
      · obtain rfl : i = n := by omega
        have q1 : ¬ (x < (i : Int)) := by have := HXI.out.1; omega
        have d1 : decide (x < (i : Int)) = false := decide_eq_false q1
        go_wp2_with fail
        go_ret
        exact ⟨_, rfl, HE.out.1, true, rfl, fun _ => ⟨HMid.out, fun a ha => HE.out.2 a (by unfold lensOf at ha; rw [List.length_map] at ha; have := HL.out; omega)⟩⟩
  · have d1 : decide (4 ≤ k) = true := decide_eq_true e1
    have d2 : decide (k < 12) = false := decide_eq_false (by omega)
    have n2 : ¬ (k < 12) := by omega
    go_enter Tryz.func7, Tryz.ntmps7
    go_wp2_with fail
    go_loopg [5, 16] n (fun kq v5 v16 w' => ∃ (i : Nat) (x at_ : Int), kq + i = n ∧ v16 = .int .i64 x ∧ v5 = .int .i64 at_ ∧ Aside0 (x = (i : Int) ∧ at_ = (posS (lensOf l0) i : Int)) ∧ Aside0 (Below w.heap.size w w' ∧ ∀ a, a < i → k ≠ (posS (lensOf l0) a : Int) + 60 ∧ k ≠ (posS (lensOf l0) a : Int) + 61))
    case atStart => exact ⟨0, 0, 12, by omega, rfl, rfl, ⟨rfl, rfl⟩, ⟨Below.refl _ _, fun a ha => by omega⟩⟩
    case round =>
      obtain ⟨i, x, at_, hgz, rfl, rfl, HXI, HE⟩ := hrel
      rcases Nat.lt_or_ge i n with hi | hi
      · have p1 : 0 ≤ x := by have := HXI.out; omega
        have q1 : x < (n : Int) := by have := HXI.out; omega
        have d1 : decide (x < (n : Int)) = true := decide_eq_true q1
        have d2 : decide (0 ≤ x) = true := decide_eq_true p1
        obtain ⟨ad, e1, hx0, hx1, hx2, hx3, hx4, hx5, hx6, hx7, hx8, hx9, hx10, hx11, hx12, hx13, hx14⟩ := at_T35 HR0.out x p1 q1
        obtain ⟨y, hy⟩ : ∃ y, y = rd_T35 l0 x := ⟨_, rfl⟩
        rw [← hy] at hx0 hx1 hx2 hx3 hx4 hx5 hx6 hx7 hx8 hx9 hx10 hx11 hx12 hx13 hx14
        have hil : i < l0.length := by have := HL.out.1; omega
        have HY : Aside0 (y = l0[i]) := ⟨by rw [hy, HXI.out.1, rd35 hil]⟩
        have HYm : Aside0 (FOk y) := ⟨by rw [HY.out]; exact HF.out _ (List.getElem_mem hil)⟩
        have HLi : Aside0 ((lensOf l0)[i]? = some y.f9.size) := ⟨by unfold lensOf; rw [List.getElem?_map, List.getElem?_eq_getElem hil, HY.out]; rfl⟩
        have hat0 : 0 ≤ at_ := by have := HXI.out; omega
        have hat1 : at_ ≤ 5000000 := by
          have h1 := HXI.out.2
          have h2 := posS_small (ls := lensOf l0) (fun l hl => by obtain ⟨z, hz, rfl⟩ := List.mem_map.1 hl; exact (HF.out z hz).name1) i (by have := HL.out; omega)
          omega
        subst e1
        have hb := HE.out.1
        replace hx0 := (hb.cell (World.block_lt_of_cell? w _ hx0)).trans hx0
        replace hx1 := (hb.cell (World.block_lt_of_cell? w _ hx1)).trans hx1
        replace hx2 := (hb.cell (World.block_lt_of_cell? w _ hx2)).trans hx2
        replace hx3 := (hb.cell (World.block_lt_of_cell? w _ hx3)).trans hx3
        replace hx4 := (hb.cell (World.block_lt_of_cell? w _ hx4)).trans hx4
        replace hx5 := (hb.cell (World.block_lt_of_cell? w _ hx5)).trans hx5
        replace hx6 := (hb.cell (World.block_lt_of_cell? w _ hx6)).trans hx6
        replace hx7 := (hb.cell (World.block_lt_of_cell? w _ hx7)).trans hx7
        replace hx8 := (hb.cell (World.block_lt_of_cell? w _ hx8)).trans hx8
        replace hx9 := (hb.cell (World.block_lt_of_cell? w _ hx9)).trans hx9
        replace hx10 := (hb.cell (World.block_lt_of_cell? w _ hx10)).trans hx10
        replace hx11 := (hb.cell (World.block_lt_of_cell? w _ hx11)).trans hx11
        replace hx12 := (hb.cell (World.block_lt_of_cell? w _ hx12)).trans hx12
        replace hx13 := (hb.cell (World.block_lt_of_cell? w _ hx13)).trans hx13
        replace hx14 := (hb.cell (World.block_lt_of_cell? w _ hx14)).trans hx14
        clear hb hy
        replace p1 := eq_true p1
        replace q1 := eq_true q1
        go_upto_region 7 with (fail)
        obtain ⟨W2, hW2⟩ : ∃ W2, W2 = wr.alloc (.cells #[.int .i64 y.f0.f0, .int .i64 y.f0.f1, .int .i64 y.f1.f0, .int .i64 y.f1.f1, .int .u32 y.f2, .int .u32 y.f3, .int .u32 y.f4, .int .u32 y.f5, .int .u32 y.f6, .int .u32 y.f7, .string y.f8, .string y.f9, .int .i64 y.f10, .bool y.f11, .bool y.f12] 35) := ⟨_, rfl⟩
        rw [← hW2]
        have hbx : W2.heap[wr.heap.size]? = some (.cells #[.int .i64 y.f0.f0, .int .i64 y.f0.f1, .int .i64 y.f1.f0, .int .i64 y.f1.f1, .int .u32 y.f2, .int .u32 y.f3, .int .u32 y.f4, .int .u32 y.f5, .int .u32 y.f6, .int .u32 y.f7, .string y.f8, .string y.f9, .int .i64 y.f10, .bool y.f11, .bool y.f12] 35 (0, 0)) := by rw [hW2]; exact heap_alloc_new wr _
        have hbw : Below wr.heap.size wr W2 := by rw [hW2]; exact below_alloc (Below.refl _ _) _
        have HB2 : Aside0 (Below w.heap.size w W2) := ⟨HE.out.1.trans (hbw.mono HE.out.1.size)⟩
        have HFs := Aside0.mk HE.out.2
        obtain ⟨B, hB⟩ : ∃ B, B = wr.heap.size := ⟨_, rfl⟩
        rw [← hB] at hbx ⊢
        have z0 : W2.cell? ⟨B, 0, none⟩ = some (.int .i64 y.f0.f0) := cell_of hbx 0 rfl; have z1 : W2.cell? ⟨B, 1, none⟩ = some (.int .i64 y.f0.f1) := cell_of hbx 1 rfl; have z2 : W2.cell? ⟨B, 2, none⟩ = some (.int .i64 y.f1.f0) := cell_of hbx 2 rfl; have z3 : W2.cell? ⟨B, 3, none⟩ = some (.int .i64 y.f1.f1) := cell_of hbx 3 rfl; have z4 : W2.cell? ⟨B, 4, none⟩ = some (.int .u32 y.f2) := cell_of hbx 4 rfl; have z5 : W2.cell? ⟨B, 5, none⟩ = some (.int .u32 y.f3) := cell_of hbx 5 rfl; have z6 : W2.cell? ⟨B, 6, none⟩ = some (.int .u32 y.f4) := cell_of hbx 6 rfl; have z7 : W2.cell? ⟨B, 7, none⟩ = some (.int .u32 y.f5) := cell_of hbx 7 rfl; have z8 : W2.cell? ⟨B, 8, none⟩ = some (.int .u32 y.f6) := cell_of hbx 8 rfl; have z9 : W2.cell? ⟨B, 9, none⟩ = some (.int .u32 y.f7) := cell_of hbx 9 rfl; have z10 : W2.cell? ⟨B, 10, none⟩ = some (.string y.f8) := cell_of hbx 10 rfl; have z11 : W2.cell? ⟨B, 11, none⟩ = some (.string y.f9) := cell_of hbx 11 rfl; have z12 : W2.cell? ⟨B, 12, none⟩ = some (.int .i64 y.f10) := cell_of hbx 12 rfl; have z13 : W2.cell? ⟨B, 13, none⟩ = some (.bool y.f11) := cell_of hbx 13 rfl; have z14 : W2.cell? ⟨B, 14, none⟩ = some (.bool y.f12) := cell_of hbx 14 rfl
        have HC3 : Aside0 (Calls Tryz.prog 13 #[.agg #[.int .i64 y.f0.f0, .int .i64 y.f0.f1, .int .i64 y.f1.f0, .int .i64 y.f1.f1, .int .u32 y.f2, .int .u32 y.f3, .int .u32 y.f4, .int .u32 y.f5, .int .u32 y.f6, .int .u32 y.f7, .string y.f8, .string y.f9, .int .i64 y.f10, .bool y.f11, .bool y.f12]] W2 fun e w' => ∃ g c L, e = .returned (.slice (some ⟨g, 0, none⟩) L.length c) ∧ OwnB W2 w' (.slice (some ⟨g, 0, none⟩) L.length c) L ∧ FileB L y.f9.size) := ⟨by
          obtain ⟨ku, U, h1, h2, h3⟩ := unhex_all y.f8 HYm.out.hash
          exact fileBytes_calls h1 h2 h3 HYm.out.name0 HYm.out.name1 HYm.out.st0 HYm.out.st3⟩
        clear hW2 hbx hbw hB hx0 hx1 hx2 hx3 hx4 hx5 hx6 hx7 hx8 hx9 hx10 hx11 hx12 hx13 hx14 HE
        have hw60 : wrap64 (at_ + 60) = at_ + 60 := by unfold wrap64; omega
        have hw61 : wrap64 (at_ + 61) = at_ + 61 := by unfold wrap64; omega
        by_cases c60 : k = at_ + 60
        · have d60 : decide (k = at_ + 60) = true := decide_eq_true c60
          have b60 : (k == at_ + 60) = true := beq_iff_eq.2 c60
          clear c60
          go_wp2_with fail
          go_ret
          exact ⟨_, rfl, HB2.out, Fixed.no _ _⟩
        have d60 : decide (k = at_ + 60) = false := decide_eq_false c60
        have b60 : (k == at_ + 60) = false := beq_eq_false_iff_ne.2 c60
        by_cases c61 : k = at_ + 61
        · have d61 : decide (k = at_ + 61) = true := decide_eq_true c61
          have b61 : (k == at_ + 61) = true := beq_iff_eq.2 c61
          clear c61
          go_wp2_with fail
          go_ret
          exact ⟨_, rfl, HB2.out, Fixed.no _ _⟩
        have d61 : decide (k = at_ + 61) = false := decide_eq_false c61
        have b61 : (k == at_ + 61) = false := beq_eq_false_iff_ne.2 c61
        have HFs2 : Aside0 (∀ a, a < i + 1 → k ≠ (posS (lensOf l0) a : Int) + 60 ∧ k ≠ (posS (lensOf l0) a : Int) + 61) := ⟨fun a ha => by
          rcases Nat.lt_or_ge a i with h | h
          · exact HFs.out a h
          · obtain rfl : a = i := by omega
            rw [← HXI.out.2]; exact ⟨c60, c61⟩⟩
        have dn : decide (4095 ≤ (y.f9.size : Int)) = false := decide_eq_false (by have := HYm.out.name1; omega)
        have dn' : decide (4095 ≤ y.f9.size) = false := decide_eq_false (by have := HYm.out.name1; omega)
        clear c60 c61
        go_wp2_with (first | (go_at_call 13; refine HC3.out.mono ?_; rintro e w3 ⟨g3, q3, L, rfl, ho3, hf3⟩; have HO3 := Aside0.mk ho3; have HF3 := Aside0.mk hf3; clear ho3 hf3))
        have hLl : L.length ≤ 4070 := by
          have h1 := HF3.out.len
          have h2 := HF3.out.small
          have h3 : pad y.f9.size ≤ 8 := by unfold pad; omega
          omega
        have HAt : Aside0 (at_ + (L.length : Int) = (posS (lensOf l0) (i + 1) : Int)) := ⟨by rw [posS_succ HLi.out, HXI.out.2, HF3.out.len]; omega⟩
        have hwA : wrap64 (at_ + (L.length : Int)) = at_ + (L.length : Int) := by unfold wrap64; omega
        have hwX : wrap64 (x + 1) = x + 1 := by have := HXI.out.1; have := HL.out; unfold wrap64; omega
        go_roundg (gk - 1)
        case measure => omega
        case rel => exact ⟨i + 1, x + 1, at_ + (L.length : Int), by omega, by first | rfl | rw [hwX], by first | rfl | rw [hwA], ⟨by have := HXI.out.1; omega, HAt.out⟩, ⟨HB2.out.trans (HO3.out.below.mono HB2.out.size), HFs2.out⟩⟩
      · obtain rfl : i = n := by omega
        have q1 : ¬ (x < (i : Int)) := by have := HXI.out.1; omega
        have d1 : decide (x < (i : Int)) = false := decide_eq_false q1
        go_wp2_with fail
        go_ret
        exact ⟨_, rfl, HE.out.1, true, rfl, fun _ => ⟨HMid.out, fun a ha => HE.out.2 a (by unfold lensOf at ha; rw [List.length_map] at ha; have := HL.out; omega)⟩⟩
end Go.Proofs.YtllikhbafaohgaaGreatDoor.Idx
