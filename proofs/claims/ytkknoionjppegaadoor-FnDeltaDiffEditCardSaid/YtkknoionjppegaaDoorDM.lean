/- The index of a text is made. -/
import Derived.Test.YtkknoionjppegaaDoorDL
namespace Go.Proofs.YtkknoionjppegaaDoor.Delta
open Go.RowKit Go.Proofs.YtkknoionjppegaaDoorW.PrintWords Go.Proofs.YtkknoionjppegaaDoorW.PrintLast Go.Proofs.YtkknoionjppegaaDoorW.PrintMore

/-- An index that is made. -/
structure IdxAt (w : World) (ix tb ie sz mk C : Nat) (T IE : List Nat) : Prop where
  S : w.heap[ix]? = some (.cells #[.slice (some ⟨tb, 0, none⟩) sz sz, .slice (some ⟨ie, 0, none⟩) (C + 1) (C + 1), .int .i64 mk] 45 (0, 0))
  rt : IRow w tb T
  lt : T.length = sz
  le : ∀ j, T.getD j 0 ≤ C
  ri : IRow w ie IE
  li : IE.length = C + 1
  hm : mk + 1 = sz
  hs : sz ≤ 65536
theorem IdxAt.keep {w w' : World} {ix tb ie sz mk C : Nat} {T IE : List Nat} {F : Nat → Prop} (h : IdxAt w ix tb ie sz mk C T IE) (k : Keep w w' F) (h1 : ¬ F ix) (h2 : ¬ F tb) (h3 : ¬ F ie) : IdxAt w' ix tb ie sz mk C T IE :=
  ⟨(k.block ix (lt_of_block h.S) h1).trans h.S, h.rt.keep k h2, h.lt, h.le, h.ri.keep k h3, h.li, h.hm, h.hs⟩
theorem getD_ge (T : List Nat) (j : Nat) (h : T.length ≤ j) : T.getD j 0 = 0 := by simp [List.getD_eq_getElem?_getD, List.getElem?_eq_none h]
theorem Scan.keep {w w' : World} {sc tb en nx sz m mk cnt : Nat} {T E N : List Nat} {F : Nat → Prop} (h : Scan w sc tb en nx sz m mk cnt T E N) (k : Keep w w' F) (h1 : ¬ F sc) (h2 : ¬ F tb) (h3 : ¬ F en) (h4 : ¬ F nx) : Scan w' sc tb en nx sz m mk cnt T E N :=
  ⟨(k.block sc (lt_of_block h.S) h1).trans h.S, h.rt.keep k h2, h.re.keep k h3, h.rn.keep k h4, h.lt, h.le, h.ln, h.d1, h.d2⟩
set_option maxHeartbeats 8000000 in
set_option maxRecDepth 100000 in
theorem init_calls (A T0 : Addr) (n c ix : Nat) (xs : List Int) (w : World) (hix : w.heap[ix]? = some (.cells #[.slice none 0 0, .slice none 0 0, .int .i64 0] 45 (0, 0))) (hn16 : 16 ≤ n) (hnc : n ≤ c) (hn2 : n ≤ 1000000) (hR : Rd w (some A) n xs) (hx : ∀ x ∈ xs, 0 ≤ x ∧ x < 256) (hT : Tab w T0) (hL : LTab w) (hA : A.block < w.heap.size) (hT0 : T0.block < w.heap.size) :
    Calls Tryd.prog 22 #[.pointer (some ⟨ix, 0, none⟩), .slice (some A) n c] w fun e w' => e = .returned (.tuple #[]) ∧ ∃ tb ie sz mk C T IE, IdxAt w' ix tb ie sz mk C T IE ∧ w.heap.size ≤ tb ∧ w.heap.size ≤ ie ∧ Keep w w' (fun k => k = ix) := by
  have HN := Lib.hid (newScanner_calls A T0 n c xs w hn16 hnc hn2 hR hx hT hL hA hT0)
  have HI := Lib.hid hix
  have hixl := lt_of_block hix
  clear hix hnc hR hx hT hL hA hT0
  go_enter Tryd.func22, Tryd.ntmps22
  go_wp2_with (go_at_call 37; refine HN.out.mono ?_; rintro e w1 ⟨sc, tb, en, nx, sz, m, mk, cnt, T, E, N, rfl, hS, hG, hcm, hm6, hmk, hsz, l1, l2, l3, l4, hb⟩; have HS := Lib.hid hS; have HG := Lib.hid hG; have HB := Lib.hid (⟨hcm, hm6, hmk, hsz, l1, l2, l3, l4, hb⟩ : cnt < m ∧ m ≤ 1000000 ∧ mk + 1 = sz ∧ sz ≤ 65536 ∧ w.heap.size ≤ sc ∧ w.heap.size ≤ tb ∧ w.heap.size ≤ en ∧ w.heap.size ≤ nx ∧ Below w.heap.size w w1); clear hS hG hcm hm6 hmk hsz l1 l2 l3 l4 hb; refine Hid.out ?_)
  have HI1 : Hid (w1.heap[ix]? = some (.cells #[.slice none 0 0, .slice none 0 0, .int .i64 0] 45 (0, 0))) := Lib.hid ((HB.out.2.2.2.2.2.2.2.2.block ix hixl).trans HI.out)
  have c3 := cell_of HS.out.S 3 (u := .int .i64 mk) rfl
  have c0 := cell_of HS.out.S 0 (u := .slice (some ⟨tb, 0, none⟩) sz sz) rfl
  have x0 := cell_of HI1.out 0 (u := .slice none 0 0) rfl
  have x2 := cell_of HI1.out 2 (u := .int .i64 0) rfl
  have f0 := frozen_of HI1.out 0
  have f2 := frozen_of HI1.out 2
  have hne : Hid (ix ≠ sc ∧ ix ≠ tb ∧ ix ≠ en ∧ ix ≠ nx) := Lib.hid (by have := HB.out; omega)
  have hs1 : ¬ sc = ix := fun e => hne.out.1 e.symm
  refine Lib.hid ?_
  go_upto_region 3 with fail
  obtain ⟨W2, hW2⟩ : ∃ W2, W2 = (w1.setCell ⟨ix, 2, none⟩ (.int .i64 (mk : Nat))).setCell ⟨ix, 0, none⟩ (.slice (some ⟨tb, 0, none⟩) sz sz) := ⟨_, rfl⟩
  have HI2 : Hid (W2.heap[ix]? = some (.cells #[.slice (some ⟨tb, 0, none⟩) sz sz, .slice none 0 0, .int .i64 mk] 45 (0, 0))) := Lib.hid (by rw [hW2]; exact Lib.heap_setCell_same (i := 0) (Lib.heap_setCell_same (i := 2) HI1.out _) _)
  have HK12 : Hid (Keep w1 W2 (fun k => k = ix)) := Lib.hid (by rw [hW2]; exact ((Keep.refl w1 (fun k => k = ix)).setCell (a := ⟨ix, 2, none⟩) (.inl rfl) _).setCell (a := ⟨ix, 0, none⟩) (.inl rfl) _)
  rw [← hW2]
  clear hW2 c3 c0 x0 x2 f0 f2 hs1
  have HS2 : Hid (Scan W2 sc tb en nx sz m mk cnt T E N) := Lib.hid (HS.out.keep HK12.out (fun e => hne.out.1 e.symm) (fun e => hne.out.2.1 e.symm) (fun e => hne.out.2.2.1 e.symm) (fun e => hne.out.2.2.2 e.symm))
  have HCt := Lib.hid (count_calls sc tb en nx sz m mk cnt T E N W2 HS2.out HG.out HB.out.1 HB.out.2.2.2.1 (by have := HB.out.2.1; omega))
  go_wp2_with (go_at_call 38; refine HCt.out.mono ?_; rintro e w3 ⟨C, rfl, hC⟩; have HC := Lib.hid hC; clear hC; refine Hid.out ?_)
  obtain ⟨-, hCb, N', hTot, hS3, hG3, hK3⟩ := HC.out
  have hCb2 : C ≤ 5000000 := by have := HB.out.2.2.2.1; omega
  have hmk2 : ∀ W : World, (Instr.makeSlice 43 (.int .i64 ((C : Int) + 1)) (.int .i64 ((C : Int) + 1))).run Tryd.prog W = .ok (.slice (some ⟨W.heap.size, 0, none⟩) (C + 1) (C + 1)) (W.alloc (.cells (Array.replicate (C + 1) (.int .i64 0)) 3)) := fun W => make_ints W _ (C + 1) (by omega) (by omega)
  have HI3 : Hid (w3.heap[ix]? = some (.cells #[.slice (some ⟨tb, 0, none⟩) sz sz, .slice none 0 0, .int .i64 mk] 45 (0, 0))) := Lib.hid ((hK3.block ix (lt_of_block HI2.out) hne.out.2.2.2).trans HI2.out)
  have HR3 := Lib.hid (⟨hTot, hS3, hG3, hK3⟩ : total N' (T.take sz) ≤ C ∧ Scan w3 sc tb en nx sz m mk cnt T E N' ∧ Good T N' cnt ∧ Keep W2 w3 (fun k => k = nx))
  have y1 := cell_of HI3.out 1 (u := .slice none 0 0) rfl
  have g1 := frozen_of HI3.out 1
  have hix3 := lt_of_block HI3.out
  have y1a : ∀ o, (w3.alloc o).cell? ⟨ix, 1, none⟩ = some (.slice none 0 0) := fun o => (World.cell?_of_block (a := ⟨ix, 1, none⟩) (Below.heap_alloc w3 o ix hix3)).trans y1
  have g1a : ∀ o, (w3.alloc o).frozen? ⟨ix, 1, none⟩ = false := fun o => (World.frozen?_of_block (a := ⟨ix, 1, none⟩) (Below.heap_alloc w3 o ix hix3)).trans g1
  clear HC hCb hTot hS3 hG3 hK3
  refine Lib.hid ?_
  go_wp2_with fail
  obtain ⟨W4, hW4⟩ : ∃ W4, W4 = (w3.setCell ⟨ix, 1, none⟩ (.slice (some ⟨w3.heap.size, 0, none⟩) (C + 1) (C + 1))).alloc (.cells (Array.replicate (C + 1) (.int .i64 0)) 3) := ⟨_, rfl⟩
  have hszc : (w3.setCell ⟨ix, 1, none⟩ (.slice (some ⟨w3.heap.size, 0, none⟩) (C + 1) (C + 1))).heap.size = w3.heap.size := by simp [World.setCell]
  have HK34 : Hid (Keep w3 W4 (fun k => k = ix)) := Lib.hid (by rw [hW4]; exact ((Keep.refl w3 (fun k => k = ix)).setCell (a := ⟨ix, 1, none⟩) (.inl rfl) _).alloc _)
  have HI4 : Hid (W4.heap[ix]? = some (.cells #[.slice (some ⟨tb, 0, none⟩) sz sz, .slice (some ⟨w3.heap.size, 0, none⟩) (C + 1) (C + 1), .int .i64 mk] 45 (0, 0))) := Lib.hid (by rw [hW4]; exact alloc_old (Lib.heap_setCell_same (i := 1) HI3.out _) _)
  have HZ4 : Hid (W4.heap[w3.heap.size]? = some (.cells (Array.replicate (C + 1) (.int .i64 0)) 3 (0, 0))) := Lib.hid (by
    rw [hW4]
    have h := heap_alloc_new (w3.setCell ⟨ix, 1, none⟩ (.slice (some ⟨w3.heap.size, 0, none⟩) (C + 1) (C + 1))) (.cells (Array.replicate (C + 1) (.int .i64 0)) 3)
    rw [hszc] at h
    exact h)
  rw [← hW4]
  clear hW4 hszc y1 g1 y1a g1a hmk2
  have HS4 : Hid (Scan W4 sc tb en nx sz m mk cnt T E N') := Lib.hid (HR3.out.2.1.keep HK34.out (fun e => hne.out.1 e.symm) (fun e => hne.out.2.1 e.symm) (fun e => hne.out.2.2.1 e.symm) (fun e => hne.out.2.2.2 e.symm))
  have HCp : Hid (Cpy W4 ix sc tb en nx w3.heap.size sz m mk cnt C T E N' (List.replicate (C + 1) 0)) := Lib.hid (by
    have s1 := lt_of_block HR3.out.2.1.S
    have s2 := lt_of_block HR3.out.2.1.rt
    have s3 := lt_of_block HR3.out.2.1.re
    have s4 := lt_of_block HR3.out.2.1.rn
    exact ⟨HS4.out, HI4.out, IRow.zeros HZ4.out, by simp, ⟨hne.out.1, hne.out.2.1, hne.out.2.2.1, hne.out.2.2.2, by omega⟩, by omega, by omega, by omega, by omega⟩)
  have HTot : Hid (total N' T ≤ C) := Lib.hid (by have h := HR3.out.1; rwa [List.take_of_length_le (by rw [HS4.out.lt]; exact Nat.le_refl _)] at h)
  have HCc := Lib.hid (copy_calls ix sc tb en nx w3.heap.size sz m mk cnt C T E N' (List.replicate (C + 1) 0) W4 HCp.out HR3.out.2.2.1 HTot.out HB.out.1 HB.out.2.2.2.1 (by have := HB.out.2.1; omega) (by omega))
  go_wp2_with (go_at_call 39; refine HCc.out.mono ?_; rintro e w5 ⟨rfl, nxt, hC⟩; have HC := Lib.hid hC; clear hC)
  go_end0
  obtain ⟨-, -, T5, IE5, -, hT5, hC5, hK5⟩ := HC.out
  obtain ⟨-, -, hmk, hsz, -, l2, -, l4, hb⟩ := HB.out
  have k4 := HK34.out.size
  have k2 := HK12.out.size
  have k3 := HR3.out.2.2.2.size
  have k1 := hb.size
  refine ⟨rfl, tb, w3.heap.size, sz, mk, C, T5, IE5, ⟨hC5.ixs, hC5.scan.rt, hC5.scan.lt, fun j => ?_, hC5.ri, hC5.li, hmk, hsz⟩, l2, by omega, ?_⟩
  · rcases Nat.lt_or_ge j sz with h | h
    · exact hT5 j h
    · rw [getD_ge _ _ (by rw [hC5.scan.lt]; exact h)]; exact Nat.zero_le _
  · refine ((((Keep.of_below hb (fun k => k = ix)).trans HK12.out (fun _ _ h => h)).trans HR3.out.2.2.2 (fun j hj h => ?_)).trans HK34.out (fun _ _ h => h)).trans hK5 (fun j hj h => ?_)
    · omega
    · omega
end Go.Proofs.YtkknoionjppegaaDoor.Delta
