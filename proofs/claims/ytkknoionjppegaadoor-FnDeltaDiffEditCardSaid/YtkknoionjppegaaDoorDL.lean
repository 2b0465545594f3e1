/- A scanner is made. -/
import Derived.Test.YtkknoionjppegaaDoorDK
import Derived.RegionTactic
import Derived.BigRegion
import Derived.Outline
namespace Go.Proofs.YtkknoionjppegaaDoor.Delta
open Go.RowKit Go.Proofs.YtkknoionjppegaaDoorW.PrintWords Go.Proofs.YtkknoionjppegaaDoorW.PrintLast Go.Proofs.YtkknoionjppegaaDoorW.PrintMore

theorem info3 : (Tryd.prog.info? 3).map (fun i => (i.zero, i.size, i.bytes)) = some (some (.int .i64 0), 1, 8) := by kernel_rfl
theorem made_zeros (n : Nat) : madeCells (Value.int .i64 0).cells n = Array.replicate n (.int .i64 0) := by
  apply Array.toList_inj.1
  rw [show (Value.int .i64 0).cells = #[.int .i64 0] from rfl, toList_madeCells_one]
  simp
theorem IRow.zeros {w : World} {g n : Nat} (h : w.heap[g]? = some (.cells (Array.replicate n (.int .i64 0)) 3 (0, 0))) : IRow w g (List.replicate n 0) := by
  unfold IRow
  rw [h]
  congr 2
  simp
theorem make_ints (W : World) (c : Int) (n : Nat) (hc : c = n) (hn : n ≤ 10000000) : (Instr.makeSlice 43 (.int .i64 c) (.int .i64 c)).run Tryd.prog W = .ok (.slice (some ⟨W.heap.size, 0, none⟩) n n) (W.alloc (.cells (Array.replicate n (.int .i64 0)) 3)) := by
  subst hc
  obtain ⟨i0, hi, hz0, hz1, hz2⟩ := info_parts info3
  have h := run_makeSlice (P := Tryd.prog) W 43 3 i0 (.int .i64 0) Tryd.underlying43 hi hz0 .i64 .i64 (n : Int) (n : Int) (by omega) (by omega) (by rw [hz1]; omega) (by rw [hz2]; omega) (by omega)
  rw [hz1, Nat.mul_one, Int.toNat_natCast, made_zeros] at h
  exact h
theorem good_zeros (a b : Nat) : Good (List.replicate a 0) (List.replicate b 0) 0 := by
  refine ⟨fun i => ?_, fun e he => ?_⟩
  · simp [List.getD_eq_getElem?_getD, List.getElem?_replicate]
    split <;> simp
  · simp [List.getD_eq_getElem?_getD, List.getElem?_replicate]
    split <;> simpa using he
/-- A scanner that is new. -/
def NewScan (w w' : World) (v : Value) (sz m mk : Nat) : Prop := ∃ sc tb en nx, v = .pointer (some ⟨sc, 0, none⟩) ∧ Scan w' sc tb en nx sz m mk 0 (List.replicate sz 0) (List.replicate m 0) (List.replicate m 0) ∧ w.heap.size ≤ sc ∧ w.heap.size ≤ tb ∧ w.heap.size ≤ en ∧ w.heap.size ≤ nx ∧ Below w.heap.size w w'
theorem alloc_old {w : World} {k : Nat} {x : Obj} (h : w.heap[k]? = some x) (o : Obj) : (w.alloc o).heap[k]? = some x := (Below.heap_alloc w o k (lt_of_block h)).trans h
theorem alloc_size (w : World) (o : Obj) : (w.alloc o).heap.size = w.heap.size + 1 := by show (w.heap.push o).size = _; simp
theorem four (w : World) (a b c d : Obj) : ((((w.alloc a).alloc b).alloc c).alloc d).heap[w.heap.size]? = some a ∧ ((((w.alloc a).alloc b).alloc c).alloc d).heap[w.heap.size + 1]? = some b ∧ ((((w.alloc a).alloc b).alloc c).alloc d).heap[w.heap.size + 1 + 1]? = some c ∧ ((((w.alloc a).alloc b).alloc c).alloc d).heap[w.heap.size + 1 + 1 + 1]? = some d ∧ Below w.heap.size w ((((w.alloc a).alloc b).alloc c).alloc d) := by
  refine ⟨?_, ?_, ?_, ?_, below_alloc (below_alloc (below_alloc (below_alloc (Below.refl _ _) _) _) _) _⟩
  · exact alloc_old (alloc_old (alloc_old (heap_alloc_new w a) b) c) d
  · have h := heap_alloc_new (w.alloc a) b
    rw [alloc_size] at h
    exact alloc_old (alloc_old h c) d
  · have h := heap_alloc_new ((w.alloc a).alloc b) c
    rw [alloc_size, alloc_size] at h
    exact alloc_old h d
  · have h := heap_alloc_new (((w.alloc a).alloc b).alloc c) d
    rw [alloc_size, alloc_size, alloc_size] at h
    exact h
theorem newScan_mk {w w' : World} {sc tb en nx sz m mk : Nat} {mi : Int} (hS : w'.heap[sc]? = some (.cells #[.slice (some ⟨tb, 0, none⟩) sz sz, .slice (some ⟨en, 0, none⟩) m m, .slice (some ⟨nx, 0, none⟩) m m, .int .i64 mi, .int .i64 0] 78 (0, 0))) (hm : mi = mk) (h1 : w'.heap[tb]? = some (.cells (Array.replicate sz (.int .i64 0)) 3 (0, 0))) (h2 : w'.heap[en]? = some (.cells (Array.replicate m (.int .i64 0)) 3 (0, 0))) (h3 : w'.heap[nx]? = some (.cells (Array.replicate m (.int .i64 0)) 3 (0, 0)))
    (d1 : sc ≠ tb ∧ sc ≠ en ∧ sc ≠ nx) (d2 : tb ≠ en ∧ tb ≠ nx ∧ en ≠ nx) (hl : w.heap.size ≤ sc ∧ w.heap.size ≤ tb ∧ w.heap.size ≤ en ∧ w.heap.size ≤ nx) (hb : Below w.heap.size w w') : NewScan w w'.drew (.pointer (some ⟨sc, 0, none⟩)) sz m mk := by
  subst hm
  exact ⟨sc, tb, en, nx, rfl, ⟨hS, IRow.zeros h1, IRow.zeros h2, IRow.zeros h3, by simp, by simp, by simp, d1, d2⟩, hl.1, hl.2.1, hl.2.2.1, hl.2.2.2, ⟨hb.os, hb.tape, hb.output, hb.size, hb.block⟩⟩
set_option maxHeartbeats 8000000 in
set_option maxRecDepth 100000 in
theorem newScanner_calls (A T0 : Addr) (n c : Nat) (xs : List Int) (w : World) (hn16 : 16 ≤ n) (hnc : n ≤ c) (hn2 : n ≤ 1000000) (hR : Rd w (some A) n xs) (hx : ∀ x ∈ xs, 0 ≤ x ∧ x < 256) (hT : Tab w T0) (hL : LTab w) (hA : A.block < w.heap.size) (hT0 : T0.block < w.heap.size) :
    Calls Tryd.prog 37 #[.slice (some A) n c, .int .i64 n] w fun e w' => ∃ sc tb en nx sz m mk cnt T E N, e = .returned (.pointer (some ⟨sc, 0, none⟩)) ∧ Scan w' sc tb en nx sz m mk cnt T E N ∧ Good T N cnt ∧ cnt < m ∧ m ≤ 1000000 ∧ mk + 1 = sz ∧ sz ≤ 65536 ∧ w.heap.size ≤ sc ∧ w.heap.size ≤ tb ∧ w.heap.size ≤ en ∧ w.heap.size ≤ nx ∧ Below w.heap.size w w' := by
  obtain ⟨nb, hwc⟩ : ∃ nb, nb = n / 16 := ⟨_, rfl⟩
  have h6 : 6 < w.heap.size := by
    obtain ⟨c, h, _⟩ := hT
    exact World.block_lt_of_cell? w _ h
  have E1 : Hid (((n : Int) - (n : Int) % 16) / 16 = (nb : Int) ∧ (n : Int) - (n : Int) % 16 = ((16 * nb : Nat) : Int)) := Lib.hid ⟨by omega, by omega⟩
  have hnb : 1 ≤ nb ∧ 16 * nb ≤ n ∧ nb < 65536 := by omega
  have HLs := Lib.hid (tableSize_calls nb w hL hnb.1 hnb.2.2)
  have HX := Lib.hid (⟨hR, hx, hT, hA, hT0, hnc, hnb, h6, hn2⟩ : Rd w (some A) n xs ∧ (∀ x ∈ xs, 0 ≤ x ∧ x < 256) ∧ Tab w T0 ∧ A.block < w.heap.size ∧ T0.block < w.heap.size ∧ n ≤ c ∧ (1 ≤ nb ∧ 16 * nb ≤ n ∧ nb < 65536) ∧ 6 < w.heap.size ∧ n ≤ 1000000)
  have hnb1 : nb < 65536 := hnb.2.2
  have hnb2 : 1 ≤ nb := hnb.1
  clear hR hx hT hL hA hT0 hnc hnb h6 hwc
  go_enter Tryd.func37, Tryd.ntmps37
  go_wp2_with fail
  rw [E1.out.1, E1.out.2]
  obtain ⟨tot, htot⟩ : ∃ tot : Nat, tot = 16 * nb := ⟨_, rfl⟩
  rw [← htot]
  have HTo := Lib.hid htot
  clear htot
  go_wp2_with (go_at_call 46; refine HLs.out.mono ?_; rintro e w1 ⟨⟨s, s1, s2, rfl⟩, rfl⟩; refine Hid.out ?_)
  obtain ⟨mk, hmk⟩ : ∃ mk, s = mk + 1 := ⟨s - 1, by omega⟩
  have HMK := Lib.hid hmk
  clear hmk
  refine Lib.hid ?_
  have hmk1 : ∀ W : World, (Instr.makeSlice 43 (.int .i64 (s : Int)) (.int .i64 (s : Int))).run Tryd.prog W = .ok (.slice (some ⟨W.heap.size, 0, none⟩) s s) (W.alloc (.cells (Array.replicate s (.int .i64 0)) 3)) := fun W => make_ints W _ s rfl (by omega)
  have hmk2 : ∀ W : World, (Instr.makeSlice 43 (.int .i64 ((nb : Int) + 1)) (.int .i64 ((nb : Int) + 1))).run Tryd.prog W = .ok (.slice (some ⟨W.heap.size, 0, none⟩) (nb + 1) (nb + 1)) (W.alloc (.cells (Array.replicate (nb + 1) (.int .i64 0)) 3)) := fun W => make_ints W _ (nb + 1) (by omega) (by omega)
  go_wp2_with fail
  go_cut [7] (fun s7 wx => NewScan w wx s7 s (nb + 1) mk)
  case first =>
    go_region
    all_goals (go_wp2_with fail; go_meet)
    all_goals
      have hmi : (s : Int) - 1 = (mk : Int) := by have := HMK.out; omega
      obtain ⟨q1, q2, q3, q4, q5⟩ := four w _ _ _ _
      first
        | exact newScan_mk q4 hmi q1 q2 q3 (by omega) (by omega) (by omega) q5
        | exact newScan_mk q4 hmi q1 q3 q2 (by omega) (by omega) (by omega) q5
        | exact newScan_mk q4 hmi q2 q1 q3 (by omega) (by omega) (by omega) q5
        | exact newScan_mk q4 hmi q2 q3 q1 (by omega) (by omega) (by omega) q5
        | exact newScan_mk q4 hmi q3 q1 q2 (by omega) (by omega) (by omega) q5
        | exact newScan_mk q4 hmi q3 q2 q1 (by omega) (by omega) (by omega) q5
  case rest =>
    obtain ⟨sc, tb, en, nx, rfl, hS, l1, l2, l3, l4, hb⟩ := hcut
    have hk := Keep.of_below hb (fun _ => False)
    have HW := Lib.hid (scan_calls A T0 n c nb sc tb en nx s (nb + 1) mk xs _ _ _ wc hS (good_zeros _ _) rfl HMK.out.symm s2 HX.out.2.2.2.2.2.2.1.1 HX.out.2.2.2.2.2.2.1.2.1 HX.out.2.2.2.2.2.1 (by omega) (HX.out.1.keep hk (fun _ _ h => h)) HX.out.2.1 (HX.out.2.2.1.keep hk (fun h => h) (fun h => h)) (by have := HX.out.2.2.2.1; omega) (by have := HX.out.2.2.2.2.1; omega) (by have := HX.out.2.2.2.2.2.2.2.1; omega))
    rw [← HTo.out] at HW
    have HBl := Lib.hid (⟨l1, l2, l3, l4, hb⟩ : w.heap.size ≤ sc ∧ w.heap.size ≤ tb ∧ w.heap.size ≤ en ∧ w.heap.size ≤ nx ∧ Below w.heap.size w wc)
    clear hk hS l1 l2 l3 l4 hb hmk1 hmk2
    go_wp2_with (go_at_call 47; refine HW.out.mono ?_; rintro e w2 ⟨rfl, cnt, T, E, N, h1, h2, h3, h4⟩; have HR := Lib.hid (⟨h1, h2, h3, h4⟩ : Scan w2 sc tb en nx s (nb + 1) mk cnt T E N ∧ Good T N cnt ∧ cnt ≤ nb ∧ Keep wc w2 (fun k => k = sc ∨ k = tb ∨ k = en ∨ k = nx)); clear h1 h2 h3 h4)
    go_ret
    obtain ⟨l1, l2, l3, l4, hb⟩ := HBl.out
    exact ⟨sc, tb, en, nx, s, nb + 1, mk, cnt, T, E, N, rfl, HR.out.1, HR.out.2.1, by have := HR.out.2.2.1; omega, by omega, HMK.out.symm, s2, l1, l2, l3, l4, hb.trans (HR.out.2.2.2.below (by rintro k (rfl | rfl | rfl | rfl) <;> assumption) hb.size)⟩
end Go.Proofs.YtkknoionjppegaaDoor.Delta
