/- The index of a short text; the buffers of a pool that is none. -/
import Derived.Test.YtkknoionjppegaaDoorDN
import Derived.Test.YtkknoionjppegaaDoorDO
namespace Go.Proofs.YtkknoionjppegaaDoor.Delta
open Go.RowKit Go.Proofs.YtkknoionjppegaaDoorW.PrintWords Go.Proofs.YtkknoionjppegaaDoorW.PrintLast Go.Proofs.YtkknoionjppegaaDoorW.PrintMore Go.Proofs.YtkknoionjppegaaDoor.PFnDeltaDiffRead

set_option maxHeartbeats 1600000 in
set_option maxRecDepth 100000 in
theorem get_calls (w : World) : Calls Tryd.prog 18 #[] w fun e w' => e = .returned (.pointer (some ⟨w.heap.size, 0, none⟩)) ∧ w' = w.alloc (.cells #[.slice none 0 0, .int .i64 0, .int .i8 0] 50) := by
  go_enter Tryd.func18, Tryd.ntmps18
  go_wp2_with fail
  go_ret
  exact ⟨rfl, rfl⟩
set_option maxHeartbeats 1600000 in
set_option maxRecDepth 100000 in
theorem put_calls (v : Value) (w : World) : Calls Tryd.prog 19 #[v] w fun e w' => e = .returned (.tuple #[]) ∧ w = w' := by
  go_enter Tryd.func19, Tryd.ntmps19
  go_wp2_with fail
  first | go_end0 | ((try simp only [Exit.inBlock, Exit.then]); refine bodyPost_ret (results_none rfl _ _ _) rfl ?_)
  exact ⟨rfl, rfl⟩
set_option maxHeartbeats 1600000 in
set_option maxRecDepth 100000 in
theorem newScanner_small (A : Addr) (n c : Nat) (w : World) (hn : n < 16) :
    Calls Tryd.prog 37 #[.slice (some A) n c, .int .i64 n] w fun e w' => e = .returned (.pointer (some ⟨w.heap.size, 0, none⟩)) ∧ w' = w.alloc (.cells #[.slice none 0 0, .slice none 0 0, .slice none 0 0, .int .i64 0, .int .i64 0] 78) := by
  have E1 : Hid (((n : Int) - (n : Int) % 16) / 16 = 0 ∧ (n : Int) - (n : Int) % 16 = 0) := Lib.hid ⟨by omega, by omega⟩
  go_enter Tryd.func37, Tryd.ntmps37
  go_wp2_with fail
  go_ret
  exact ⟨rfl, rfl⟩
set_option maxHeartbeats 1600000 in
set_option maxRecDepth 100000 in
theorem count_small (sc : Nat) (w : World) (h : w.cell? ⟨sc, 0, none⟩ = some (.slice none 0 0)) : Calls Tryd.prog 38 #[.pointer (some ⟨sc, 0, none⟩)] w fun e w' => e = .returned (.int .i64 0) ∧ w = w' := by
  go_enter Tryd.func38, Tryd.ntmps38
  go_wp2_with fail
  go_loopg [2, 3] 0 (fun gq v2 v3 w' => v2 = .int .i64 0 ∧ v3 = .int .i64 0 ∧ w' = w)
  case atStart => exact ⟨rfl, rfl, rfl⟩
  case round =>
    obtain ⟨rfl, rfl, rfl⟩ := hrel
    go_wp2_with fail
    go_ret
    exact ⟨rfl, rfl⟩
set_option maxHeartbeats 1600000 in
set_option maxRecDepth 100000 in
theorem copy_small (ix : Nat) (v : Value) (w : World) (h : w.cell? ⟨ix, 0, none⟩ = some (.slice none 0 0)) : Calls Tryd.prog 39 #[.pointer (some ⟨ix, 0, none⟩), v] w fun e w' => e = .returned (.tuple #[]) ∧ w = w' := by
  go_enter Tryd.func39, Tryd.ntmps39
  go_wp2_with fail
  go_loopg [4, 5] 0 (fun gq v4 v5 w' => v4 = .int .i64 1 ∧ v5 = .int .i64 0 ∧ w' = w)
  case atStart => exact ⟨rfl, rfl, rfl⟩
  case round =>
    obtain ⟨rfl, rfl, rfl⟩ := hrel
    go_wp2_with fail
    go_end0
    exact ⟨rfl, rfl⟩
set_option maxHeartbeats 8000000 in
set_option maxRecDepth 100000 in
theorem init_small (A : Addr) (n c ix : Nat) (w : World) (hix : w.heap[ix]? = some (.cells #[.slice none 0 0, .slice none 0 0, .int .i64 0] 45 (0, 0))) (hn : n < 16) :
    Calls Tryd.prog 22 #[.pointer (some ⟨ix, 0, none⟩), .slice (some A) n c] w fun e w' => e = .returned (.tuple #[]) ∧ Keep w w' (fun k => k = ix) := by
  have hixl := lt_of_block hix
  have HN := Lib.hid (newScanner_small A n c w hn)
  have HI := Lib.hid hix
  clear hix
  go_enter Tryd.func22, Tryd.ntmps22
  go_wp2_with (go_at_call 37; refine HN.out.mono ?_; rintro e w1 ⟨rfl, hw1⟩; have HW1 := Lib.hid hw1; clear hw1; refine Hid.out ?_)
  obtain ⟨sc, hsc⟩ : ∃ sc, sc = w.heap.size := ⟨_, rfl⟩
  have HS1 : Hid (w1.heap[sc]? = some (.cells #[.slice none 0 0, .slice none 0 0, .slice none 0 0, .int .i64 0, .int .i64 0] 78 (0, 0))) := Lib.hid (by rw [HW1.out, hsc]; exact heap_alloc_new w _)
  have HI1 : Hid (w1.heap[ix]? = some (.cells #[.slice none 0 0, .slice none 0 0, .int .i64 0] 45 (0, 0))) := Lib.hid (by rw [HW1.out]; exact alloc_old HI.out _)
  have HK1 : Hid (Keep w w1 (fun k => k = ix)) := Lib.hid (by rw [HW1.out]; exact (Keep.refl w _).alloc _)
  have hne : ¬ sc = ix := by omega
  rw [← hsc]
  have c3 := cell_of HS1.out 3 (u := .int .i64 0) rfl
  have c0 := cell_of HS1.out 0 (u := .slice none 0 0) rfl
  have x0 := cell_of HI1.out 0 (u := .slice none 0 0) rfl
  have x1 := cell_of HI1.out 1 (u := .slice none 0 0) rfl
  have x2 := cell_of HI1.out 2 (u := .int .i64 0) rfl
  have f0 := frozen_of HI1.out 0
  have f2 := frozen_of HI1.out 2
  clear hsc hixl
  refine Lib.hid ?_
  go_upto_region 3 with fail
  obtain ⟨W2, hW2⟩ : ∃ W2, W2 = (w1.setCell ⟨ix, 2, none⟩ (.int .i64 0)).setCell ⟨ix, 0, none⟩ (.slice none 0 0) := ⟨_, rfl⟩
  have HI2 : Hid (W2.heap[ix]? = some (.cells #[.slice none 0 0, .slice none 0 0, .int .i64 0] 45 (0, 0))) := Lib.hid (by rw [hW2]; exact Lib.heap_setCell_same (i := 0) (Lib.heap_setCell_same (i := 2) HI1.out _) _)
  have HK12 : Hid (Keep w1 W2 (fun k => k = ix)) := Lib.hid (by rw [hW2]; exact ((Keep.refl w1 (fun k => k = ix)).setCell (a := ⟨ix, 2, none⟩) (.inl rfl) _).setCell (a := ⟨ix, 0, none⟩) (.inl rfl) _)
  rw [← hW2]
  clear hW2 c3 c0 x0 x1 x2 f0 f2
  have HS2 : Hid (W2.heap[sc]? = some (.cells #[.slice none 0 0, .slice none 0 0, .slice none 0 0, .int .i64 0, .int .i64 0] 78 (0, 0))) := Lib.hid ((HK12.out.block sc (lt_of_block HS1.out) hne).trans HS1.out)
  have HC := Lib.hid (count_small sc W2 (cell_of HS2.out 0 rfl))
  have hmk2 : ∀ W : World, (Instr.makeSlice 43 (.int .i64 1) (.int .i64 1)).run Tryd.prog W = .ok (.slice (some ⟨W.heap.size, 0, none⟩) 1 1) (W.alloc (.cells (Array.replicate 1 (.int .i64 0)) 3)) := fun W => make_ints W 1 1 rfl (by omega)
  have y1 := cell_of HI2.out 1 (u := .slice none 0 0) rfl
  have g1 := frozen_of HI2.out 1
  have hix3 := lt_of_block HI2.out
  have y1a : ∀ o, (W2.alloc o).cell? ⟨ix, 1, none⟩ = some (.slice none 0 0) := fun o => (World.cell?_of_block (a := ⟨ix, 1, none⟩) (Below.heap_alloc W2 o ix hix3)).trans y1
  have g1a : ∀ o, (W2.alloc o).frozen? ⟨ix, 1, none⟩ = false := fun o => (World.frozen?_of_block (a := ⟨ix, 1, none⟩) (Below.heap_alloc W2 o ix hix3)).trans g1
  go_wp2_with (go_at_call 38; refine HC.out.mono ?_; rintro e w3 ⟨rfl, rfl⟩; refine Hid.out ?_)
  refine Lib.hid ?_
  go_wp2_with fail
  obtain ⟨W4, hW4⟩ : ∃ W4, W4 = (W2.setCell ⟨ix, 1, none⟩ (.slice (some ⟨W2.heap.size, 0, none⟩) 1 1)).alloc (.cells (Array.replicate 1 (.int .i64 0)) 3) := ⟨_, rfl⟩
  have HK34 : Hid (Keep W2 W4 (fun k => k = ix)) := Lib.hid (by rw [hW4]; exact ((Keep.refl W2 (fun k => k = ix)).setCell (a := ⟨ix, 1, none⟩) (.inl rfl) _).alloc _)
  have HI4 : Hid (W4.heap[ix]? = some (.cells #[.slice none 0 0, .slice (some ⟨W2.heap.size, 0, none⟩) 1 1, .int .i64 0] 45 (0, 0))) := Lib.hid (by rw [hW4]; exact alloc_old (Lib.heap_setCell_same (i := 1) HI2.out _) _)
  first | rw [← hW4] | (rw [show (Array.replicate 1 (Value.int .i64 0)) = #[.int .i64 0] from rfl] at hW4; rw [← hW4])
  clear hW4 y1 g1 y1a g1a hmk2
  have HCp := Lib.hid (copy_small ix (.pointer (some ⟨sc, 0, none⟩)) W4 (cell_of HI4.out 0 rfl))
  go_wp2_with (go_at_call 39; refine HCp.out.mono ?_; rintro e w5 ⟨rfl, rfl⟩)
  go_end0
  exact ⟨rfl, (HK1.out.trans HK12.out (fun _ _ h => h)).trans HK34.out (fun _ _ h => h)⟩
end Go.Proofs.YtkknoionjppegaaDoor.Delta
