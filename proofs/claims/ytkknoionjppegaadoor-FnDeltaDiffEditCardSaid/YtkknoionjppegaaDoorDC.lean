/- A bytes.Buffer grows: a new row is laid, and nothing but the buffer's own block has turned. -/
import Derived.Test.YtkknoionjppegaaDoorShelf
import Derived.Test.YtkknoionjppegaaDoorPFnDeltaDiffReadx0
import Derived.Shelf.RegionOpenPlain
import Derived.Lib.ByteType
import Derived.Lib.BufferOwn
import Derived.Lib.Walk
import Derived.Lib.Buffer
import Derived.Lib.BufferMore
import Derived.Lib.BufferGrow
import Derived.Lib.Hide
import Derived.Laws.MakeOwn
import Derived.WalkKit
import Derived.RegionTactic
import Derived.Deep.RegionWith
import Derived.Deep.Draws
import Derived.BigCall
import Derived.BigGuard
namespace Go.Proofs.YtkknoionjppegaaDoor.Delta
open Go.RowKit Go.Proofs.YtkknoionjppegaaDoorW.PrintWords Go.Proofs.YtkknoionjppegaaDoorW.PrintLast Go.Proofs.YtkknoionjppegaaDoorW.PrintMore

/-- Nothing but the blocks of F has turned. -/
structure Keep (w w' : World) (F : Nat → Prop) : Prop where
  os : w'.os = w.os
  tape : w'.tape = w.tape
  output : w'.output = w.output
  size : w.heap.size ≤ w'.heap.size
  block : ∀ k, k < w.heap.size → ¬ F k → w'.heap[k]? = w.heap[k]?
theorem Keep.of_below {w w' : World} (h : Below w.heap.size w w') (F : Nat → Prop) : Keep w w' F := ⟨h.os, h.tape, h.output, h.size, fun k hk _ => h.block k hk⟩
theorem Keep.below {w w' : World} {F : Nat → Prop} {B : Nat} (h : Keep w w' F) (hF : ∀ k, F k → B ≤ k) (hB : B ≤ w.heap.size) : Below B w w' := ⟨h.os, h.tape, h.output, h.size, fun k hk => h.block k (by omega) (fun hf => by have := hF k hf; omega)⟩
theorem Keep.refl (w : World) (F : Nat → Prop) : Keep w w F := ⟨rfl, rfl, rfl, Nat.le_refl _, fun _ _ _ => rfl⟩
theorem Keep.mono {w w' : World} {F G : Nat → Prop} (h : Keep w w' F) (hFG : ∀ k, F k → G k) : Keep w w' G := ⟨h.os, h.tape, h.output, h.size, fun k hk hn => h.block k hk (fun hf => hn (hFG k hf))⟩
theorem Keep.trans {w w1 w2 : World} {F G : Nat → Prop} (h : Keep w w1 F) (h' : Keep w1 w2 G) (hG : ∀ k, k < w.heap.size → G k → F k) : Keep w w2 F :=
  ⟨h'.os.trans h.os, h'.tape.trans h.tape, h'.output.trans h.output, Nat.le_trans h.size h'.size, fun k hk hn => (h'.block k (Nat.lt_of_lt_of_le hk h.size) (fun hg => hn (hG k hk hg))).trans (h.block k hk hn)⟩
theorem Keep.setCell {w w1 : World} {F : Nat → Prop} (h : Keep w w1 F) {a : Addr} (ha : F a.block ∨ w.heap.size ≤ a.block) (u : Value) : Keep w (w1.setCell a u) F :=
  ⟨h.os, h.tape, h.output, by simpa [World.setCell] using h.size, fun k hk hn => (Below.heap_setCell w1 a u k (by rintro rfl; rcases ha with h | h; exact hn h; omega)).trans (h.block k hk hn)⟩
theorem Keep.setRow {w w1 : World} {F : Nat → Prop} (h : Keep w w1 F) {g : Nat} (ha : F g ∨ w.heap.size ≤ g) (cs : Array Value) : Keep w (w1.setRow g cs) F :=
  ⟨h.os, h.tape, h.output, by simpa [World.setRow] using h.size, fun k hk hn => (setRow_other w1 g k cs (by rintro rfl; rcases ha with h | h; exact hn h; omega)).trans (h.block k hk hn)⟩
theorem Keep.drewN {w w1 : World} {F : Nat → Prop} (h : Keep w w1 F) (n : Nat) : Keep w (w1.drewN n) F := ⟨h.os, h.tape, h.output, h.size, h.block⟩
theorem Keep.alloc {w w1 : World} {F : Nat → Prop} (h : Keep w w1 F) (o : Obj) : Keep w (w1.alloc o) F :=
  ⟨h.os, h.tape, h.output, Nat.le_trans h.size (by show w1.heap.size ≤ (w1.heap.push o).size; simp), fun k hk hn => (Below.heap_alloc w1 o k (Nat.lt_of_lt_of_le hk h.size)).trans (h.block k hk hn)⟩
theorem lt_of_block {w : World} {k : Nat} {x : Obj} (h : w.heap[k]? = some x) : k < w.heap.size := (Array.getElem?_eq_some_iff.1 h).1
theorem cell_of {w : World} {g : Nat} {cs : Array Value} {t : TypeId} {fr : Nat × Nat} (h : w.heap[g]? = some (.cells cs t fr)) (i : Nat) {u : Value} (hu : cs[i]? = some u) : w.cell? ⟨g, i, none⟩ = some u := by simp [World.cell?, h, hu]
theorem frozen_of {w : World} {g : Nat} {cs : Array Value} {t : TypeId} (h : w.heap[g]? = some (.cells cs t (0, 0))) (i : Nat) : w.frozen? ⟨g, i, none⟩ = false := by simp [World.frozen?, h]

/-- Behind grow: a new row that begins with what was there. -/
def Grown (w w' : World) (b l n : Nat) (lr : Int) (pre : List Value) : Prop :=
  ∃ N cap2 cells, w.heap.size ≤ N ∧ l + n ≤ cap2 ∧ cap2 ≤ maxLen ∧ cells.size = cap2 ∧ cells.toList.take l = pre ∧ w'.heap[N]? = some (.cells cells 5 (0, 0)) ∧ w'.heap[b]? = some (.cells #[.slice (some ⟨N, 0, none⟩) (l + n) cap2, .int .i64 0, .int .i8 lr] 50 (0, 0)) ∧ Keep w w' (fun k => k = b)

theorem grown_end {w w2 : World} {b N l n cap2 : Nat} {lr : Int} {v0 : Value} {cells : Array Value} {pre : List Value} (hbw : b < w.heap.size) (hbk2 : w2.heap[b]? = some (.cells #[v0, .int .i64 0, .int .i8 lr] 50 (0, 0))) (hN : w2.heap[N]? = some (.cells cells 5 (0, 0)))
    (hwN : w.heap.size ≤ N) (hcsz : cells.size = cap2) (htk : cells.toList.take l = pre) (hcap2 : l + n ≤ cap2) (hcm2 : cap2 ≤ maxLen) (hbel : Below w.heap.size w w2) (v1 : Value) :
    Grown w (((w2.setCell ⟨b, 0, none⟩ v1).setCell ⟨b, 1, none⟩ (.int .i64 0)).setCell ⟨b, 0, none⟩ (.slice (some ⟨N, 0, none⟩) (l + n) cap2)) b l n lr pre := by
  have hNb : N ≠ b := by omega
  refine ⟨N, cap2, cells, hwN, hcap2, hcm2, hcsz, htk, ?_, Lib.heap_setCell_same (i := 0) (Lib.heap_setCell_same (i := 1) (Lib.heap_setCell_same (i := 0) hbk2 v1) (.int .i64 0)) (.slice (some ⟨N, 0, none⟩) (l + n) cap2), ?_⟩
  · rw [Below.heap_setCell _ _ _ _ hNb, Below.heap_setCell _ _ _ _ hNb, Below.heap_setCell _ _ _ _ hNb]
    exact hN
  · exact (((Keep.of_below hbel (fun k => k = b)).setCell (a := ⟨b, 0, none⟩) (.inl rfl) _).setCell (a := ⟨b, 1, none⟩) (.inl rfl) _).setCell (a := ⟨b, 0, none⟩) (.inl rfl) _
theorem grown_small {w W : World} {b n cap : Nat} {lr : Int} {v0 : Value} {M : Array Value} (hbw : b < w.heap.size) (hbkW : W.heap[b]? = some (.cells #[v0, .int .i64 0, .int .i8 lr] 50 (0, 0))) (hMs : M.size = cap) (hn : n ≤ cap) (hcm : cap ≤ maxLen) (hbel : Below w.heap.size w W) :
    Grown w ((W.setCell ⟨b, 0, none⟩ (.slice (some ⟨W.heap.size, 0, none⟩) n cap)).alloc (.cells M 5)) b 0 n lr [] := by
  have hbW := lt_of_block hbkW
  have hsz : (W.setCell ⟨b, 0, none⟩ (.slice (some ⟨W.heap.size, 0, none⟩) n cap)).heap.size = W.heap.size := by simp [World.setCell]
  have h1 := hbel.size
  refine ⟨W.heap.size, cap, M, h1, by omega, hcm, hMs, rfl, ?_, ?_, ?_⟩
  · have h := heap_alloc_new (W.setCell ⟨b, 0, none⟩ (.slice (some ⟨W.heap.size, 0, none⟩) n cap)) (.cells M 5)
    rw [hsz] at h
    exact h
  · rw [Below.heap_alloc _ _ b (by rw [hsz]; exact hbW), Nat.zero_add]
    exact Lib.heap_setCell_same (i := 0) hbkW _
  · exact ((Keep.of_below hbel (fun k => k = b)).setCell (a := ⟨b, 0, none⟩) (.inl rfl) _).alloc _

set_option maxHeartbeats 6400000 in
set_option maxRecDepth 100000 in
theorem grow_small (b n : Nat) (lr : Int) (w : World) (hbk : w.heap[b]? = some (.cells #[.slice none 0 0, .int .i64 0, .int .i8 lr] 50 (0, 0))) (hn : 1 ≤ n) (h64 : n ≤ 64) :
    Calls Tryd.prog 36 #[.pointer (some ⟨b, 0, none⟩), .int .i64 n] w fun e w' => e = .returned (.int .i64 0) ∧ Grown w w' b 0 n lr [] := by
  obtain ⟨i0, hi, hz0, hz1, hz2⟩ := info_parts YtkknoionjppegaaDoor.PFnDeltaDiffRead.info5
  obtain ⟨M, hM⟩ : ∃ M, M = madeCells (Value.int .u8 0).cells ((64 : Int).toNat * i0.size) := ⟨_, rfl⟩
  have hMs : M.size = 64 := by rw [hM, size_madeCells, hz1]; rfl
  have hmk : ∀ W : World, (Instr.makeSlice 22 (.int .i64 (n : Int)) (.int .i64 64)).run Tryd.prog W = .ok (.slice (some ⟨W.heap.size, 0, none⟩) n 64) (W.alloc (.cells M 5)) := fun W => by
    have h := run_makeSlice (P := Tryd.prog) W 22 5 i0 (.int .u8 0) Tryd.underlying22 hi hz0 .i64 .i64 (n : Int) 64 (by omega) (by omega) (by rw [hz1]; decide) (by rw [hz2]; decide) (by decide)
    rw [← hM] at h
    simpa using h
  clear hM
  have hIs : Lib.IsBuffer 50 5 0 b [] w := ⟨Nat.zero_le _, _, _, hbk, World.ownsRow_nil _ _ _ _, by simp [Value.ownBlock]⟩
  have hnil : ∀ W, (binOp .eql 22 (.slice none 0 0) (.slice none 0 0)).run Tryd.prog W = .ok (.bool true) W := fun W => Lib.run_eql_slice_nil_nil W _ _ Tryd.underlying22
  have hbw := lt_of_block hbk
  go_enter Tryd.func36, Tryd.ntmps36
  go_wp2_with (go_at_call 42; refine (Tryd.Buffer_Len 0 b [] _ hIs).mono ?_)
  rintro e W0 ⟨rfl, k, hW0⟩
  have hbk0 : W0.heap[b]? = some (.cells #[.slice none 0 0, .int .i64 0, .int .i8 lr] 50 (0, 0)) := by rw [hW0]; exact hbk
  have c0 : W0.cell? ⟨b, 0, none⟩ = some (.slice none 0 0) := by rw [Lib.cell_of_heap hbk0]; rfl
  have c1 : W0.cell? ⟨b, 1, none⟩ = some (.int .i64 0) := by rw [Lib.cell_of_heap hbk0]; rfl
  have f0 : W0.frozen? ⟨b, 0, none⟩ = false := Lib.frozen_of_heap hbk0 0
  have f1 : W0.frozen? ⟨b, 1, none⟩ = false := Lib.frozen_of_heap hbk0 1
  have hbW0 := Lib.lt_of_heap hbk0
  have c0a : ∀ o, (W0.alloc o).cell? ⟨b, 0, none⟩ = some (.slice none 0 0) := fun o => (World.cell?_of_block (a := ⟨b, 0, none⟩) (Below.heap_alloc W0 o b hbW0)).trans c0
  have f0a : ∀ o, (W0.alloc o).frozen? ⟨b, 0, none⟩ = false := fun o => (World.frozen?_of_block (a := ⟨b, 0, none⟩) (Below.heap_alloc W0 o b hbW0)).trans f0
  have HW0 := Lib.hid hW0
  clear hW0 hIs
  go_wp2_with (go_at_call 35; refine (Tryd.Buffer_tryGrow_none b _ 0 0 n _ c0 (Nat.le_refl _) (Nat.zero_le _) (by omega)).mono ?_; rintro e w' ⟨rfl, rfl⟩)
  go_ret
  have hb0 : Below w.heap.size w w' := by rw [HW0.out]; exact ⟨rfl, rfl, rfl, Nat.le_refl _, fun _ _ => rfl⟩
  exact ⟨rfl, grown_small hbw hbk0 hMs h64 (by unfold maxLen; omega) hb0⟩

set_option maxHeartbeats 12800000 in
set_option maxRecDepth 100000 in
theorem grow_big (b n : Nat) (lr : Int) (w : World) (hbk : w.heap[b]? = some (.cells #[.slice none 0 0, .int .i64 0, .int .i8 lr] 50 (0, 0))) (h64 : 64 < n) (hlim : n ≤ 140737488355328) :
    Calls Tryd.prog 36 #[.pointer (some ⟨b, 0, none⟩), .int .i64 n] w fun e w' => e = .returned (.int .i64 0) ∧ Grown w w' b 0 n lr [] := by
  have hn : 1 ≤ n := by omega
  have hIs : Lib.IsBuffer 50 5 0 b [] w := ⟨Nat.zero_le _, _, _, hbk, World.ownsRow_nil _ _ _ _, by simp [Value.ownBlock]⟩
  have hnil : ∀ W, (binOp .eql 22 (.slice none 0 0) (.slice none 0 0)).run Tryd.prog W = .ok (.bool true) W := fun W => Lib.run_eql_slice_nil_nil W _ _ Tryd.underlying22
  have hbw := lt_of_block hbk
  go_enter Tryd.func36, Tryd.ntmps36
  go_wp2_with (go_at_call 42; refine (Tryd.Buffer_Len 0 b [] _ hIs).mono ?_)
  rintro e W0 ⟨rfl, k, hW0⟩
  have hbk0 : W0.heap[b]? = some (.cells #[.slice none 0 0, .int .i64 0, .int .i8 lr] 50 (0, 0)) := by rw [hW0]; exact hbk
  have c0 : W0.cell? ⟨b, 0, none⟩ = some (.slice none 0 0) := by rw [Lib.cell_of_heap hbk0]; rfl
  have c1 : W0.cell? ⟨b, 1, none⟩ = some (.int .i64 0) := by rw [Lib.cell_of_heap hbk0]; rfl
  have f0 : W0.frozen? ⟨b, 0, none⟩ = false := Lib.frozen_of_heap hbk0 0
  have f1 : W0.frozen? ⟨b, 1, none⟩ = false := Lib.frozen_of_heap hbk0 1
  have HW0 := Lib.hid hW0
  clear hW0 hIs
  go_wp2_with (go_at_call 35; refine (Tryd.Buffer_tryGrow_none b _ 0 0 n _ c0 (Nat.le_refl _) (Nat.zero_le _) (by omega)).mono ?_; rintro e w' ⟨rfl, rfl⟩)
  have hbW := Lib.lt_of_heap hbk0
  have hwn : IntKind.i64.wrap (n : Int) = n := by rw [IntKind.wrap_i64]; omega
  go_region_with (
      go_at_call 45
      refine (Tryd.bytes_growSlice_nil n _ hn hlim).mono ?_
      rintro e w2 ⟨cap2, cells, rfl, hN, hcsz, hcap2, hcm2, hbel⟩
      have hbk2 : w2.heap[b]? = some (.cells #[.slice none 0 0, .int .i64 0, .int .i8 lr] 50 (0, 0)) := (hbel.block b hbW).trans hbk0
      have d0 : w2.cell? ⟨b, 0, none⟩ = some (.slice none 0 0) := by rw [Lib.cell_of_heap hbk2]; rfl
      have d1 : w2.cell? ⟨b, 1, none⟩ = some (.int .i64 0) := by rw [Lib.cell_of_heap hbk2]; rfl
      have e0 : w2.frozen? ⟨b, 0, none⟩ = false := Lib.frozen_of_heap hbk2 0
      have e1 : w2.frozen? ⟨b, 1, none⟩ = false := Lib.frozen_of_heap hbk2 1)
  all_goals (
    go_wp2
    go_ret
    have hsz0 : w'.heap.size = w.heap.size := by rw [HW0.out]; rfl
    have hb0 : Below w.heap.size w w'.drew := by rw [HW0.out]; exact ⟨rfl, rfl, rfl, Nat.le_refl _, fun _ _ => rfl⟩
    have q := grown_end (l := 0) (n := n) (pre := []) hbw hbk2 hN (by show w.heap.size ≤ w'.heap.size; omega) hcsz rfl (by omega) hcm2 (hb0.trans (hbel.mono (by show w.heap.size ≤ w'.heap.size; omega))) (.slice (some ⟨w'.heap.size, 0, none⟩) 0 cap2)
    rw [Nat.zero_add] at q
    exact ⟨rfl, q⟩)

set_option maxHeartbeats 12800000 in
set_option maxRecDepth 100000 in
theorem grow_row0 (b g cap n : Nat) (lr : Int) (cur : Array Value) (w : World) (hbk : w.heap[b]? = some (.cells #[.slice (some ⟨g, 0, none⟩) 0 cap, .int .i64 0, .int .i8 lr] 50 (0, 0)))
    (hg : w.heap[g]? = some (.cells cur 5 (0, 0))) (hcm : cap ≤ maxLen) (hcs : cur.size = cap) (hgb : g ≠ b) (hn : 1 ≤ n) (hroom : cap - 0 < n) (hlim : 0 + n ≤ 140737488355328) :
    Calls Tryd.prog 36 #[.pointer (some ⟨b, 0, none⟩), .int .i64 n] w fun e w' => e = .returned (.int .i64 0) ∧ Grown w w' b 0 n lr [] := by
  have hlc : 0 ≤ cap := Nat.zero_le _
  have hIs : Lib.IsBuffer 50 5 0 b [] w := ⟨Nat.zero_le _, _, _, hbk, ⟨rfl, .inr ⟨g, cap, cur, rfl, Nat.zero_le _, hg, by simp, hcm, by omega, rfl⟩⟩, by simp [Value.ownBlock]; exact hgb⟩
  have hnil : ∀ W, (binOp .eql 22 (.slice (some ⟨g, 0, none⟩) 0 cap) (.slice none 0 0)).run Tryd.prog W = .ok (.bool false) W := fun W => Lib.run_eql_slice_some_nil W _ _ _ Tryd.underlying22
  have hbw := lt_of_block hbk
  go_enter Tryd.func36, Tryd.ntmps36
  go_wp2_with (go_at_call 42; refine (Tryd.Buffer_Len 0 b [] _ hIs).mono ?_)
  rintro e W0 ⟨rfl, k, hW0⟩
  have hbk0 : W0.heap[b]? = some (.cells #[.slice (some ⟨g, 0, none⟩) 0 cap, .int .i64 0, .int .i8 lr] 50 (0, 0)) := by rw [hW0]; exact hbk
  have hg0 : W0.heap[g]? = some (.cells cur 5 (0, 0)) := by rw [hW0]; exact hg
  have c0 : W0.cell? ⟨b, 0, none⟩ = some (.slice (some ⟨g, 0, none⟩) 0 cap) := by rw [Lib.cell_of_heap hbk0]; rfl
  have c1 : W0.cell? ⟨b, 1, none⟩ = some (.int .i64 0) := by rw [Lib.cell_of_heap hbk0]; rfl
  have f0 : W0.frozen? ⟨b, 0, none⟩ = false := Lib.frozen_of_heap hbk0 0
  have f1 : W0.frozen? ⟨b, 1, none⟩ = false := Lib.frozen_of_heap hbk0 1
  have HW0 := Lib.hid hW0
  clear hW0 hIs
  have hcm' := hcm
  unfold maxLen at hcm'
  go_wp2_with (go_at_call 35; refine (Tryd.Buffer_tryGrow_none b _ 0 cap n _ c0 hlc hcm hroom).mono ?_; rintro e w' ⟨rfl, rfl⟩)
  have hc2 : cap ≤ 140737488355328 := by omega
  have h1' : ∀ v ∈ cur.toList.take 0, v.oneCell' = true := by simp
  have hbW := Lib.lt_of_heap hbk0
  have hwn : IntKind.i64.wrap (n : Int) = n := by rw [IntKind.wrap_i64]; omega
  go_region_with (
      go_at_call 45
      refine (Tryd.bytes_growSlice_row g 0 cap n cur _ ?_ hcs hlc hn hlim hc2 h1').mono ?_
      exact hg0
      rintro e w2 ⟨cap2, cells, rfl, hN, hcsz, htk, hcap2, hcm2, hbel⟩
      have hbk2 : w2.heap[b]? = some (.cells #[.slice (some ⟨g, 0, none⟩) 0 cap, .int .i64 0, .int .i8 lr] 50 (0, 0)) := (hbel.block b hbW).trans hbk0
      have d0 : w2.cell? ⟨b, 0, none⟩ = some (.slice (some ⟨g, 0, none⟩) 0 cap) := by rw [Lib.cell_of_heap hbk2]; rfl
      have d1 : w2.cell? ⟨b, 1, none⟩ = some (.int .i64 0) := by rw [Lib.cell_of_heap hbk2]; rfl
      have e0 : w2.frozen? ⟨b, 0, none⟩ = false := Lib.frozen_of_heap hbk2 0
      have e1 : w2.frozen? ⟨b, 1, none⟩ = false := Lib.frozen_of_heap hbk2 1)
  all_goals (
    go_wp2
    go_ret
    have hsz0 : w'.heap.size = w.heap.size := by rw [HW0.out]; rfl
    have hb0 : Below w.heap.size w w'.drew := by rw [HW0.out]; exact ⟨rfl, rfl, rfl, Nat.le_refl _, fun _ _ => rfl⟩
    have q := grown_end (l := 0) (n := n) (pre := []) hbw hbk2 hN (by show w.heap.size ≤ w'.heap.size; omega) hcsz rfl hcap2 hcm2 (hb0.trans (hbel.mono (by show w.heap.size ≤ w'.heap.size; omega))) (.slice (some ⟨w'.heap.size, 0, none⟩) 0 cap2)
    rw [Nat.zero_add] at q
    exact ⟨rfl, q⟩)

set_option maxHeartbeats 12800000 in
set_option maxRecDepth 100000 in
theorem grow_row (b g l cap n : Nat) (lr : Int) (cur : Array Value) (w : World) (hl0 : 0 < l) (hbk : w.heap[b]? = some (.cells #[.slice (some ⟨g, 0, none⟩) l cap, .int .i64 0, .int .i8 lr] 50 (0, 0)))
    (hg : w.heap[g]? = some (.cells cur 5 (0, 0))) (hlc : l ≤ cap) (hcm : cap ≤ maxLen) (hcs : cur.size = cap) (hgb : g ≠ b) (h1 : ∀ v ∈ cur.toList.take l, v.oneCell' = true) (hn : 1 ≤ n) (hroom : cap - l < n) (hlim : l + n ≤ 140737488355328) :
    Calls Tryd.prog 36 #[.pointer (some ⟨b, 0, none⟩), .int .i64 n] w fun e w' => e = .returned (.int .i64 l) ∧ Grown w w' b l n lr (cur.toList.take l) := by
  have hlen : (cur.toList.take l).length = l := by rw [List.length_take, Array.length_toList]; omega
  have hIs : Lib.IsBuffer 50 5 0 b (cur.toList.take l) w := ⟨Nat.zero_le _, _, _, hbk, ⟨by rw [hlen, Nat.mul_one], .inr ⟨g, cap, cur, by rw [hlen], Nat.zero_le _, hg, by omega, hcm, by omega, by rw [hlen, Nat.mul_one]⟩⟩, by simp [Value.ownBlock]; exact hgb⟩
  have hnil : ∀ W, (binOp .eql 22 (.slice (some ⟨g, 0, none⟩) l cap) (.slice none 0 0)).run Tryd.prog W = .ok (.bool false) W := fun W => Lib.run_eql_slice_some_nil W _ _ _ Tryd.underlying22
  have hbw := lt_of_block hbk
  go_enter Tryd.func36, Tryd.ntmps36
  go_wp2_with (go_at_call 42; refine (Tryd.Buffer_Len 0 b _ _ hIs).mono ?_)
  rintro e W0 ⟨rfl, k, hW0⟩
  rw [hlen]
  have hbk0 : W0.heap[b]? = some (.cells #[.slice (some ⟨g, 0, none⟩) l cap, .int .i64 0, .int .i8 lr] 50 (0, 0)) := by rw [hW0]; exact hbk
  have hg0 : W0.heap[g]? = some (.cells cur 5 (0, 0)) := by rw [hW0]; exact hg
  have c0 : W0.cell? ⟨b, 0, none⟩ = some (.slice (some ⟨g, 0, none⟩) l cap) := by rw [Lib.cell_of_heap hbk0]; rfl
  have c1 : W0.cell? ⟨b, 1, none⟩ = some (.int .i64 0) := by rw [Lib.cell_of_heap hbk0]; rfl
  have f0 : W0.frozen? ⟨b, 0, none⟩ = false := Lib.frozen_of_heap hbk0 0
  have f1 : W0.frozen? ⟨b, 1, none⟩ = false := Lib.frozen_of_heap hbk0 1
  have HW0 := Lib.hid hW0
  have HL := Lib.hid hlen
  clear hW0 hIs hlen
  have hcm' := hcm
  unfold maxLen at hcm'
  go_wp2_with (go_at_call 35; refine (Tryd.Buffer_tryGrow_none b _ l cap n _ c0 hlc hcm hroom).mono ?_; rintro e w' ⟨rfl, rfl⟩)
  have hc2 : cap ≤ 140737488355328 := by omega
  have hbW := Lib.lt_of_heap hbk0
  have hwn : IntKind.i64.wrap (n : Int) = n := by rw [IntKind.wrap_i64]; omega
  go_region_with (
      go_at_call 45
      refine (Tryd.bytes_growSlice_row g l cap n cur _ ?_ hcs hlc hn hlim hc2 h1).mono ?_
      exact hg0
      rintro e w2 ⟨cap2, cells, rfl, hN, hcsz, htk, hcap2, hcm2, hbel⟩
      have hbk2 : w2.heap[b]? = some (.cells #[.slice (some ⟨g, 0, none⟩) l cap, .int .i64 0, .int .i8 lr] 50 (0, 0)) := (hbel.block b hbW).trans hbk0
      have d0 : w2.cell? ⟨b, 0, none⟩ = some (.slice (some ⟨g, 0, none⟩) l cap) := by rw [Lib.cell_of_heap hbk2]; rfl
      have d1 : w2.cell? ⟨b, 1, none⟩ = some (.int .i64 0) := by rw [Lib.cell_of_heap hbk2]; rfl
      have e0 : w2.frozen? ⟨b, 0, none⟩ = false := Lib.frozen_of_heap hbk2 0
      have e1 : w2.frozen? ⟨b, 1, none⟩ = false := Lib.frozen_of_heap hbk2 1)
  all_goals (
    go_wp2
    go_ret
    have hsz0 : w'.heap.size = w.heap.size := by rw [HW0.out]; rfl
    have hb0 : Below w.heap.size w w'.drew := by rw [HW0.out]; exact ⟨rfl, rfl, rfl, Nat.le_refl _, fun _ _ => rfl⟩
    exact ⟨rfl, grown_end hbw hbk2 hN (by show w.heap.size ≤ w'.heap.size; omega) hcsz htk hcap2 hcm2 (hb0.trans (hbel.mono (by show w.heap.size ≤ w'.heap.size; omega))) _⟩)
end Go.Proofs.YtkknoionjppegaaDoor.Delta
