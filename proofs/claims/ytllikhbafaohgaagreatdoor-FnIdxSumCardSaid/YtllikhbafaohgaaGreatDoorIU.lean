/- A new decoder of an index. -/
import Derived.Test.YtllikhbafaohgaaGreatDoorIT
namespace Go.Proofs.YtllikhbafaohgaaGreatDoor.Idx
open Go.RowKit Go.Proofs.YtllikhbafaohgaaGreatDoorW.PrintWords Go.Proofs.YtllikhbafaohgaaGreatDoorW.PrintLast Go.Proofs.YtllikhbafaohgaaGreatDoorW.PrintMore
set_option linter.unusedVariables false
set_option linter.unusedSimpArgs false

/-- A bufio.Reader of whatever reader. -/
def BioV (w : World) (p bb : Nat) (rv : Value) : Prop := w.heap[p]? = some (.cells #[.slice (some ⟨bb, 0, none⟩) 4096 4096, rv, .int .i64 0, .int .i64 0, .nilIface, .int .i64 (-1), .int .i64 (-1)] 133 (0, 0))
theorem below_keep {w w1 w2 : World} {F : Nat → Prop} (h : Below w.heap.size w w1) (k : Keep w1 w2 F) (hF : ∀ j, F j → w.heap.size ≤ j) : Below w.heap.size w w2 :=
  ⟨k.os.trans h.os, k.tape.trans h.tape, k.output.trans h.output, Nat.le_trans h.size k.size, fun j hj => (k.block j (Nat.lt_of_lt_of_le hj h.size) (fun hf => by have := hF j hf; omega)).trans (h.block j hj)⟩
theorem heap_new2 (w : World) (o1 o2 : Obj) : ((w.alloc o1).alloc o2).heap[w.heap.size + 1]? = some o2 := alloc_at _ (by rw [World.size_alloc])
theorem make_4096 : ∃ Z : List Value, Z.length = 4096 ∧ ∀ W : World, (Instr.makeSlice 24 (.int .i64 4096) (.int .i64 4096)).run Tryz.prog W = .ok (.slice (some ⟨W.heap.size, 0, none⟩) 4096 4096) (W.alloc (.cells Z.toArray 5)) := by
  obtain ⟨Z, h1, h2⟩ := makeBytes 4096 (by omega) (by omega)
  exact ⟨Z, h1, fun W => h2 W⟩
set_option maxHeartbeats 1000000 in
set_option maxRecDepth 100000 in
theorem reset_bytes {w : World} {p bb g : Nat} (hb : w.heap[p]? = some (.cells #[.slice none 0 0, .nilIface, .int .i64 0, .int .i64 0, .nilIface, .int .i64 0, .int .i64 0] 133 (0, 0))) : Calls Tryz.prog 51 #[.pointer (some ⟨p, 0, none⟩), .slice (some ⟨bb, 0, none⟩) 4096 4096, .iface 52 (.pointer (some ⟨g, 0, none⟩))] w fun e w' => e = .returned (.tuple #[]) ∧ BioV w' p bb (.iface 52 (.pointer (some ⟨g, 0, none⟩))) ∧ Keep w w' (fun j => j = p) := by
  have HB := Aside0.mk hb
  have f := fun j => frozen_of hb j
  have c0 : w.cell? ⟨p, 0, none⟩ = some (.slice none 0 0) := cell_of hb 0 rfl
  have c1 : w.cell? ⟨p, 1, none⟩ = some .nilIface := cell_of hb 1 rfl
  have c2 : w.cell? ⟨p, 2, none⟩ = some (.int .i64 0) := cell_of hb 2 rfl
  have c3 : w.cell? ⟨p, 3, none⟩ = some (.int .i64 0) := cell_of hb 3 rfl
  have c4 : w.cell? ⟨p, 4, none⟩ = some .nilIface := cell_of hb 4 rfl
  have c5 : w.cell? ⟨p, 5, none⟩ = some (.int .i64 0) := cell_of hb 5 rfl
  have c6 : w.cell? ⟨p, 6, none⟩ = some (.int .i64 0) := cell_of hb 6 rfl
  clear hb
  go_enter Tryz.func51, Tryz.ntmps51
  go_wp2_with fail
  go_end0
  refine ⟨rfl, ?_, ?_⟩
  · have h1 := set_block (set_block (set_block (set_block (set_block (set_block (set_block HB.out 0 (.slice (some ⟨bb, 0, none⟩) 4096 4096)) 1 (.iface 52 (.pointer (some ⟨g, 0, none⟩)))) 2 (.int .i64 0)) 3 (.int .i64 0)) 4 .nilIface) 5 (.int .i64 (-1))) 6 (.int .i64 (-1))
    exact h1
  · have K0 := Keep.refl w (fun j => j = p)
    exact ((((((K0.setCell (a := ⟨p, 0, none⟩) (.inl rfl) _).setCell (a := ⟨p, 1, none⟩) (.inl rfl) _).setCell (a := ⟨p, 2, none⟩) (.inl rfl) _).setCell (a := ⟨p, 3, none⟩) (.inl rfl) _).setCell (a := ⟨p, 4, none⟩) (.inl rfl) _).setCell (a := ⟨p, 5, none⟩) (.inl rfl) _).setCell (a := ⟨p, 6, none⟩) (.inl rfl) _
set_option maxHeartbeats 4000000 in
set_option maxRecDepth 100000 in
theorem newReaderSize_bytes (g : Nat) (w : World) : Calls Tryz.prog 39 #[.iface 52 (.pointer (some ⟨g, 0, none⟩)), .int .i64 4096] w fun e w' => e = .returned (.pointer (some ⟨w.heap.size, 0, none⟩)) ∧ BioV w' w.heap.size (w.heap.size + 1) (.iface 52 (.pointer (some ⟨g, 0, none⟩))) ∧ (∃ Z : List Value, Z.length = 4096 ∧ w'.heap[w.heap.size + 1]? = some (.cells Z.toArray 5 (0, 0))) ∧ Below w.heap.size w w' := by
  obtain ⟨Z, hZ, hmake⟩ := make_4096
  have HZ := Aside0.mk hZ
  have hta : ∀ (g : Nat) (W : World), (Instr.typeAssert (.iface 52 (.pointer (some ⟨g, 0, none⟩))) 67 71 true).run Tryz.prog W = .ok (.tuple #[.pointer none, .bool false]) W := fun _ _ => by kernel_rfl
  clear hZ
  go_enter Tryz.func39, Tryz.ntmps39
  obtain ⟨W1, hW1⟩ : ∃ W1, W1 = (w.alloc (.cells #[.slice none 0 0, .nilIface, .int .i64 0, .int .i64 0, .nilIface, .int .i64 0, .int .i64 0] 133)).alloc (.cells Z.toArray 5) := ⟨_, rfl⟩
  have HW1 := Aside0.mk hW1
  have HB1 : Aside0 (Below w.heap.size w W1) := ⟨by rw [hW1]; exact below_alloc (below_alloc (Below.refl _ _) _) _⟩
  have HBB : Aside0 (W1.heap[w.heap.size + 1]? = some (.cells Z.toArray 5 (0, 0))) := ⟨by rw [hW1]; exact heap_new2 w _ _⟩
  have HC := Aside0.mk (reset_bytes (w := W1) (p := w.heap.size) (bb := w.heap.size + 1) (g := g) (by rw [hW1]; exact alloc_old (heap_alloc_new w _) _))
  clear hW1
  go_wp2_with (go_at_call 51; rw [← HW1.out]; refine HC.out.mono ?_; rintro e w2 ⟨rfl, hb, hk⟩; have HB := Aside0.mk hb; have HK := Aside0.mk hk; clear hb hk)
  go_ret
  exact ⟨rfl, HB.out, ⟨Z, HZ.out, (HK.out.block _ (lt_of_block HBB.out) (by omega)).trans HBB.out⟩, below_keep HB1.out HK.out (fun j hj => by omega)⟩
set_option maxHeartbeats 4000000 in
set_option maxRecDepth 100000 in
theorem newBuf_bytes (g : Nat) (w : World) : Calls Tryz.prog 26 #[.iface 52 (.pointer (some ⟨g, 0, none⟩))] w fun e w' => e = .returned (.pointer (some ⟨w.heap.size, 0, none⟩)) ∧ BioV w' w.heap.size (w.heap.size + 1) (.iface 52 (.pointer (some ⟨g, 0, none⟩))) ∧ (∃ Z : List Value, Z.length = 4096 ∧ w'.heap[w.heap.size + 1]? = some (.cells Z.toArray 5 (0, 0))) ∧ Below w.heap.size w w' := by
  have HC := Aside0.mk (newReaderSize_bytes g w)
  go_enter Tryz.func26, Tryz.ntmps26
  go_wp2_with (go_at_call 39; refine HC.out.mono ?_; rintro e w2 ⟨rfl, h1, h2, h3⟩; have H1 := Aside0.mk h1; have H2 := Aside0.mk h2; have H3 := Aside0.mk h3; clear h1 h2 h3)
  go_ret
  exact ⟨rfl, H1.out, H2.out, H3.out⟩
set_option maxHeartbeats 1000000 in
set_option maxRecDepth 100000 in
theorem reset_none {w : World} {p bb : Nat} (hb : w.heap[p]? = some (.cells #[.slice none 0 0, .nilIface, .int .i64 0, .int .i64 0, .nilIface, .int .i64 0, .int .i64 0] 133 (0, 0))) : Calls Tryz.prog 51 #[.pointer (some ⟨p, 0, none⟩), .slice (some ⟨bb, 0, none⟩) 4096 4096, .nilIface] w fun e w' => e = .returned (.tuple #[]) ∧ BioV w' p bb (.nilIface) ∧ Keep w w' (fun j => j = p) := by
  have HB := Aside0.mk hb
  have f := fun j => frozen_of hb j
  have c0 : w.cell? ⟨p, 0, none⟩ = some (.slice none 0 0) := cell_of hb 0 rfl
  have c1 : w.cell? ⟨p, 1, none⟩ = some .nilIface := cell_of hb 1 rfl
  have c2 : w.cell? ⟨p, 2, none⟩ = some (.int .i64 0) := cell_of hb 2 rfl
  have c3 : w.cell? ⟨p, 3, none⟩ = some (.int .i64 0) := cell_of hb 3 rfl
  have c4 : w.cell? ⟨p, 4, none⟩ = some .nilIface := cell_of hb 4 rfl
  have c5 : w.cell? ⟨p, 5, none⟩ = some (.int .i64 0) := cell_of hb 5 rfl
  have c6 : w.cell? ⟨p, 6, none⟩ = some (.int .i64 0) := cell_of hb 6 rfl
  clear hb
  go_enter Tryz.func51, Tryz.ntmps51
  go_wp2_with fail
  go_end0
  refine ⟨rfl, ?_, ?_⟩
  · have h1 := set_block (set_block (set_block (set_block (set_block (set_block (set_block HB.out 0 (.slice (some ⟨bb, 0, none⟩) 4096 4096)) 1 (.nilIface)) 2 (.int .i64 0)) 3 (.int .i64 0)) 4 .nilIface) 5 (.int .i64 (-1))) 6 (.int .i64 (-1))
    exact h1
  · have K0 := Keep.refl w (fun j => j = p)
    exact ((((((K0.setCell (a := ⟨p, 0, none⟩) (.inl rfl) _).setCell (a := ⟨p, 1, none⟩) (.inl rfl) _).setCell (a := ⟨p, 2, none⟩) (.inl rfl) _).setCell (a := ⟨p, 3, none⟩) (.inl rfl) _).setCell (a := ⟨p, 4, none⟩) (.inl rfl) _).setCell (a := ⟨p, 5, none⟩) (.inl rfl) _).setCell (a := ⟨p, 6, none⟩) (.inl rfl) _
set_option maxHeartbeats 4000000 in
set_option maxRecDepth 100000 in
theorem newReaderSize_none (w : World) : Calls Tryz.prog 39 #[.nilIface, .int .i64 4096] w fun e w' => e = .returned (.pointer (some ⟨w.heap.size, 0, none⟩)) ∧ BioV w' w.heap.size (w.heap.size + 1) (.nilIface) ∧ (∃ Z : List Value, Z.length = 4096 ∧ w'.heap[w.heap.size + 1]? = some (.cells Z.toArray 5 (0, 0))) ∧ Below w.heap.size w w' := by
  obtain ⟨Z, hZ, hmake⟩ := make_4096
  have HZ := Aside0.mk hZ
  have hta : ∀ (W : World), (Instr.typeAssert (.nilIface) 67 71 true).run Tryz.prog W = .ok (.tuple #[.pointer none, .bool false]) W := fun _ => by kernel_rfl
  clear hZ
  go_enter Tryz.func39, Tryz.ntmps39
  obtain ⟨W1, hW1⟩ : ∃ W1, W1 = (w.alloc (.cells #[.slice none 0 0, .nilIface, .int .i64 0, .int .i64 0, .nilIface, .int .i64 0, .int .i64 0] 133)).alloc (.cells Z.toArray 5) := ⟨_, rfl⟩
  have HW1 := Aside0.mk hW1
  have HB1 : Aside0 (Below w.heap.size w W1) := ⟨by rw [hW1]; exact below_alloc (below_alloc (Below.refl _ _) _) _⟩
  have HBB : Aside0 (W1.heap[w.heap.size + 1]? = some (.cells Z.toArray 5 (0, 0))) := ⟨by rw [hW1]; exact heap_new2 w _ _⟩
  have HC := Aside0.mk (reset_none (w := W1) (p := w.heap.size) (bb := w.heap.size + 1) (by rw [hW1]; exact alloc_old (heap_alloc_new w _) _))
  clear hW1
  go_wp2_with (go_at_call 51; rw [← HW1.out]; refine HC.out.mono ?_; rintro e w2 ⟨rfl, hb, hk⟩; have HB := Aside0.mk hb; have HK := Aside0.mk hk; clear hb hk)
  go_ret
  exact ⟨rfl, HB.out, ⟨Z, HZ.out, (HK.out.block _ (lt_of_block HBB.out) (by omega)).trans HBB.out⟩, below_keep HB1.out HK.out (fun j hj => by omega)⟩
set_option maxHeartbeats 4000000 in
set_option maxRecDepth 100000 in
theorem newBuf_none (w : World) : Calls Tryz.prog 26 #[.nilIface] w fun e w' => e = .returned (.pointer (some ⟨w.heap.size, 0, none⟩)) ∧ BioV w' w.heap.size (w.heap.size + 1) (.nilIface) ∧ (∃ Z : List Value, Z.length = 4096 ∧ w'.heap[w.heap.size + 1]? = some (.cells Z.toArray 5 (0, 0))) ∧ Below w.heap.size w w' := by
  have HC := Aside0.mk (newReaderSize_none w)
  go_enter Tryz.func26, Tryz.ntmps26
  go_wp2_with (go_at_call 39; refine HC.out.mono ?_; rintro e w2 ⟨rfl, h1, h2, h3⟩; have H1 := Aside0.mk h1; have H2 := Aside0.mk h2; have H3 := Aside0.mk h3; clear h1 h2 h3)
  go_ret
  exact ⟨rfl, H1.out, H2.out, H3.out⟩
set_option maxHeartbeats 4000000 in
set_option maxRecDepth 100000 in
theorem hashReset_calls {w : World} {h : Nat} (hb : w.heap[h]? = some (.cells #[.int .u32 0, .int .u32 0, .int .u32 0, .int .u32 0, .int .u32 0, .slice none 0 0, .int .u64 0] 93 (0, 0))) : Calls Tryz.prog 38 #[.pointer (some ⟨h, 0, none⟩)] w fun e w' => e = .returned (.tuple #[]) ∧ shaB w' h sha0 (.slice none 0 0) (.int .u64 0) ∧ Keep w w' (fun j => j = h) := by
  have HB := Aside0.mk hb
  have f := fun j => frozen_of hb j
  have c0 : w.cell? ⟨h, 0, none⟩ = some (.int .u32 0) := cell_of hb 0 rfl
  have c1 : w.cell? ⟨h, 1, none⟩ = some (.int .u32 0) := cell_of hb 1 rfl
  have c2 : w.cell? ⟨h, 2, none⟩ = some (.int .u32 0) := cell_of hb 2 rfl
  have c3 : w.cell? ⟨h, 3, none⟩ = some (.int .u32 0) := cell_of hb 3 rfl
  have c4 : w.cell? ⟨h, 4, none⟩ = some (.int .u32 0) := cell_of hb 4 rfl
  have c5 : w.cell? ⟨h, 5, none⟩ = some (.slice none 0 0) := cell_of hb 5 rfl
  have c6 : w.cell? ⟨h, 6, none⟩ = some (.int .u64 0) := cell_of hb 6 rfl
  clear hb
  go_enter Tryz.func38, Tryz.ntmps38
  go_wp2_with fail
  go_end0
  refine ⟨rfl, ?_, ?_⟩
  · have h1 := set_block (set_block (set_block (set_block (set_block (set_block (set_block HB.out 0 (.int .u32 1732584193)) 1 (.int .u32 4023233417)) 2 (.int .u32 2562383102)) 3 (.int .u32 271733878)) 4 (.int .u32 3285377520)) 5 (.slice none 0 0)) 6 (.int .u64 0)
    exact h1
  · have K0 := Keep.refl w (fun j => j = h)
    exact ((((((K0.setCell (a := ⟨h, 0, none⟩) (.inl rfl) _).setCell (a := ⟨h, 1, none⟩) (.inl rfl) _).setCell (a := ⟨h, 2, none⟩) (.inl rfl) _).setCell (a := ⟨h, 3, none⟩) (.inl rfl) _).setCell (a := ⟨h, 4, none⟩) (.inl rfl) _).setCell (a := ⟨h, 5, none⟩) (.inl rfl) _).setCell (a := ⟨h, 6, none⟩) (.inl rfl) _
set_option maxHeartbeats 4000000 in
set_option maxRecDepth 100000 in
theorem hashNew_calls (w : World) : Calls Tryz.prog 25 #[.int .i64 1] w fun e w' => e = .returned (.iface 91 (.pointer (some ⟨w.heap.size, 0, none⟩))) ∧ shaB w' w.heap.size sha0 (.slice none 0 0) (.int .u64 0) ∧ Below w.heap.size w w' := by
  obtain ⟨W1, hW1⟩ : ∃ W1, W1 = w.alloc (.cells #[.int .u32 0, .int .u32 0, .int .u32 0, .int .u32 0, .int .u32 0, .slice none 0 0, .int .u64 0] 93) := ⟨_, rfl⟩
  have hb1 : Below w.heap.size w W1 := by rw [hW1]; exact below_alloc (Below.refl _ _) _
  have HB1 := Aside0.mk hb1
  have HC := Aside0.mk (hashReset_calls (w := W1) (h := w.heap.size) (by rw [hW1]; exact heap_alloc_new w _))
  have HW1 := Aside0.mk hW1
  clear hW1 hb1
  go_enter Tryz.func25, Tryz.ntmps25
  go_wp2_with (go_at_call 38; rw [← HW1.out]; refine HC.out.mono ?_; rintro e w2 ⟨rfl, hs2, hk2⟩; have HS2 := Aside0.mk hs2; have HK2 := Aside0.mk hk2; clear hs2 hk2)
  go_ret
  exact ⟨rfl, HS2.out, below_keep HB1.out HK2.out (fun j hj => by omega)⟩
set_option maxHeartbeats 4000000 in
set_option maxRecDepth 100000 in
theorem tee_calls (w : World) (p h : Addr) : Calls Tryz.prog 27 #[.iface 71 (.pointer (some p)), .iface 91 (.pointer (some h))] w fun e w' => e = .returned (.iface 97 (.pointer (some ⟨w.heap.size, 0, none⟩))) ∧ w' = w.alloc (.cells #[.iface 71 (.pointer (some p)), .iface 91 (.pointer (some h))] 99) := by
  go_enter Tryz.func27, Tryz.ntmps27
  go_wp2_with fail
  go_ret
  exact ⟨rfl, rfl⟩
set_option maxHeartbeats 4000000 in
set_option maxRecDepth 100000 in
theorem newBytes_calls (w : World) (A : Option Addr) (n c : Nat) : Calls Tryz.prog 15 #[.slice A n c] w fun e w' => e = .returned (.pointer (some ⟨w.heap.size, 0, none⟩)) ∧ w' = w.alloc (.cells #[.slice A n c, .int .i64 0, .int .i64 (-1)] 78) := by
  go_enter Tryz.func15, Tryz.ntmps15
  go_wp2_with fail
  go_ret
  exact ⟨rfl, rfl⟩
/-- What NewDecoder has laid. -/
structure Laid (w w' : World) (g h p t q k : Nat) : Prop where
  hash : shaB w' h sha0 (.slice none 0 0) (.int .u64 0)
  bio : BioV w' p (p + 1) (.iface 52 (.pointer (some ⟨g, 0, none⟩)))
  row : ∃ Z : List Value, Z.length = 4096 ∧ w'.heap[p + 1]? = some (.cells Z.toArray 5 (0, 0))
  tee : w'.heap[t]? = some (.cells #[.iface 71 (.pointer (some ⟨p, 0, none⟩)), .iface 91 (.pointer (some ⟨h, 0, none⟩))] 99 (0, 0))
  dec : w'.heap[k]? = some (.cells #[.pointer (some ⟨p, 0, none⟩), .iface 97 (.pointer (some ⟨t, 0, none⟩)), .iface 91 (.pointer (some ⟨h, 0, none⟩)), .pointer none, .pointer (some ⟨q, 0, none⟩)] 76 (0, 0))
  ord : w.heap.size ≤ h ∧ h < p ∧ p + 1 < t ∧ t < k
  below : Below w.heap.size w w'
set_option maxHeartbeats 8000000 in
set_option maxRecDepth 100000 in
theorem newDecoder_calls (w : World) (g : Nat) : Calls Tryz.prog 14 #[.iface 52 (.pointer (some ⟨g, 0, none⟩))] w fun e w' => ∃ h p t q k, e = .returned (.pointer (some ⟨k, 0, none⟩)) ∧ Laid w w' g h p t q k := by
  have HC1 := Aside0.mk (hashNew_calls w)
  go_enter Tryz.func14, Tryz.ntmps14
  go_wp2_with (first | (go_at_call 25; refine HC1.out.mono ?_; rintro e w1 ⟨rfl, hs1, hb1⟩; have HS1 := Aside0.mk hs1; have HB1 := Aside0.mk hb1; have HC2 := Aside0.mk (newBuf_bytes g w1); clear hs1 hb1) | (go_at_call 26; (first | (refine HC2.out.mono ?_; rintro e w2 ⟨rfl, hb2, hz2, hl2⟩; have HB2 := Aside0.mk hb2; have HZ2 := Aside0.mk hz2; have HL2 := Aside0.mk hl2; clear hb2 hz2 hl2) | (refine (newBuf_none _).mono ?_; rintro e w4 ⟨rfl, -, -, hl4⟩; have HL4 := Aside0.mk hl4; clear hl4))) | (go_at_call 27; refine (tee_calls _ _ _).mono ?_; rintro e w3 ⟨rfl, hw3⟩; have HW3 := Aside0.mk hw3; clear hw3))
  go_ret
  have h12 := HL2.out
  have h3 : Below w2.heap.size w2 w3 := by rw [HW3.out]; exact below_alloc (Below.refl _ _) _
  have h34 := HL4.out
  obtain ⟨W5, hW5⟩ : ∃ W5, W5 = w4.alloc (.cells #[.pointer (some ⟨w1.heap.size, 0, none⟩), .iface 97 (.pointer (some ⟨w2.heap.size, 0, none⟩)), .iface 91 (.pointer (some ⟨w.heap.size, 0, none⟩)), .pointer none, .pointer (some ⟨w3.heap.size, 0, none⟩)] 76) := ⟨_, rfl⟩
  have h5 : Below w4.heap.size w4 W5 := by rw [hW5]; exact below_alloc (Below.refl _ _) _
  have e1 := lt_of_block HS1.out
  obtain ⟨Z, hZ1, hZ2⟩ := HZ2.out
  have e2 := lt_of_block hZ2
  have ht3 : w3.heap[w2.heap.size]? = some (.cells #[.iface 71 (.pointer (some ⟨w1.heap.size, 0, none⟩)), .iface 91 (.pointer (some ⟨w.heap.size, 0, none⟩))] 99 (0, 0)) := by rw [HW3.out]; exact heap_alloc_new w2 _
  have e3 := lt_of_block ht3
  have e4 := h34.size
  have s25 : ∀ j, j < w2.heap.size → W5.heap[j]? = w2.heap[j]? := fun j hj => (h5.block j (by omega)).trans ((h34.block j (by omega)).trans (h3.block j hj))
  refine ⟨w.heap.size, w1.heap.size, w2.heap.size, w3.heap.size, w4.heap.size, rfl, ?_⟩
  rw [← hW5]
  exact ⟨(s25 _ (by omega)).trans ((h12.block _ e1).trans HS1.out), (s25 _ (by omega)).trans HB2.out, ⟨Z, hZ1, (s25 _ e2).trans hZ2⟩, ((h5.block _ (by omega)).trans (h34.block _ e3)).trans ht3, by rw [hW5]; exact heap_alloc_new w4 _, ⟨Nat.le_refl _, e1, e2, by omega⟩, HB1.out.trans ((h12.trans ((h3.trans ((h34.trans (h5.mono e4)).mono h3.size)).mono h12.size)).mono HB1.out.size)⟩
end Go.Proofs.YtllikhbafaohgaaGreatDoor.Idx
