/- bufio: a new reader; the error kept; the buffer filled at the end; Peek. -/
import Derived.Test.YtomdhahnfejfpaaDoorNC
import Derived.LaidEql
import Derived.StillTailTactics
namespace Go.Proofs.YtomdhahnfejfpaaDoor.Proto
open Go.RowKit Go.Proofs.YtomdhahnfejfpaaDoorW.PrintWords Go.Proofs.YtomdhahnfejfpaaDoorW.PrintLast Go.Proofs.YtomdhahnfejfpaaDoorW.PrintMore

theorem drawn_cell {w w1 : World} {a : Addr} {v : Value} (h : Drawn0 w w1) (hc : w.cell? a = some v) : w1.cell? a = some v := by
  obtain ⟨m, rfl⟩ := h.out
  exact hc
theorem alloc_old {w : World} {k : Nat} {x : Obj} (h : w.heap[k]? = some x) (o : Obj) : (w.alloc o).heap[k]? = some x := by
  rw [heap_alloc_old w o (Array.getElem?_eq_some_iff.1 h).1]; exact h
theorem Keep.alloc {w w1 : World} {F : Nat → Prop} (h : Keep w w1 F) (o : Obj) : Keep w (w1.alloc o) F :=
  h.trans (Keep.of_below (below_alloc (Below.refl _ _) o) F) (fun _ _ hk => hk)
theorem keep_of_drawn {w w1 : World} {k : Nat} {F : Nat → Prop} (h : Keep (w.drewN k) w1 F) : Keep w w1 F := ⟨h.os, h.tape, h.output, h.size, h.block⟩
theorem lt_of_block {w : World} {k : Nat} {x : Obj} (h : w.heap[k]? = some x) : k < w.heap.size := (Array.getElem?_eq_some_iff.1 h).1
theorem below_keep {w w1 w2 : World} {F : Nat → Prop} (h : Below w.heap.size w w1) (k : Keep w1 w2 F) (hF : ∀ j, F j → w.heap.size ≤ j) : Below w.heap.size w w2 :=
  ⟨k.os.trans h.os, k.tape.trans h.tape, k.output.trans h.output, Nat.le_trans h.size k.size, fun j hj => (k.block j (Nat.lt_of_lt_of_le hj h.size) (fun hf => by have := hF j hf; omega)).trans (h.block j hj)⟩

theorem heap_new2 (w : World) (o1 o2 : Obj) : ((w.alloc o1).alloc o2).heap[w.heap.size + 1]? = some o2 := by
  have := heap_alloc_new (w.alloc o1) o2
  rwa [show (w.alloc o1).heap.size = w.heap.size + 1 from by show (w.heap.push o1).size = _; simp] at this
theorem size_le_alloc (w : World) (o : Obj) : w.heap.size ≤ (w.alloc o).heap.size := by show w.heap.size ≤ (w.heap.push o).size; simp
theorem grown_old {w w' : World} {row : Option Nat} {k : Nat} {x : Obj} (h : w.grownBy w' row) (hk : w.heap[k]? = some x) (hr : some k ≠ row) : w'.heap[k]? = some x := (h.block k (lt_of_block hk) hr).trans hk
set_option maxHeartbeats 1000000 in
set_option maxRecDepth 100000 in
theorem readErr_calls {w : World} {p bb g : Nat} {r wv : Int} {ev : Value} {lb lr : Int} (hb : Bio w p bb g r wv ev lb lr) : Calls Tryd.prog 52 #[.pointer (some ⟨p, 0, none⟩)] w fun e w' => e = .returned ev ∧ Bio w' p bb g r wv .nilIface lb lr ∧ Keep w w' (fun j => j = p) := by
  have HB := Aside0.mk hb
  have c4 := hb.c4
  have f4 := hb.f 4
  clear hb
  go_enter Tryd.func52, Tryd.ntmps52
  go_wp2_with fail
  go_ret
  exact ⟨rfl, HB.out.set4 _, Keep.setCell (F := fun j => j = p) (a := ⟨p, 4, none⟩) (Keep.refl w _) (.inl rfl) _⟩
set_option maxHeartbeats 1000000 in
set_option maxRecDepth 100000 in
theorem reset_calls {w : World} {p bb g : Nat} (hb : w.heap[p]? = some (.cells #[.slice none 0 0, .nilIface, .int .i64 0, .int .i64 0, .nilIface, .int .i64 0, .int .i64 0] 85 (0, 0))) : Calls Tryd.prog 41 #[.pointer (some ⟨p, 0, none⟩), .slice (some ⟨bb, 0, none⟩) 4096 4096, .iface 42 (.pointer (some ⟨g, 0, none⟩))] w fun e w' => e = .returned (.tuple #[]) ∧ Bio w' p bb g 0 0 .nilIface (-1) (-1) ∧ Keep w w' (fun j => j = p) := by
  have HB := Aside0.mk hb
  have f := fun j => frozen_of hb j
  have c0 : w.cell? ⟨p, 0, none⟩ = some (.slice none 0 0) := cell_of hb 0 rfl
  have c1 : w.cell? ⟨p, 1, none⟩ = some .nilIface := cell_of hb 1 rfl
  have c2 : w.cell? ⟨p, 2, none⟩ = some (.int .i64 0) := cell_of hb 2 rfl
  have c3 : w.cell? ⟨p, 3, none⟩ = some (.int .i64 0) := cell_of hb 3 rfl
  have c4 : w.cell? ⟨p, 4, none⟩ = some .nilIface := cell_of hb 4 rfl
  have c5 : w.cell? ⟨p, 5, none⟩ = some (.int .i64 0) := cell_of hb 5 rfl
  have c6 : w.cell? ⟨p, 6, none⟩ = some (.int .i64 0) := cell_of hb 6 rfl
  clear hb
  go_enter Tryd.func41, Tryd.ntmps41
  go_wp2_with fail
  go_end0
  refine ⟨rfl, ?_, ?_⟩
  · have h1 := set_block (set_block (set_block (set_block (set_block (set_block (set_block HB.out 0 (.slice (some ⟨bb, 0, none⟩) 4096 4096)) 1 (.iface 42 (.pointer (some ⟨g, 0, none⟩)))) 2 (.int .i64 0)) 3 (.int .i64 0)) 4 .nilIface) 5 (.int .i64 (-1))) 6 (.int .i64 (-1))
    exact h1
  · have K0 := Keep.refl w (fun j => j = p)
    exact ((((((K0.setCell (a := ⟨p, 0, none⟩) (.inl rfl) _).setCell (a := ⟨p, 1, none⟩) (.inl rfl) _).setCell (a := ⟨p, 2, none⟩) (.inl rfl) _).setCell (a := ⟨p, 3, none⟩) (.inl rfl) _).setCell (a := ⟨p, 4, none⟩) (.inl rfl) _).setCell (a := ⟨p, 5, none⟩) (.inl rfl) _).setCell (a := ⟨p, 6, none⟩) (.inl rfl) _
theorem make_4096 : ∃ Z : Array Value, Z.size = 4096 ∧ ∀ W : World, (Instr.makeSlice 22 (.int .i64 4096) (.int .i64 4096)).run Tryd.prog W = .ok (.slice (some ⟨W.heap.size, 0, none⟩) 4096 4096) (W.alloc (.cells Z 5)) := by
  obtain ⟨i, hi, hz, hs, hb⟩ := info_parts PFnProtoNak.info5
  refine ⟨madeCells (Value.int .u8 0).cells 4096, ?_, fun W => ?_⟩
  · rw [size_madeCells]
  · have := run_makeSlice (P := Tryd.prog) W 22 5 i (.int .u8 0) Tryd.underlying22 hi hz .i64 .i64 4096 4096 (by omega) (by omega) (by rw [hs]; omega) (by rw [hb]; omega) (by omega)
    rw [hs] at this
    simpa using this
set_option maxHeartbeats 4000000 in
set_option maxRecDepth 100000 in
theorem newReaderSize_calls (g : Nat) (w : World) : Calls Tryd.prog 27 #[.iface 42 (.pointer (some ⟨g, 0, none⟩)), .int .i64 4096] w fun e w' => e = .returned (.pointer (some ⟨w.heap.size, 0, none⟩)) ∧ Bio w' w.heap.size (w.heap.size + 1) g 0 0 .nilIface (-1) (-1) ∧ (∃ Z : Array Value, Z.size = 4096 ∧ w'.heap[w.heap.size + 1]? = some (.cells Z 5 (0, 0))) ∧ Below w.heap.size w w' := by
  obtain ⟨Z, hZ, hmake⟩ := make_4096
  have HZ := Aside0.mk hZ
  have hta : ∀ (x : Addr) (W : World), (Instr.typeAssert (.iface 42 (.pointer (some x))) 55 49 true).run Tryd.prog W = .ok (.tuple #[.pointer none, .bool false]) W := fun _ _ => by kernel_rfl
  clear hZ
  go_enter Tryd.func27, Tryd.ntmps27
  obtain ⟨p, hp⟩ : ∃ p, p = w.heap.size := ⟨_, rfl⟩
  obtain ⟨W1, hW1⟩ : ∃ W1, W1 = (w.alloc (.cells #[.slice none 0 0, .nilIface, .int .i64 0, .int .i64 0, .nilIface, .int .i64 0, .int .i64 0] 85)).alloc (.cells Z 5) := ⟨_, rfl⟩
  have HW1 := Aside0.mk hW1
  have HB1 : Aside0 (Below w.heap.size w W1) := ⟨by rw [hW1]; exact below_alloc (below_alloc (Below.refl _ _) _) _⟩
  have HBB : Aside0 (W1.heap[w.heap.size + 1]? = some (.cells Z 5 (0, 0))) := ⟨by rw [hW1]; exact heap_new2 w _ _⟩
  have HC := Aside0.mk (reset_calls (w := W1) (p := w.heap.size) (bb := w.heap.size + 1) (g := g) (by rw [hW1]; exact alloc_old (heap_alloc_new w _) _))
  clear hW1 hp
  go_wp2_with (go_at_call 41; rw [← HW1.out]; refine HC.out.mono ?_; rintro e w2 ⟨rfl, hb, hk⟩; have HB := Aside0.mk hb; have HK := Aside0.mk hk; clear hb hk)
  go_ret
  exact ⟨rfl, HB.out, ⟨Z, HZ.out, (HK.out.block _ (lt_of_block HBB.out) (by omega)).trans HBB.out⟩, below_keep HB1.out HK.out (fun j hj => by omega)⟩
set_option maxHeartbeats 4000000 in
set_option maxRecDepth 100000 in
theorem newBuf_calls (g : Nat) (w : World) : Calls Tryd.prog 18 #[.iface 42 (.pointer (some ⟨g, 0, none⟩))] w fun e w' => e = .returned (.pointer (some ⟨w.heap.size, 0, none⟩)) ∧ Bio w' w.heap.size (w.heap.size + 1) g 0 0 .nilIface (-1) (-1) ∧ (∃ Z : Array Value, Z.size = 4096 ∧ w'.heap[w.heap.size + 1]? = some (.cells Z 5 (0, 0))) ∧ Below w.heap.size w w' := by
  have HC := Aside0.mk (newReaderSize_calls g w)
  go_enter Tryd.func18, Tryd.ntmps18
  go_wp2_with (go_at_call 27; refine HC.out.mono ?_; rintro e w2 ⟨rfl, h1, h2, h3⟩; have H1 := Aside0.mk h1; have H2 := Aside0.mk h2; have H3 := Aside0.mk h3; clear h1 h2 h3)
  go_ret
  exact ⟨rfl, H1.out, H2.out, H3.out⟩
theorem cut_from0 (bb a : Nat) (h3 : a ≤ 4095) : ∀ W : World, (Instr.slice 22 (.slice (some ⟨bb, 0, none⟩) 4096 4096) (some (.int .i64 (a : Int))) none none).run Tryd.prog W = .ok (.slice (some ⟨bb, a, none⟩) (4096 - a) (4096 - a)) W := by
  obtain ⟨i0, hi, _, hsz, _⟩ := info_parts PFnProtoNak.info5
  intro W
  have := cut_from (P := Tryd.prog) 22 5 .i64 Tryd.underlying22 hi 1 hsz (some ⟨bb, 0, none⟩) 4096 4096 (a : Int) (by omega) (by omega) W
  rw [this, Int.toNat_natCast, if_neg (by omega), Nat.mul_one]
  have e : (⟨bb, 0, none⟩ : Addr).add a = ⟨bb, a, none⟩ := by unfold Addr.add; split <;> simp_all
  rw [Option.map_some, e]
set_option maxHeartbeats 8000000 in
set_option maxRecDepth 100000 in
/-- The buffer is filled where nothing more comes: what is left is put in front, and the error is kept. -/
theorem fill_end {w : World} {p bb g k k8 n cap : Nat} {A q1 : Addr} {lb lr pr : Int} {K : List Int} {cs : List Value} (hb : Bio w p bb g 8 k .nilIface lb lr) (hrow : Row w bb K cs) (hKl : K.length = k) (hk : k = k8 + 8) (hk2 : k ≤ 4095) (hr : Rdr w g A n cap n pr)
    (he : w.cell? ⟨0, 0, none⟩ = some (.iface 98 (.pointer (some q1)))) (hpb : p ≠ bb) (hpg : p ≠ g) (hbg : bb ≠ g) (h0p : 0 ≠ p) (h0b : 0 ≠ bb) :
    Calls Tryd.prog 51 #[.pointer (some ⟨p, 0, none⟩)] w fun e w' => e = .returned (.tuple #[]) ∧ Bio w' p bb g 0 k8 (.iface 98 (.pointer (some q1))) lb lr ∧ (∃ cs', Row w' bb (K.drop 8) cs') ∧ Keep w w' (fun j => j = p ∨ j = bb) := by
  have hna : ∀ (x : Addr) (W : World), (nilAhead 245 42 (.pointer (some x)) "Read").run Tryd.prog W = .ok (some false) W := fun _ _ => by kernel_rfl
  have hme : ∀ (x : Addr) (W : World), (method 245 42 (.pointer (some x)) "Read").run Tryd.prog W = .ok (78, .pointer (some x)) W := fun _ _ => by kernel_rfl
  have HB := Aside0.mk hb
  have HR := Aside0.mk hrow
  have HRd := Aside0.mk hr
  have HE := Aside0.mk he
  have HN := Aside0.mk (⟨hpb, hpg, hbg, h0p, h0b⟩ : p ≠ bb ∧ p ≠ g ∧ bb ≠ g ∧ 0 ≠ p ∧ 0 ≠ bb)
  have HKl := Aside0.mk hKl
  have c0 := hb.c0
  have c2 := hb.c2
  have c3 := hb.c3
  have hcut := cut_rw bb 8 k (by omega) (by omega) (by omega)
  have i1 : (8 : Int) ≤ (k : Int) := by omega
  have i2 : (k : Int) ≤ 4096 := by omega
  have HS : Aside0 (∀ (j : Nat) (v : Value), (iv (K.drop 8))[j]? = some v → w.cell? ⟨bb, 8 + j, none⟩ = some v) := ⟨fun j v hv => hrow.cell (8 + j) v (by
    unfold iv at hv ⊢
    rw [List.map_drop, List.getElem?_drop] at hv
    exact hv)⟩
  have HKd : Aside0 ((K.drop 8).length = k8) := ⟨by rw [List.length_drop]; omega⟩
  have HK8 := Aside0.mk hk
  clear hb hrow hr he hpb hpg hbg h0p h0b hKl hk
  go_enter Tryd.func51, Tryd.ntmps51
  go_wp2_with fail
  go_region_held3 (fun w' => w'.cell? ⟨p, 0, none⟩ = some (.slice (some ⟨bb, 0, none⟩) 4096 4096) ∧ w'.cell? ⟨p, 2, none⟩ = some (.int .i64 8) ∧ w'.cell? ⟨p, 3, none⟩ = some (.int .i64 (k : Int))) (first | (exact ⟨c0, c2, c3⟩) | (exact k2)) ((refine step_copy_at rfl (.tmp 13) (.tmp 26) 22 22 rfl 5 Tryd.underlying22 size5 bb 0 4096 4096 ⟨bb, 8, none⟩ (k - 8) (4096 - 8) ?hd ?hs cs 5 ?hg (iv (K.drop 8)) ?hn ?hsrc ?hfit ?h1 ?_; (case hd => rfl); (case hs => rfl); (case hg => exact HR.out.blk); (case hn => rw [iv_length, HKd.out]; show k8 = Nat.min (k - 8) 4096; have : Nat.min (k - 8) 4096 = k - 8 := Nat.min_eq_left (by omega); rw [this, HK8.out]; omega); (case hsrc => intro j v hj; rw [add_off]; exact HS.out j v hj); (case hfit => rw [iv_length, HKd.out, HR.out.len]; have := HK8.out; omega); (case h1 => exact iv_one _); intro w2 hw2; have HB2 : Aside0 (Bio w2 p bb g 8 k .nilIface lb lr) := ⟨by rw [hw2.out]; exact (setRow_other _ bb p _ HN.out.1).trans HB.out⟩; have HR2 : Aside0 (Row w2 bb (K.drop 8) (splice cs 0 (iv (K.drop 8)))) := ⟨⟨by rw [hw2.out]; exact setRow_heap _ bb _ _ 5 _ HR.out.blk, by rw [splice_length _ _ _ (by rw [iv_length, HKd.out, HR.out.len]; have := HK8.out; omega)]; exact HR.out.len, fun j v hv => by rw [splice_at0 _ _ _ (List.getElem?_eq_some_iff.1 hv).1]; exact hv⟩⟩; have HK2 : Aside0 (Keep w w2 (fun j => j = p ∨ j = bb)) := ⟨by rw [hw2.out]; exact Keep.setRow (F := fun j => j = p ∨ j = bb) ((Keep.refl w _).drewN 1) (.inl (Or.inr rfl)) _⟩; clear hw2; have k2 : w2.cell? ⟨p, 0, none⟩ = some (.slice (some ⟨bb, 0, none⟩) 4096 4096) ∧ w2.cell? ⟨p, 2, none⟩ = some (.int .i64 8) ∧ w2.cell? ⟨p, 3, none⟩ = some (.int .i64 (k : Int)) := ⟨HB2.out.c0, HB2.out.c2, HB2.out.c3⟩))
  have f3 := HB2.out.f 3
  have c2 := k2.2.1
  have c3 := k2.2.2
  have e8 : IntKind.i64.wrap ((k : Int) - 8) = (k8 : Int) := by rw [IntWalk.i64_in _ (by omega)]; have := HK8.out; omega
  clear k2 hcut
  go_wp2_with fail
  go_still_tail 11, (by kernel_rfl)
  change wpList _ _ _ _ _ w2.drew
  have f2 := HB2.out.f 2
  go_wp2_with fail
  obtain ⟨W3, hW3⟩ : ∃ W3, W3 = ((w2.setCell ⟨p, 3, none⟩ (.int .i64 (k8 : Int))).setCell ⟨p, 2, none⟩ (.int .i64 0)).drew := ⟨_, rfl⟩
  rw [← hW3]
  have HB3 : Aside0 (Bio W3 p bb g 0 k8 .nilIface lb lr) := ⟨by rw [hW3]; exact (HB2.out.set3 _).set2 _⟩
  have HK3 : Aside0 (Keep w W3 (fun j => j = p ∨ j = bb)) := ⟨by rw [hW3]; exact Keep.drewN (Keep.setCell (F := fun j => j = p ∨ j = bb) (a := ⟨p, 2, none⟩) (Keep.setCell (F := fun j => j = p ∨ j = bb) (a := ⟨p, 3, none⟩) HK2.out (.inl (Or.inl rfl)) _) (.inl (Or.inl rfl)) _) 1⟩
  have HR3 : Aside0 (Row W3 bb (K.drop 8) (splice cs 0 (iv (K.drop 8)))) := ⟨⟨by rw [hW3]; exact set_other (w := w2.setCell ⟨p, 3, none⟩ (.int .i64 (k8 : Int))) 2 _ HN.out.1.symm (set_other 3 _ HN.out.1.symm HR2.out.blk), HR2.out.len, HR2.out.has⟩⟩
  have HRd3 : Aside0 (Rdr W3 g A n cap n pr) := ⟨(HK3.out.block g (lt_of_block HRd.out) (fun h => h.elim HN.out.2.1.symm HN.out.2.2.1.symm)).trans HRd.out⟩
  have HE3 : Aside0 (W3.cell? ⟨0, 0, none⟩ = some (.iface 98 (.pointer (some q1)))) := ⟨HK3.out.cell HE.out (fun h => h.elim HN.out.2.2.2.1 HN.out.2.2.2.2)⟩
  clear hW3 c0 c2 c3 f2 f3 e8 i1 i2 HB2 HK2 HR2 HS HR HB
  have hk8 : k8 ≤ 4087 := by have := HK8.out; omega
  have c0 := HB3.out.c0
  have c3 := HB3.out.c3
  have d1 : decide (4096 ≤ k8) = false := decide_eq_false (by omega)
  go_quiet (fail)
  go_wp2_with fail
  obtain ⟨W4, hW4⟩ : ∃ W4, W4 = W3.drewN nq := ⟨_, rfl⟩
  rw [← hW4]
  have HB4 : Aside0 (Bio W4 p bb g 0 k8 .nilIface lb lr) := ⟨by rw [hW4]; exact HB3.out⟩
  have HC : Aside0 (∀ (q : Nat) (v : Value), Calls Tryd.prog 78 #[.pointer (some ⟨g, 0, none⟩), v] (W4.drewN q) fun e w' => e = .returned (.tuple #[.int .i64 0, .iface 98 (.pointer (some q1))]) ∧ Drawn0 W4 w') := ⟨fun q v => by
    refine (read_end g A n cap pr v _ (W4.drewN q) (by rw [hW4]; exact HRd3.out) (by rw [hW4]; exact HE3.out)).mono fun e w' ⟨h1, h2⟩ => ⟨h1, drawn_trans ⟨⟨q, rfl⟩⟩ h2⟩⟩
  have HK4 : Aside0 (Keep w W4 (fun j => j = p ∨ j = bb)) := ⟨by rw [hW4]; exact HK3.out.drewN nq⟩
  have HR4 : Aside0 (Row W4 bb (K.drop 8) (splice cs 0 (iv (K.drop 8)))) := ⟨⟨by rw [hW4]; exact HR3.out.blk, HR3.out.len, HR3.out.has⟩⟩
  clear hW4 c0 c3 HB3 HK3 HR3 HRd3 HE3 HE HRd
  go_loopg [2, 3, 4] 1 (fun kq v2 v3 v4 w' => v2 = .int .i64 100 ∧ w' = W4)
  case atStart => exact ⟨rfl, rfl⟩
  case round =>
    obtain ⟨rfl, hww⟩ := hrel
    subst hww
    have hcut := cut_from0 bb k8 (by omega)
    have c0 := HB4.out.c0
    have c1 := HB4.out.c1
    have c3 := HB4.out.c3
    have f3 := HB4.out.f 3
    have f4 := HB4.out.f 4
    have c4 := HB4.out.c4
    have i1 : (0 : Int) ≤ (k8 : Int) := by omega
    have i2 : (k8 : Int) ≤ 4096 := by omega
    go_wp2_with fail
    go_region_held3 (fun w' => w'.cell? ⟨p, 0, none⟩ = some (.slice (some ⟨bb, 0, none⟩) 4096 4096) ∧ w'.cell? ⟨p, 1, none⟩ = some (.iface 42 (.pointer (some ⟨g, 0, none⟩))) ∧ w'.cell? ⟨p, 3, none⟩ = some (.int .i64 (k8 : Int))) (first | (exact ⟨c0, c1, c3⟩) | (exact k2)) ((go_at_call 78; refine (HC.out _ _).mono ?_; rintro e w5 ⟨rfl, hd⟩; have HD5 := Aside0.mk hd; have k2 : w5.cell? ⟨p, 0, none⟩ = some (.slice (some ⟨bb, 0, none⟩) 4096 4096) ∧ w5.cell? ⟨p, 1, none⟩ = some (.iface 42 (.pointer (some ⟨g, 0, none⟩))) ∧ w5.cell? ⟨p, 3, none⟩ = some (.int .i64 (k8 : Int)) := ⟨drawn_cell hd c0, drawn_cell hd c1, drawn_cell hd c3⟩; clear hd))
    have HB5 : Aside0 (Bio w5 p bb g 0 k8 .nilIface lb lr) := ⟨by obtain ⟨m, rfl⟩ := HD5.out.out; exact HB4.out⟩
    have HK5 : Aside0 (Keep w w5 (fun j => j = p ∨ j = bb)) := ⟨by obtain ⟨m, rfl⟩ := HD5.out.out; exact HK4.out.drewN m⟩
    have HR5 : Aside0 (Row w5 bb (K.drop 8) (splice cs 0 (iv (K.drop 8)))) := ⟨⟨by obtain ⟨m, rfl⟩ := HD5.out.out; exact HR4.out.blk, HR4.out.len, HR4.out.has⟩⟩
    clear c0 c1 c3 c4 f3 f4 hcut k2
    have c3 := HB5.out.c3
    have f3 := HB5.out.f 3
    have f4 := HB5.out.f 4
    have c4 := HB5.out.c4
    go_wp2_with fail
    (try simp only [Exit.inBlock, Exit.then])
    refine bodyPost_ret (results_none rfl _ _ _) rfl ?_
    refine ⟨rfl, (HB5.out.set3 _).set4 _, ⟨_, ⟨set_other (w := w5.setCell ⟨p, 3, none⟩ (.int .i64 (k8 : Int))) 4 _ HN.out.1.symm (set_other 3 _ HN.out.1.symm HR5.out.blk), HR5.out.len, HR5.out.has⟩⟩, Keep.setCell (F := fun j => j = p ∨ j = bb) (a := ⟨p, 4, none⟩) (Keep.setCell (F := fun j => j = p ∨ j = bb) (a := ⟨p, 3, none⟩) HK5.out (.inl (Or.inl rfl)) _) (.inl (Or.inl rfl)) _⟩
set_option maxHeartbeats 8000000 in
set_option maxRecDepth 100000 in
/-- Seven bytes are there. -/
theorem peek_some {w : World} {p bb g k : Nat} {lb lr : Int} {K : List Int} {cs : List Value} (hb : Bio w p bb g 8 k .nilIface lb lr) (hrow : Row w bb K cs) (hk1 : 15 ≤ k) (hk2 : k ≤ 4096) (hpb : p ≠ bb) :
    Calls Tryd.prog 39 #[.pointer (some ⟨p, 0, none⟩), .int .i64 7] w fun e w' => e = .returned (.tuple #[.slice (some ⟨bb, 8, none⟩) 7 4088, .nilIface]) ∧ Row w' bb K cs ∧ Keep w w' (fun j => j = p) := by
  have HB := Aside0.mk hb
  have HR := Aside0.mk hrow
  have HN := Aside0.mk hpb
  have c5 := hb.c5
  have c6 := hb.c6
  have f5 := hb.f 5
  have f6 := hb.f 6
  clear hb hrow hpb
  go_enter Tryd.func39, Tryd.ntmps39
  go_wp2_with fail
  obtain ⟨W1, hW1⟩ : ∃ W1, W1 = (w.setCell ⟨p, 5, none⟩ (.int .i64 (-1))).setCell ⟨p, 6, none⟩ (.int .i64 (-1)) := ⟨_, rfl⟩
  rw [← hW1]
  have HB1 : Aside0 (Bio W1 p bb g 8 k .nilIface (-1) (-1)) := ⟨by rw [hW1]; exact (HB.out.set5 _).set6 _⟩
  have HK1 : Aside0 (Keep w W1 (fun j => j = p)) := ⟨by rw [hW1]; exact Keep.setCell (F := fun j => j = p) (a := ⟨p, 6, none⟩) (Keep.setCell (F := fun j => j = p) (a := ⟨p, 5, none⟩) (Keep.refl w _) (.inl rfl) _) (.inl rfl) _⟩
  clear hW1 c5 c6 f5 f6 HB
  have c0 := HB1.out.c0
  have c2 := HB1.out.c2
  have c3 := HB1.out.c3
  have c4 := HB1.out.c4
  have i1 : (15 : Int) ≤ (k : Int) := by omega
  have i2 : (k : Int) ≤ 4096 := by omega
  have e8 : IntKind.i64.wrap ((k : Int) - 8) = (k : Int) - 8 := IntWalk.i64_in _ (by omega)
  have e9 : wrap64 ((k : Int) - 8) = (k : Int) - 8 := by unfold wrap64; omega
  have d1 : decide ((k : Int) - 8 < 7) = false := decide_eq_false (by omega)
  go_loopg [] 1 (fun kq w' => w' = W1)
  case atStart => exact rfl
  case round =>
    subst hrel
    go_wp2_with fail
    go_quiet (fail)
    go_wp2_with fail
    have hcut : ∀ W : World, (Instr.slice 22 (.slice (some ⟨bb, 0, none⟩) 4096 4096) (some (.int .i64 8)) (some (.int .i64 15)) none).run Tryd.prog W = .ok (.slice (some ⟨bb, 8, none⟩) 7 4088) W := cut_rw bb 8 15 (by omega) (by omega) (by omega)
    have e15 : IntKind.i64.wrap 15 = 15 := by decide
    go_quiet (fail)
    go_wp2_with fail
    go_quiet (fail)
    go_wp2_with fail
    go_ret2
    exact ⟨rfl, HR.out.keep ((HK1.out.drewN _).drewN _) (fun h => HN.out h.symm), (HK1.out.drewN _).drewN _⟩
set_option maxHeartbeats 8000000 in
set_option maxRecDepth 100000 in
/-- Fewer than seven bytes are there: these, and the error. -/
theorem peek_end {w : World} {p bb g k k8 n cap : Nat} {A q1 : Addr} {lb lr pr : Int} {K : List Int} {cs : List Value} (hb : Bio w p bb g 8 k .nilIface lb lr) (hrow : Row w bb K cs) (hKl : K.length = k) (hk : k = k8 + 8) (hk2 : k ≤ 14) (hr : Rdr w g A n cap n pr)
    (he : w.cell? ⟨0, 0, none⟩ = some (.iface 98 (.pointer (some q1)))) (hpb : p ≠ bb) (hpg : p ≠ g) (hbg : bb ≠ g) (h0p : 0 ≠ p) (h0b : 0 ≠ bb) :
    Calls Tryd.prog 39 #[.pointer (some ⟨p, 0, none⟩), .int .i64 7] w fun e w' => (∃ v, e = .returned (.tuple #[v, .iface 98 (.pointer (some q1))])) ∧ Keep w w' (fun j => j = p ∨ j = bb) := by
  have HB := Aside0.mk hb
  have HN := Aside0.mk (⟨hpb, hpg, hbg, h0p, h0b⟩ : p ≠ bb ∧ p ≠ g ∧ bb ≠ g ∧ 0 ≠ p ∧ 0 ≠ bb)
  have hk8 : k8 ≤ 6 := by omega
  obtain ⟨W1, hW1⟩ : ∃ W1, W1 = (w.setCell ⟨p, 5, none⟩ (.int .i64 (-1))).setCell ⟨p, 6, none⟩ (.int .i64 (-1)) := ⟨_, rfl⟩
  have HB1 : Aside0 (Bio W1 p bb g 8 k .nilIface (-1) (-1)) := ⟨by rw [hW1]; exact (hb.set5 _).set6 _⟩
  have HK1 : Aside0 (Keep w W1 (fun j => j = p)) := ⟨by rw [hW1]; exact Keep.setCell (F := fun j => j = p) (a := ⟨p, 6, none⟩) (Keep.setCell (F := fun j => j = p) (a := ⟨p, 5, none⟩) (Keep.refl w _) (.inl rfl) _) (.inl rfl) _⟩
  have HC : Aside0 (∀ q, Calls Tryd.prog 51 #[.pointer (some ⟨p, 0, none⟩)] (W1.drewN q) fun e w' => e = .returned (.tuple #[]) ∧ Bio w' p bb g 0 k8 (.iface 98 (.pointer (some q1))) (-1) (-1) ∧ Keep w w' (fun j => j = p ∨ j = bb)) := ⟨fun q => by
    have k1 : Keep w (W1.drewN q) (fun j => j = p) := HK1.out.drewN q
    refine (fill_end (w := W1.drewN q) (k8 := k8) HB1.out (hrow.keep k1 (fun h => hpb h.symm)) hKl hk (by omega) (n := n) (cap := cap) (A := A) (pr := pr) ((k1.block g (lt_of_block hr) (fun h => hpg h.symm)).trans hr) (k1.cell he (fun h => h0p h)) hpb hpg hbg h0p h0b).mono fun e w' ⟨h1, h2, _, h4⟩ => ⟨h1, h2, (k1.mono (fun _ h => Or.inl h)).trans h4 (fun _ _ h => h)⟩⟩
  have HW1 := Aside0.mk hW1
  have HK8 := Aside0.mk hk
  have c5 := hb.c5
  have c6 := hb.c6
  have f5 := hb.f 5
  have f6 := hb.f 6
  clear hb hrow hKl hk hr he hpb hpg hbg h0p h0b hW1
  go_enter Tryd.func39, Tryd.ntmps39
  go_wp2_with fail
  rw [← HW1.out]
  clear c5 c6 f5 f6 HB
  go_loopg [] 1 (fun kq w' => (Aside0 (kq = 1) ∧ w' = W1) ∨ (Aside0 (Bio w' p bb g 0 k8 (.iface 98 (.pointer (some q1))) (-1) (-1)) ∧ Aside0 (Keep w w' (fun j => j = p ∨ j = bb))))
  case atStart => exact .inl ⟨⟨rfl⟩, rfl⟩
  case round =>
    rcases hrel with ⟨HK, hww⟩ | ⟨HB, HK⟩
    · subst hww
      have c0 := HB1.out.c0
      have c2 := HB1.out.c2
      have c3 := HB1.out.c3
      have c4 := HB1.out.c4
      have e8 : IntKind.i64.wrap ((k : Int) - 8) = (k8 : Int) := by rw [IntWalk.i64_in _ (by omega)]; have := HK8.out; omega
      have d1 : decide ((k8 : Int) < 7) = true := decide_eq_true (by omega)
      have d2 : decide ((k8 : Int) < 4096) = true := decide_eq_true (by omega)
      go_wp2_with fail
      go_quiet (fail)
      go_wp2_with (go_at_call 51; refine (HC.out _).mono ?_; rintro e w2 ⟨rfl, hb2, hk2'⟩; have HB2 := Aside0.mk hb2; have HK2 := Aside0.mk hk2'; clear hb2 hk2')
      obtain rfl : gk = 1 := HK.out
      go_roundg 0
      case measure => omega
      case rel => exact .inr ⟨HB2, HK2⟩
    · have c0 := HB.out.c0
      have c2 := HB.out.c2
      have c3 := HB.out.c3
      have c4 := HB.out.c4
      have d1 : decide ((k8 : Int) < 7) = true := decide_eq_true (by omega)
      have d2 : decide ((k8 : Int) < 4096) = true := decide_eq_true (by omega)
      have e8 : IntKind.i64.wrap (k8 : Int) = (k8 : Int) := IntWalk.i64_in _ (by omega)
      go_wp2_with fail
      go_quiet (fail)
      go_wp2_with fail
      go_quiet (fail)
      have HCe : Aside0 (∀ a, Calls Tryd.prog 52 #[.pointer (some ⟨p, 0, none⟩)] (wr.drewN a) fun e w' => e = .returned (.iface 98 (.pointer (some q1))) ∧ Bio w' p bb g 0 k8 .nilIface (-1) (-1) ∧ Keep w w' (fun j => j = p ∨ j = bb)) := ⟨fun a => (readErr_calls (w := wr.drewN a) HB.out).mono fun e w' ⟨h1, h2, h3⟩ => ⟨h1, h2, (HK.out.drewN a).trans h3 (fun _ _ h => Or.inl h)⟩⟩
      clear c0 c2 c3 c4
      go_wp2_with (go_at_call 52; refine (HCe.out _).mono ?_; rintro e w3 ⟨rfl, hb3, hk3⟩; have HB3 := Aside0.mk hb3; have HK3 := Aside0.mk hk3; have c0 := hb3.c0; have c2 := hb3.c2; clear hb3 hk3)
      have hcut : ∀ W : World, (Instr.slice 22 (.slice (some ⟨bb, 0, none⟩) 4096 4096) (some (.int .i64 0)) (some (.int .i64 (k8 : Int))) none).run Tryd.prog W = .ok (.slice (some ⟨bb, 0, none⟩) k8 4096) W := cut_rw bb 0 k8 (by omega) (by omega) (by omega)
      go_quiet (fail)
      go_wp2_with fail
      go_ret2
      exact ⟨⟨_, rfl⟩, HK3.out.drewN _⟩
end Go.Proofs.YtomdhahnfejfpaaDoor.Proto
