/- Numbers of so many bytes, read through the hash. -/
import Derived.Test.YtllikhbafaohgaaGreatDoorIG
namespace Go.Proofs.YtllikhbafaohgaaGreatDoor.Idx
open Go.RowKit Go.Proofs.YtllikhbafaohgaaGreatDoorW.PrintWords Go.Proofs.YtllikhbafaohgaaGreatDoorW.PrintLast Go.Proofs.YtllikhbafaohgaaGreatDoorW.PrintMore
set_option linter.unusedVariables false
set_option linter.unusedSimpArgs false

/-- The number in bytes, the high ones first, as it is reckoned. -/
def bigOf (l : List Int) : Int := l.foldl (fun x c => Go.bits .or .u64 (IntKind.u64.wrap (x * 256)) (IntKind.u64.wrap c)) 0
/-- What a read into new memory turns. -/
def Fr0 (d : DC) (v : Value) : Nat → Prop := fun j => (j = d.c.p ∨ j = d.c.bb ∨ j = d.c.g) ∨ (j = d.h ∨ some j = v.ownBlock)
theorem Fr0.of {w w1 w' : World} {d : DC} {v : Value} {b : Nat} (h : Below w.heap.size w w1) (k : Keep w1 w' (Fr d v b)) (hb : w.heap.size ≤ b) : Keep w w' (Fr0 d v) :=
  (Keep.of_below h _).trans k (fun j hj hF => hF.elim (fun hF => by rcases hF with e | e | e | e; exact Or.inl (Or.inl e); exact Or.inl (Or.inr (Or.inl e)); exact Or.inl (Or.inr (Or.inr e)); omega) Or.inr)
theorem Fr0.trans {w w1 w2 : World} {d : DC} {v v' : Value} (h : Keep w w1 (Fr0 d v)) (o : Owns w v v') (k : Keep w1 w2 (Fr0 d v')) : Keep w w2 (Fr0 d v) :=
  h.trans k (fun j hj hF => hF.elim Or.inl (fun hF => Or.inr (hF.elim Or.inl (fun e => (o j e.symm).elim Or.inr (fun e => by omega)))))
theorem Free.fresh {w : World} {d : DC} {i : Nat} {v : Value} (hd : d.Ok) (h : St w d i v) {b : Nat} (hb : w.heap.size ≤ b) : Free d v b := by
  have hN := h.hash.le
  exact ⟨fun e => by have := hd.pN; omega, fun e => by have := hd.bN; omega, fun e => by have := hd.gN; omega, fun e => by have := hd.AN; omega, fun e => by have := hd.hN; omega, fun e => by have := hd.tN; omega, fun e => by have := (h.own b e).2; omega⟩
theorem St.below {w w' : World} {d : DC} {i : Nat} {v : Value} (hd : d.Ok) (h : St w d i v) (k : Below w.heap.size w w') : St w' d i v := h.keep hd (Keep.of_below k (fun _ => False)) (fun _ h => h.elim)
theorem Free.fr0 {d : DC} {v : Value} {b : Nat} (h : Free d v b) : ¬ Fr0 d v b := fun hF => hF.elim (fun hF => by rcases hF with e | e | e; exact h.p e; exact h.bb e; exact h.g e) (fun hF => hF.elim h.h (fun e => h.v e.symm))
theorem under178 : Tryz.prog.underlying 178 = some (.array (Tryz.prog.arrayLen 178) (Tryz.prog.elem 178)) := by kernel_rfl
theorem len178 : Tryz.prog.arrayLen 178 = 8 := by kernel_rfl
theorem size178 (W : World) : (sizeOf (Tryz.prog.elem 178)).run Tryz.prog W = .ok 1 W := by kernel_rfl
theorem slice178 (m : Nat) (hm : m ≤ 8) (b : Nat) (W : World) : (Instr.sliceAt 178 (.pointer (some ⟨b, 0, none⟩)) none (some (.int .i64 (m : Int))) none).run Tryz.prog W = .ok (.slice (some ⟨b, 0, none⟩) m 8) W := by
  rw [run_sliceAt_array_h W 178 ⟨b, 0, none⟩ under178 .i64 (m : Int) (by omega) (by rw [len178]; omega), size178, Result.andThen_ok, len178, Int.toNat_natCast]
  unfold slicedAt
  rw [if_neg (by omega), Nat.zero_mul]
  rfl
def z8 : List Value := [.int .u8 0, .int .u8 0, .int .u8 0, .int .u8 0, .int .u8 0, .int .u8 0, .int .u8 0, .int .u8 0]

set_option maxHeartbeats 8000000 in
set_option maxRecDepth 100000 in
theorem zzBig_calls {w : World} {d : DC} {i m : Nat} {v : Value} (hd : d.Ok) (H : St w d i v) (hi : i + m ≤ d.c.n) (hm : 0 < m) (hm8 : m ≤ 8) :
    Calls Tryz.prog 53 #[.iface 97 (.pointer (some ⟨d.t, 0, none⟩)), .int .i64 m] w fun e w' => e = .returned (.tuple #[.int .u64 (bigOf ((d.c.D.drop i).take m)), .nilIface]) ∧ ∃ v', St w' d (i + m) v' ∧ Owns w v v' ∧ Keep w w' (Fr0 d v) := by
  obtain ⟨W1, hW1⟩ : ∃ W1, W1 = w.alloc (.cells #[.int .u8 0, .int .u8 0, .int .u8 0, .int .u8 0, .int .u8 0, .int .u8 0, .int .u8 0, .int .u8 0] 178) := ⟨_, rfl⟩
  have hbel : Below w.heap.size w W1 := by rw [hW1]; exact below_alloc (Below.refl _ _) _
  have hnew : W1.heap[w.heap.size]? = some (.cells z8.toArray 178 (0, 0)) := by rw [hW1]; exact heap_alloc_new w _
  have hfree : Free d v w.heap.size := Free.fresh hd H (Nat.le_refl _)
  have hst1 : St W1 d i v := H.below hd hbel
  have hl8 : z8.length = 8 := rfl
  obtain ⟨xs, hxs⟩ : ∃ xs, xs = (d.c.D.drop i).take m := ⟨_, rfl⟩
  have hxl : xs.length = m := by rw [hxs, List.length_take, List.length_drop, hd.c.len]; omega
  have HC : Aside0 (Calls Tryz.prog 40 #[.iface 97 (.pointer (some ⟨d.t, 0, none⟩)), .slice (some ⟨w.heap.size, 0, none⟩) m 8] W1 fun e w' => e = .returned (.tuple #[.int .i64 m, .nilIface]) ∧ (∀ (j : Nat) (x : Int), xs[j]? = some x → w'.cell? ⟨w.heap.size, j, none⟩ = some (.int .u8 x)) ∧ ∃ v', St w' d (i + m) v' ∧ Owns w v v' ∧ Keep w w' (Fr0 d v)) := ⟨by
    refine (readFull_tee (cp := 8) hd hst1 hi hm (by omega) (by omega) (by omega) hnew hfree (by rw [hl8]; omega)).mono fun e w' ⟨h1, v', h2, h3, h4, h5⟩ => ⟨h1, ?_, v', h2, fun j hj => (h3 j hj).imp id (fun h => Nat.le_trans hbel.size h), Fr0.of hbel h5 (Nat.le_refl _)⟩
    intro j x hx
    refine cell_of h4 j ?_
    have hj := (List.getElem?_eq_some_iff.1 hx).1
    have := splice_at z8 (nums .u8 ((d.c.D.drop i).take m)) 0 j (by rw [nums_length, ← hxs]; exact hj) (Nat.zero_le _)
    rw [Nat.zero_add] at this
    rw [List.getElem?_toArray, this]
    unfold nums
    rw [List.getElem?_map, ← hxs, hx]
    rfl⟩
  have hsl := slice178 m hm8
  have HW1 := Aside0.mk hW1
  have HX := Aside0.mk hxs
  have HXl := Aside0.mk hxl
  clear hW1 hbel hnew hfree hst1 hl8 hd H hi hxl hxs
  go_enter Tryz.func53, Tryz.ntmps53
  go_wp2_with (go_at_call 40; rw [← HW1.out]; refine HC.out.mono ?_; rintro e w2 ⟨rfl, hcell, hg2⟩; have HCell := Aside0.mk hcell; have HG2 := Aside0.mk hg2; clear hcell hg2)
  go_loopg [9, 11, 25] m (fun kq v9 v11 v25 w' => ∃ k : Nat, kq + k = m ∧ v25 = .int .i64 k ∧ v9 = .int .u64 (bigOf (xs.take k)) ∧ w' = w2)
  case atStart => exact ⟨0, by omega, rfl, rfl, rfl⟩
  case round =>
    obtain ⟨k, hk, rfl, rfl, hww⟩ := hrel
    subst hww
    rcases Nat.lt_or_ge k m with hlt | hge
    · have d2 : decide (k < m) = true := decide_eq_true hlt
      obtain ⟨x, hx⟩ : ∃ x : Int, xs[k]? = some x := ⟨_, List.getElem?_eq_getElem (by rw [HXl.out]; exact hlt)⟩
      have c0 := HCell.out k x hx
      have HXk := Aside0.mk hx
      obtain ⟨y, hy⟩ : ∃ y, y = bigOf (xs.take k) := ⟨_, rfl⟩
      rw [← hy]
      have HY := Aside0.mk hy
      clear hx hy
      go_wp2_with fail
      go_roundg (m - (k + 1))
      case measure => omega
      case rel =>
        refine ⟨k + 1, by omega, by go_num, ?_, rfl⟩
        rw [List.take_add_one, HXk.out]
        unfold bigOf
        rw [List.foldl_append, show List.foldl (fun x c => Go.bits .or .u64 (IntKind.u64.wrap (x * 256)) (IntKind.u64.wrap c)) 0 (xs.take k) = y from HY.out.symm]
        rfl
    · obtain rfl : k = m := by omega
      clear hge
      go_wp2_with fail
      go_ret2
      refine ⟨?_, HG2.out⟩
      rw [← HX.out, List.take_of_length_le (by rw [HXl.out]; exact Nat.le_refl _)]
      rfl
set_option maxHeartbeats 8000000 in
set_option maxRecDepth 100000 in
/-- A number is read into a variable of four bytes. -/
theorem zzRead_u32 {w : World} {d : DC} {i b o : Nat} {v : Value} {cs : Array Value} {t : TypeId} {x0 : Int} (hd : d.Ok) (H : St w d i v) (hi : i + 4 ≤ d.c.n) (hb : Free d v b) (hbN : d.N ≤ b) (hblk : w.heap[b]? = some (.cells cs t (0, 0))) (hx : cs[o]? = some (.int .u32 x0)) :
    Calls Tryz.prog 43 #[.iface 97 (.pointer (some ⟨d.t, 0, none⟩)), .iface 105 (.pointer (some ⟨b, o, none⟩))] w fun e w' => e = .returned .nilIface ∧ w'.heap[b]? = some (.cells (cs.setIfInBounds o (.int .u32 (bigOf ((d.c.D.drop i).take 4) % 4294967296))) t (0, 0)) ∧ ∃ v', St w' d (i + 4) v' ∧ Owns w v v' ∧ Keep w w' (fun j => Fr0 d v j ∨ j = b) := by
  have HC := Aside0.mk (zzBig_calls (m := 4) hd H hi (by omega) (by omega))
  have ht0 : ∀ (x : Addr) (W : World), (Instr.typeAssert (.iface 105 (.pointer (some x))) 20 136 true).run Tryz.prog W = .ok (.tuple #[.pointer none, .bool false]) W := fun _ _ => by kernel_rfl
  have ht1 : ∀ (x : Addr) (W : World), (Instr.typeAssert (.iface 105 (.pointer (some x))) 20 139 true).run Tryz.prog W = .ok (.tuple #[.pointer none, .bool false]) W := fun _ _ => by kernel_rfl
  have htt : ∀ (x : Addr) (W : World), (Instr.typeAssert (.iface 105 (.pointer (some x))) 20 105 true).run Tryz.prog W = .ok (.tuple #[.pointer (some x), .bool true]) W := fun _ _ => by kernel_rfl
  have HD := Aside0.mk hd
  have HB := Aside0.mk hb
  have HBN := Aside0.mk hbN
  have HBlk := Aside0.mk hblk
  have HX := Aside0.mk hx
  clear hd H hi hb hbN hblk hx
  go_enter Tryz.func43, Tryz.ntmps43
  go_wp2_with (go_at_call 53; refine HC.out.mono ?_; rintro e w2 ⟨rfl, v2, hs2, ho2, hk2⟩; have HS2 := Aside0.mk hs2; have HO2 := Aside0.mk ho2; have HK2 := Aside0.mk hk2; have HBlk2 : Aside0 (w2.heap[b]? = some (.cells cs t (0, 0))) := ⟨(hk2.block b (lt_of_block HBlk.out) HB.out.fr0).trans HBlk.out⟩; have hcc : w2.cell? ⟨b, o, none⟩ = some (.int .u32 x0) := cell_of HBlk2.out o HX.out; have hff : w2.frozen? ⟨b, o, none⟩ = false := frozen_of HBlk2.out o; clear hs2 ho2 hk2)
  go_ret
  have hown : v2.ownBlock ≠ some b := (HB.out.of HO2.out (lt_of_block HBlk.out)).v
  refine ⟨rfl, set_block HBlk2.out o _, v2, ?_, HO2.out, Keep.setCell (F := fun j => Fr0 d v j ∨ j = b) (a := ⟨b, o, none⟩) (HK2.out.mono (fun _ h => Or.inl h)) (.inl (Or.inr rfl)) _⟩
  exact HS2.out.keep HD.out (Keep.setCell (F := fun j => j = b) (a := ⟨b, o, none⟩) (Keep.refl w2 _) (.inl rfl) _) (fun j e => by subst e; exact ⟨HBN.out, fun e => hown e.symm⟩)
set_option maxHeartbeats 8000000 in
set_option maxRecDepth 100000 in
/-- A number is read into a variable of two bytes. -/
theorem zzRead_u16 {w : World} {d : DC} {i b o : Nat} {v : Value} {cs : Array Value} {t : TypeId} {x0 : Int} (hd : d.Ok) (H : St w d i v) (hi : i + 2 ≤ d.c.n) (hb : Free d v b) (hbN : d.N ≤ b) (hblk : w.heap[b]? = some (.cells cs t (0, 0))) (hx : cs[o]? = some (.int .u16 x0)) :
    Calls Tryz.prog 43 #[.iface 97 (.pointer (some ⟨d.t, 0, none⟩)), .iface 139 (.pointer (some ⟨b, o, none⟩))] w fun e w' => e = .returned .nilIface ∧ w'.heap[b]? = some (.cells (cs.setIfInBounds o (.int .u16 (bigOf ((d.c.D.drop i).take 2) % 65536))) t (0, 0)) ∧ ∃ v', St w' d (i + 2) v' ∧ Owns w v v' ∧ Keep w w' (fun j => Fr0 d v j ∨ j = b) := by
  have HC := Aside0.mk (zzBig_calls (m := 2) hd H hi (by omega) (by omega))
  have ht0 : ∀ (x : Addr) (W : World), (Instr.typeAssert (.iface 139 (.pointer (some x))) 20 136 true).run Tryz.prog W = .ok (.tuple #[.pointer none, .bool false]) W := fun _ _ => by kernel_rfl
  have htt : ∀ (x : Addr) (W : World), (Instr.typeAssert (.iface 139 (.pointer (some x))) 20 139 true).run Tryz.prog W = .ok (.tuple #[.pointer (some x), .bool true]) W := fun _ _ => by kernel_rfl
  have HD := Aside0.mk hd
  have HB := Aside0.mk hb
  have HBN := Aside0.mk hbN
  have HBlk := Aside0.mk hblk
  have HX := Aside0.mk hx
  clear hd H hi hb hbN hblk hx
  go_enter Tryz.func43, Tryz.ntmps43
  go_wp2_with (go_at_call 53; refine HC.out.mono ?_; rintro e w2 ⟨rfl, v2, hs2, ho2, hk2⟩; have HS2 := Aside0.mk hs2; have HO2 := Aside0.mk ho2; have HK2 := Aside0.mk hk2; have HBlk2 : Aside0 (w2.heap[b]? = some (.cells cs t (0, 0))) := ⟨(hk2.block b (lt_of_block HBlk.out) HB.out.fr0).trans HBlk.out⟩; have hcc : w2.cell? ⟨b, o, none⟩ = some (.int .u16 x0) := cell_of HBlk2.out o HX.out; have hff : w2.frozen? ⟨b, o, none⟩ = false := frozen_of HBlk2.out o; clear hs2 ho2 hk2)
  go_ret
  have hown : v2.ownBlock ≠ some b := (HB.out.of HO2.out (lt_of_block HBlk.out)).v
  refine ⟨rfl, set_block HBlk2.out o _, v2, ?_, HO2.out, Keep.setCell (F := fun j => Fr0 d v j ∨ j = b) (a := ⟨b, o, none⟩) (HK2.out.mono (fun _ h => Or.inl h)) (.inl (Or.inr rfl)) _⟩
  exact HS2.out.keep HD.out (Keep.setCell (F := fun j => j = b) (a := ⟨b, o, none⟩) (Keep.refl w2 _) (.inl rfl) _) (fun j e => by subst e; exact ⟨HBN.out, fun e => hown e.symm⟩)
set_option maxHeartbeats 8000000 in
set_option maxRecDepth 100000 in
/-- A mode is read. -/
theorem zzRead_mode {w : World} {d : DC} {i b o : Nat} {v : Value} {cs : Array Value} {t : TypeId} {x0 : Int} (hd : d.Ok) (H : St w d i v) (hi : i + 4 ≤ d.c.n) (hb : Free d v b) (hbN : d.N ≤ b) (hblk : w.heap[b]? = some (.cells cs t (0, 0))) (hx : cs[o]? = some (.int .u32 x0)) :
    Calls Tryz.prog 43 #[.iface 97 (.pointer (some ⟨d.t, 0, none⟩)), .iface 142 (.pointer (some ⟨b, o, none⟩))] w fun e w' => e = .returned .nilIface ∧ w'.heap[b]? = some (.cells (cs.setIfInBounds o (.int .u32 (bigOf ((d.c.D.drop i).take 4) % 4294967296))) t (0, 0)) ∧ ∃ v', St w' d (i + 4) v' ∧ Owns w v v' ∧ Keep w w' (fun j => Fr0 d v j ∨ j = b) := by
  have HC := Aside0.mk (zzBig_calls (m := 4) hd H hi (by omega) (by omega))
  have ht0 : ∀ (x : Addr) (W : World), (Instr.typeAssert (.iface 142 (.pointer (some x))) 20 136 true).run Tryz.prog W = .ok (.tuple #[.pointer none, .bool false]) W := fun _ _ => by kernel_rfl
  have ht1 : ∀ (x : Addr) (W : World), (Instr.typeAssert (.iface 142 (.pointer (some x))) 20 139 true).run Tryz.prog W = .ok (.tuple #[.pointer none, .bool false]) W := fun _ _ => by kernel_rfl
  have ht2 : ∀ (x : Addr) (W : World), (Instr.typeAssert (.iface 142 (.pointer (some x))) 20 105 true).run Tryz.prog W = .ok (.tuple #[.pointer none, .bool false]) W := fun _ _ => by kernel_rfl
  have ht3 : ∀ (x : Addr) (W : World), (Instr.typeAssert (.iface 142 (.pointer (some x))) 20 141 true).run Tryz.prog W = .ok (.tuple #[.pointer none, .bool false]) W := fun _ _ => by kernel_rfl
  have htt : ∀ (x : Addr) (W : World), (Instr.typeAssert (.iface 142 (.pointer (some x))) 20 142 true).run Tryz.prog W = .ok (.tuple #[.pointer (some x), .bool true]) W := fun _ _ => by kernel_rfl
  have HD := Aside0.mk hd
  have HB := Aside0.mk hb
  have HBN := Aside0.mk hbN
  have HBlk := Aside0.mk hblk
  have HX := Aside0.mk hx
  clear hd H hi hb hbN hblk hx
  go_enter Tryz.func43, Tryz.ntmps43
  go_wp2_with (go_at_call 53; refine HC.out.mono ?_; rintro e w2 ⟨rfl, v2, hs2, ho2, hk2⟩; have HS2 := Aside0.mk hs2; have HO2 := Aside0.mk ho2; have HK2 := Aside0.mk hk2; have HBlk2 : Aside0 (w2.heap[b]? = some (.cells cs t (0, 0))) := ⟨(hk2.block b (lt_of_block HBlk.out) HB.out.fr0).trans HBlk.out⟩; have hcc : w2.cell? ⟨b, o, none⟩ = some (.int .u32 x0) := cell_of HBlk2.out o HX.out; have hff : w2.frozen? ⟨b, o, none⟩ = false := frozen_of HBlk2.out o; clear hs2 ho2 hk2)
  go_ret
  have hown : v2.ownBlock ≠ some b := (HB.out.of HO2.out (lt_of_block HBlk.out)).v
  refine ⟨rfl, set_block HBlk2.out o _, v2, ?_, HO2.out, Keep.setCell (F := fun j => Fr0 d v j ∨ j = b) (a := ⟨b, o, none⟩) (HK2.out.mono (fun _ h => Or.inl h)) (.inl (Or.inr rfl)) _⟩
  exact HS2.out.keep HD.out (Keep.setCell (F := fun j => j = b) (a := ⟨b, o, none⟩) (Keep.refl w2 _) (.inl rfl) _) (fun j e => by subst e; exact ⟨HBN.out, fun e => hown e.symm⟩)
theorem under114 : Tryz.prog.underlying 114 = some (.array (Tryz.prog.arrayLen 114) (Tryz.prog.elem 114)) := by kernel_rfl
theorem len114 : Tryz.prog.arrayLen 114 = 20 := by kernel_rfl
theorem size114 (W : World) : (sizeOf (Tryz.prog.elem 114)).run Tryz.prog W = .ok 1 W := by kernel_rfl
theorem slice114 (b o : Nat) (W : World) : (Instr.sliceAt 114 (.pointer (some ⟨b, o, none⟩)) none none none).run Tryz.prog W = .ok (.slice (some ⟨b, o, none⟩) 20 20) W := by
  rw [run_sliceAt_array_all W 114 ⟨b, o, none⟩ under114, size114, Result.andThen_ok, len114]
  rfl
set_option maxHeartbeats 8000000 in
set_option maxRecDepth 100000 in
/-- The 20 bytes of a name are read. -/
theorem zzRead_hash {w : World} {d : DC} {i b o : Nat} {v : Value} {cs : List Value} {t : TypeId} (hd : d.Ok) (H : St w d i v) (hi : i + 20 ≤ d.c.n) (hb : Free d v b) (hblk : w.heap[b]? = some (.cells cs.toArray t (0, 0))) (hfit : o + 20 ≤ cs.length) :
    Calls Tryz.prog 43 #[.iface 97 (.pointer (some ⟨d.t, 0, none⟩)), .iface 143 (.pointer (some ⟨b, o, none⟩))] w fun e w' => e = .returned .nilIface ∧ w'.heap[b]? = some (.cells (splice cs o (nums .u8 ((d.c.D.drop i).take 20))).toArray t (0, 0)) ∧ ∃ v', St w' d (i + 20) v' ∧ Owns w v v' ∧ Keep w w' (Fr d v b) := by
  have HC := Aside0.mk (readFull_tee (cp := 20) hd H hi (by omega) (by omega) (by omega) (by omega) hblk hb hfit)
  have ht0 : ∀ (x : Addr) (W : World), (Instr.typeAssert (.iface 143 (.pointer (some x))) 20 136 true).run Tryz.prog W = .ok (.tuple #[.pointer none, .bool false]) W := fun _ _ => by kernel_rfl
  have ht1 : ∀ (x : Addr) (W : World), (Instr.typeAssert (.iface 143 (.pointer (some x))) 20 139 true).run Tryz.prog W = .ok (.tuple #[.pointer none, .bool false]) W := fun _ _ => by kernel_rfl
  have ht2 : ∀ (x : Addr) (W : World), (Instr.typeAssert (.iface 143 (.pointer (some x))) 20 105 true).run Tryz.prog W = .ok (.tuple #[.pointer none, .bool false]) W := fun _ _ => by kernel_rfl
  have ht3 : ∀ (x : Addr) (W : World), (Instr.typeAssert (.iface 143 (.pointer (some x))) 20 141 true).run Tryz.prog W = .ok (.tuple #[.pointer none, .bool false]) W := fun _ _ => by kernel_rfl
  have ht4 : ∀ (x : Addr) (W : World), (Instr.typeAssert (.iface 143 (.pointer (some x))) 20 142 true).run Tryz.prog W = .ok (.tuple #[.pointer none, .bool false]) W := fun _ _ => by kernel_rfl
  have htt : ∀ (x : Addr) (W : World), (Instr.typeAssert (.iface 143 (.pointer (some x))) 20 143 true).run Tryz.prog W = .ok (.tuple #[.pointer (some x), .bool true]) W := fun _ _ => by kernel_rfl
  have hsl := slice114 b o
  clear hd H hi hb hblk hfit
  go_enter Tryz.func43, Tryz.ntmps43
  go_wp2_with (go_at_call 40; refine HC.out.mono ?_; rintro e w2 ⟨rfl, v2, hs2, ho2, hd2, hk2⟩; have HS2 := Aside0.mk hs2; have HO2 := Aside0.mk ho2; have HK2 := Aside0.mk hk2; have HD2 := Aside0.mk hd2; clear hs2 ho2 hk2 hd2)
  go_ret
  exact ⟨rfl, HD2.out, v2, HS2.out, HO2.out, HK2.out⟩
end Go.Proofs.YtllikhbafaohgaaGreatDoor.Idx
