/- bufio.Reader.Read: the first four bytes, with the buffer filled; and the next four. -/
import Derived.Test.YtomdhahnfejfpaaDoorNB
import Derived.IntWalk
namespace Go.Proofs.YtomdhahnfejfpaaDoor.Proto
open Go.RowKit Go.Proofs.YtomdhahnfejfpaaDoorW.PrintWords Go.Proofs.YtomdhahnfejfpaaDoorW.PrintLast Go.Proofs.YtomdhahnfejfpaaDoorW.PrintMore

theorem set_block {w : World} {q : Nat} {cs : Array Value} {t : TypeId} (h : w.heap[q]? = some (.cells cs t (0, 0))) (j : Nat) (v : Value) : (w.setCell ⟨q, j, none⟩ v).heap[q]? = some (.cells (cs.setIfInBounds j v) t (0, 0)) := by
  rw [setCell_eq_setRow w q j cs t (0, 0) v h]
  exact setRow_heap w q cs _ t _ h
theorem set_other {w : World} {q k : Nat} (j : Nat) (v : Value) (hk : k ≠ q) {x : Option Obj} (h : w.heap[k]? = x) : (w.setCell ⟨q, j, none⟩ v).heap[k]? = x := (Below.heap_setCell w ⟨q, j, none⟩ v k hk).trans h
theorem Keep.cell {w w1 : World} {F : Nat → Prop} (h : Keep w w1 F) {a : Addr} {v : Value} (hc : w.cell? a = some v) (hF : ¬ F a.block) : w1.cell? a = some v :=
  (World.cell?_of_block (h.block a.block (World.block_lt_of_cell? w _ hc) hF)).trans hc
theorem add_off (b o j : Nat) : (⟨b, o, none⟩ : Addr).add j = ⟨b, o + j, none⟩ := by unfold Addr.add; split <;> simp_all
def iv (l : List Int) : List Value := l.map (Value.int .u8)
theorem iv_length (l : List Int) : (iv l).length = l.length := by simp [iv]
theorem iv_one (l : List Int) : ∀ v ∈ iv l, v.oneCell' = true := by
  intro v hv
  obtain ⟨b, _, rfl⟩ := List.mem_map.1 hv
  rfl
/-- The bufio.Reader at block p: its buffer is block bb, its reader the bytes.Reader at block g. -/
def Bio (w : World) (p bb g : Nat) (r wv : Int) (ev : Value) (lb lr : Int) : Prop := w.heap[p]? = some (.cells #[.slice (some ⟨bb, 0, none⟩) 4096 4096, .iface 42 (.pointer (some ⟨g, 0, none⟩)), .int .i64 r, .int .i64 wv, ev, .int .i64 lb, .int .i64 lr] 85 (0, 0))
section
variable {w : World} {p bb g : Nat} {r wv : Int} {ev : Value} {lb lr : Int}
theorem Bio.c0 (h : Bio w p bb g r wv ev lb lr) : w.cell? ⟨p, 0, none⟩ = some (.slice (some ⟨bb, 0, none⟩) 4096 4096) := cell_of h 0 rfl
theorem Bio.c1 (h : Bio w p bb g r wv ev lb lr) : w.cell? ⟨p, 1, none⟩ = some (.iface 42 (.pointer (some ⟨g, 0, none⟩))) := cell_of h 1 rfl
theorem Bio.c2 (h : Bio w p bb g r wv ev lb lr) : w.cell? ⟨p, 2, none⟩ = some (.int .i64 r) := cell_of h 2 rfl
theorem Bio.c3 (h : Bio w p bb g r wv ev lb lr) : w.cell? ⟨p, 3, none⟩ = some (.int .i64 wv) := cell_of h 3 rfl
theorem Bio.c4 (h : Bio w p bb g r wv ev lb lr) : w.cell? ⟨p, 4, none⟩ = some ev := cell_of h 4 rfl
theorem Bio.c5 (h : Bio w p bb g r wv ev lb lr) : w.cell? ⟨p, 5, none⟩ = some (.int .i64 lb) := cell_of h 5 rfl
theorem Bio.c6 (h : Bio w p bb g r wv ev lb lr) : w.cell? ⟨p, 6, none⟩ = some (.int .i64 lr) := cell_of h 6 rfl
theorem Bio.f (h : Bio w p bb g r wv ev lb lr) (j : Nat) : w.frozen? ⟨p, j, none⟩ = false := frozen_of h j
theorem Bio.set2 (h : Bio w p bb g r wv ev lb lr) (x : Int) : Bio (w.setCell ⟨p, 2, none⟩ (.int .i64 x)) p bb g x wv ev lb lr := set_block h 2 _
theorem Bio.set3 (h : Bio w p bb g r wv ev lb lr) (x : Int) : Bio (w.setCell ⟨p, 3, none⟩ (.int .i64 x)) p bb g r x ev lb lr := set_block h 3 _
theorem Bio.set4 (h : Bio w p bb g r wv ev lb lr) (x : Value) : Bio (w.setCell ⟨p, 4, none⟩ x) p bb g r wv x lb lr := set_block h 4 _
theorem Bio.set5 (h : Bio w p bb g r wv ev lb lr) (x : Int) : Bio (w.setCell ⟨p, 5, none⟩ (.int .i64 x)) p bb g r wv ev x lr := set_block h 5 _
theorem Bio.set6 (h : Bio w p bb g r wv ev lb lr) (x : Int) : Bio (w.setCell ⟨p, 6, none⟩ (.int .i64 x)) p bb g r wv ev lb x := set_block h 6 _
theorem Bio.lt (h : Bio w p bb g r wv ev lb lr) : p < w.heap.size := (Array.getElem?_eq_some_iff.1 h).1
theorem Bio.keep (h : Bio w p bb g r wv ev lb lr) {w' : World} {F : Nat → Prop} (k : Keep w w' F) (hF : ¬ F p) : Bio w' p bb g r wv ev lb lr := (k.block p h.lt hF).trans h
end
/-- The buffer's row holds these bytes in front. -/
structure Row (w : World) (bb : Nat) (K : List Int) (cs : List Value) : Prop where
  blk : w.heap[bb]? = some (.cells cs.toArray 5 (0, 0))
  len : cs.length = 4096
  has : ∀ (j : Nat) (v : Value), (iv K)[j]? = some v → cs[j]? = some v
theorem Row.cell {w : World} {bb : Nat} {K : List Int} {cs : List Value} (h : Row w bb K cs) (j : Nat) (v : Value) (hv : (iv K)[j]? = some v) : w.cell? ⟨bb, j, none⟩ = some v := cell_of h.blk j (by rw [List.getElem?_toArray]; exact h.has j v hv)
theorem Row.keep {w w' : World} {bb : Nat} {K : List Int} {cs : List Value} {F : Nat → Prop} (h : Row w bb K cs) (k : Keep w w' F) (hF : ¬ F bb) : Row w' bb K cs := ⟨(k.block bb (Array.getElem?_eq_some_iff.1 h.blk).1 hF).trans h.blk, h.len, h.has⟩
theorem cut_rw (bb a k : Nat) (h1 : a ≤ k) (h2 : k ≤ 4096) (h3 : a ≤ 4095) : ∀ W : World, (Instr.slice 22 (.slice (some ⟨bb, 0, none⟩) 4096 4096) (some (.int .i64 (a : Int))) (some (.int .i64 (k : Int))) none).run Tryd.prog W = .ok (.slice (some ⟨bb, a, none⟩) (k - a) (4096 - a)) W := by
  obtain ⟨i0, hi, _, hsz, _⟩ := info_parts PFnProtoNak.info5
  intro W
  have := cut_mid (P := Tryd.prog) 22 5 .i64 .i64 Tryd.underlying22 hi 1 hsz (some ⟨bb, 0, none⟩) 4096 4096 (a : Int) (k : Int) (by omega) (by omega) (by omega) (by omega) W
  rw [this, Int.toNat_natCast, Int.toNat_natCast, if_neg (by omega), Nat.mul_one]
  have e : (⟨bb, 0, none⟩ : Addr).add a = ⟨bb, a, none⟩ := by unfold Addr.add; split <;> simp_all
  rw [Option.map_some, e]
theorem splice_length (cur : List Value) (o : Nat) (xs : List Value) (h : o + xs.length ≤ cur.length) : (splice cur o xs).length = cur.length := by
  unfold splice
  simp only [List.length_append, List.length_take, List.length_drop]
  omega
theorem splice_at0 (cur xs : List Value) (j : Nat) (h : j < xs.length) : (splice cur 0 xs)[j]? = xs[j]? := by
  unfold splice
  simp only [List.take_zero, List.nil_append]
  rw [List.getElem?_append_left h]

set_option maxHeartbeats 4000000 in
set_option maxRecDepth 100000 in
/-- The next four bytes, out of the buffer. -/
theorem bufRead_next {w : World} {p bb g k b o c : Nat} {lb lr : Int} {K : List Int} {cs cur : List Value} {t : TypeId} {y0 y1 y2 y3 : Int} (hb : Bio w p bb g 4 k .nilIface lb lr) (hk1 : 8 ≤ k) (hk2 : k ≤ 4096) (hrow : Row w bb K cs)
    (hys : ∀ (j : Nat) (v : Value), (iv [y0, y1, y2, y3])[j]? = some v → w.cell? ⟨bb, 4 + j, none⟩ = some v)
    (hblk : w.heap[b]? = some (.cells cur.toArray t (0, 0))) (hbp : b ≠ p) (hbb : b ≠ bb) (hpb : p ≠ bb) (hfit : o + 4 ≤ cur.length) :
    Calls Tryd.prog 79 #[.pointer (some ⟨p, 0, none⟩), .slice (some ⟨b, o, none⟩) 4 c] w fun e w' => e = .returned (.tuple #[.int .i64 4, .nilIface]) ∧ (∃ lb', Bio w' p bb g 8 k .nilIface lb' (-1)) ∧ Row w' bb K cs ∧ w'.heap[b]? = some (.cells (splice cur o (iv [y0, y1, y2, y3])).toArray t (0, 0)) ∧ Keep w w' (fun j => j = p ∨ j = b) := by
  have HB := Aside0.mk hb
  have HBlk := Aside0.mk hblk
  have HR := Aside0.mk hrow
  have HN := Aside0.mk (⟨hbp, hbb, hpb⟩ : b ≠ p ∧ b ≠ bb ∧ p ≠ bb)
  have HF := Aside0.mk hfit
  have HS := Aside0.mk hys
  have c0 := hb.c0
  have c2 := hb.c2
  have c3 := hb.c3
  have zk : ((4 : Int) == (k : Int)) = false := by rw [beq_eq_false_iff_ne]; omega
  clear hb hblk hrow hbp hbb hpb hfit hys
  go_enter Tryd.func79, Tryd.ntmps79
  go_wp2_with fail
  go_quiet (fail)
  go_wp2_with fail
  have hcut := cut_rw bb 4 k (by omega) (by omega) (by omega)
  have hiv : (iv [y0, y1, y2, y3]).length = 4 := rfl
  have i1 : (4 : Int) ≤ (k : Int) := by omega
  have i2 : (k : Int) ≤ 4096 := by omega
  clear zk
  go_region_held3 (fun w' => w'.cell? ⟨p, 0, none⟩ = some (.slice (some ⟨bb, 0, none⟩) 4096 4096) ∧ w'.cell? ⟨p, 2, none⟩ = some (.int .i64 4) ∧ w'.cell? ⟨p, 3, none⟩ = some (.int .i64 (k : Int))) (first | go_keep | (exact ⟨c0, c2, c3⟩) | (exact k2)) ((refine step_copy_at rfl (.tmp 109) (.tmp 122) 22 22 rfl 5 Tryd.underlying22 size5 b o 4 c ⟨bb, 4, none⟩ (k - 4) (4096 - 4) ?hd ?hs cur t ?hg (iv [y0, y1, y2, y3]) ?hn ?hsrc ?hfit ?h1 ?_; (case hd => rfl); (case hs => rfl); (case hg => exact HBlk.out); (case hn => show 4 = Nat.min (k - 4) 4; exact (Nat.min_eq_right (by omega)).symm); (case hsrc => intro j v hj; rw [add_off]; exact HS.out j v hj); (case hfit => exact HF.out); (case h1 => exact iv_one _); intro w2 hw2; have HB2 : Aside0 (Bio w2 p bb g 4 k .nilIface lb lr) := ⟨by rw [hw2.out]; exact (setRow_other _ b p _ (fun e => HN.out.1 e.symm)).trans HB.out⟩; have HR2 : Aside0 (Row w2 bb K cs) := ⟨⟨by rw [hw2.out]; exact (setRow_other _ b bb _ (fun e => HN.out.2.1 e.symm)).trans HR.out.blk, HR.out.len, HR.out.has⟩⟩; have HD2 : Aside0 (w2.heap[b]? = some (.cells (splice cur o (iv [y0, y1, y2, y3])).toArray t (0, 0))) := ⟨by rw [hw2.out]; exact setRow_heap _ b _ _ t _ HBlk.out⟩; have HK2 : Aside0 (Keep w w2 (fun j => j = p ∨ j = b)) := ⟨by rw [hw2.out]; exact Keep.setRow (F := fun j => j = p ∨ j = b) (((Keep.refl w _).drewN nq).drewN 1) (.inl (Or.inr rfl)) _⟩; clear hw2; have k2 : w2.cell? ⟨p, 0, none⟩ = some (.slice (some ⟨bb, 0, none⟩) 4096 4096) ∧ w2.cell? ⟨p, 2, none⟩ = some (.int .i64 4) ∧ w2.cell? ⟨p, 3, none⟩ = some (.int .i64 (k : Int)) := ⟨HB2.out.c0, HB2.out.c2, HB2.out.c3⟩))
  have c2' := HB2.out.c2
  have f2' := HB2.out.f 2
  have hy7 : w2.cell? ⟨bb, 7, none⟩ = some (.int .u8 y3) := HK2.out.cell (HS.out 3 _ rfl) (fun h => h.elim (fun e => HN.out.2.2 e.symm) (fun e => HN.out.2.1 e.symm))
  have HY := Aside0.mk hy7
  clear k2 c0 c2 c3 hcut hy7
  go_wp2_with fail
  obtain ⟨W3, hW3⟩ : ∃ W3, W3 = w2.setCell ⟨p, 2, none⟩ (.int .i64 8) := ⟨_, rfl⟩
  rw [← hW3]
  have HB3 : Aside0 (Bio W3 p bb g 8 k .nilIface lb lr) := ⟨by rw [hW3]; exact HB2.out.set2 8⟩
  have HR3 : Aside0 (Row W3 bb K cs) := ⟨⟨by rw [hW3]; exact set_other 2 _ HN.out.2.2.symm HR2.out.blk, HR.out.len, HR.out.has⟩⟩
  have HD3 : Aside0 (W3.heap[b]? = some (.cells (splice cur o (iv [y0, y1, y2, y3])).toArray t (0, 0))) := ⟨by rw [hW3]; exact set_other 2 _ HN.out.1 HD2.out⟩
  have HK3 : Aside0 (Keep w W3 (fun j => j = p ∨ j = b)) := ⟨by rw [hW3]; exact Keep.setCell (a := ⟨p, 2, none⟩) HK2.out (.inl (Or.inl rfl)) _⟩
  have hy7 : W3.cell? ⟨bb, 7, none⟩ = some (.int .u8 y3) := by rw [hW3, World.cell?_setCell_other _ _ _ _ (fun e => HN.out.2.2 (congrArg Addr.block e))]; exact HY.out
  clear hW3 c2' f2' HB2 HR2 HD2 HK2
  have c0 := HB3.out.c0
  have c2 := HB3.out.c2
  have f5 := HB3.out.f 5
  have c5 := HB3.out.c5
  have HC7 : Aside0 (∀ x : Int, (W3.setCell ⟨p, 5, none⟩ (.int .i64 x)).drew.cell? ⟨p, 0, none⟩ = some (.slice (some ⟨bb, 0, none⟩) 4096 4096) ∧ (W3.setCell ⟨p, 5, none⟩ (.int .i64 x)).drew.cell? ⟨p, 2, none⟩ = some (.int .i64 8) ∧ (W3.setCell ⟨p, 5, none⟩ (.int .i64 x)).drew.cell? ⟨bb, 7, none⟩ = some (.int .u8 y3)) := ⟨fun x => ⟨(HB3.out.set5 x).c0, (HB3.out.set5 x).c2, by
    show (W3.setCell ⟨p, 5, none⟩ (.int .i64 x)).cell? ⟨bb, 7, none⟩ = _
    rw [World.cell?_setCell_other _ _ _ _ (fun e => HN.out.2.2 (congrArg Addr.block e))]; exact hy7⟩⟩
  have e7 : IntKind.i64.wrap 7 = 7 := by decide
  go_region_held3 (fun w' => w'.cell? ⟨p, 0, none⟩ = some (.slice (some ⟨bb, 0, none⟩) 4096 4096) ∧ w'.cell? ⟨p, 2, none⟩ = some (.int .i64 8) ∧ w'.cell? ⟨bb, 7, none⟩ = some (.int .u8 y3)) (first | (exact ⟨c0, c2, hy7⟩) | (exact HC7.out _)) ((fail))
  obtain ⟨W4, hW4⟩ : ∃ W4, W4 = (W3.setCell ⟨p, 5, none⟩ (.int .i64 (IntKind.i64.wrap y3))).drew := ⟨_, rfl⟩
  rw [← hW4]
  have HB4 : Aside0 (Bio W4 p bb g 8 k .nilIface (IntKind.i64.wrap y3) lr) := ⟨by rw [hW4]; exact HB3.out.set5 _⟩
  have HR4 : Aside0 (Row W4 bb K cs) := ⟨⟨by rw [hW4]; exact set_other (w := W3) 5 _ HN.out.2.2.symm HR3.out.blk, HR.out.len, HR.out.has⟩⟩
  have HD4 : Aside0 (W4.heap[b]? = some (.cells (splice cur o (iv [y0, y1, y2, y3])).toArray t (0, 0))) := ⟨by rw [hW4]; exact set_other (w := W3) 5 _ HN.out.1 HD3.out⟩
  have HK4 : Aside0 (Keep w W4 (fun j => j = p ∨ j = b)) := ⟨by rw [hW4]; exact (Keep.setCell (a := ⟨p, 5, none⟩) HK3.out (.inl (Or.inl rfl)) _).drewN 1⟩
  clear hW4 c0 c2 f5 c5 hy7 HB3 HR3 HD3 HK3 HC7
  have c6 := HB4.out.c6
  have f6 := HB4.out.f 6
  go_wp2_with fail
  go_ret2
  exact ⟨rfl, ⟨_, HB4.out.set6 _⟩, ⟨set_other 6 _ HN.out.2.2.symm HR4.out.blk, HR.out.len, HR.out.has⟩, set_other 6 _ HN.out.1 HD4.out, Keep.setCell (a := ⟨p, 6, none⟩) HK4.out (.inl (Or.inl rfl)) _⟩

set_option maxHeartbeats 8000000 in
set_option maxRecDepth 100000 in
/-- The first four bytes: the buffer is filled. -/
theorem bufRead_first {w : World} {p bb g n cap k b o c : Nat} {A : Addr} {lb lr pr : Int} {K K' : List Int} {cs0 cur : List Value} {t : TypeId} {y0 y1 y2 y3 : Int} (hb : Bio w p bb g 0 0 .nilIface lb lr) (hr : Rdr w g A n cap 0 pr)
    (hbuf : w.heap[bb]? = some (.cells cs0.toArray 5 (0, 0))) (hlen : cs0.length = 4096) (hsrc : ∀ (j : Nat) (v : Value), (iv K)[j]? = some v → w.cell? (A.add j) = some v) (hk : K.length = k) (hkn : k = min n 4096) (hK : K = y0 :: y1 :: y2 :: y3 :: K')
    (hn : n ≤ cap) (hnl : n ≤ 140737488355328) (hA1 : A.block ≠ bb) (hA2 : A.block ≠ g) (hA3 : A.block ≠ p) (hbg : bb ≠ g) (hpg : p ≠ g) (hbg' : b ≠ g)
    (hblk : w.heap[b]? = some (.cells cur.toArray t (0, 0))) (hbp : b ≠ p) (hbb : b ≠ bb) (hpb : p ≠ bb) (hfit : o + 4 ≤ cur.length) :
    Calls Tryd.prog 79 #[.pointer (some ⟨p, 0, none⟩), .slice (some ⟨b, o, none⟩) 4 c] w fun e w' => e = .returned (.tuple #[.int .i64 4, .nilIface]) ∧ (∃ lb', Bio w' p bb g 4 k .nilIface lb' (-1)) ∧ (∃ cs, Row w' bb K cs) ∧ Rdr w' g A n cap k (-1) ∧ w'.heap[b]? = some (.cells (splice cur o (iv [y0, y1, y2, y3])).toArray t (0, 0)) ∧ Keep w w' (fun j => j = p ∨ j = bb ∨ j = g ∨ j = b) := by
  have h4 : 4 ≤ k := by rw [← hk, hK]; simp
  have h5 : k ≤ 4096 := by omega
  have hna : ∀ (x : Addr) (W : World), (nilAhead 245 42 (.pointer (some x)) "Read").run Tryd.prog W = .ok (some false) W := fun _ _ => by kernel_rfl
  have hme : ∀ (x : Addr) (W : World), (method 245 42 (.pointer (some x)) "Read").run Tryd.prog W = .ok (78, .pointer (some x)) W := fun _ _ => by kernel_rfl
  have HB0 := Aside0.mk hb
  have HR0 := Aside0.mk hr
  have HBuf0 := Aside0.mk hbuf
  have HBlk0 := Aside0.mk hblk
  have HN := Aside0.mk (⟨hbp, hbb, hpb, hbg, hpg, hbg', hA1, hA2, hA3⟩ : b ≠ p ∧ b ≠ bb ∧ p ≠ bb ∧ bb ≠ g ∧ p ≠ g ∧ b ≠ g ∧ A.block ≠ bb ∧ A.block ≠ g ∧ A.block ≠ p)
  have HF := Aside0.mk hfit
  have HL := Aside0.mk (⟨hlen, hk, hkn, hn, hnl⟩ : cs0.length = 4096 ∧ K.length = k ∧ k = min n 4096 ∧ n ≤ cap ∧ n ≤ 140737488355328)
  have HSrc := Aside0.mk hsrc
  have HKK := Aside0.mk hK
  have c2 := hb.c2
  have c3 := hb.c3
  have c4 := hb.c4
  have c0 := hb.c0
  have f2 := hb.f 2
  have f3 := hb.f 3
  have zk : ((k : Int) == 0) = false := by rw [beq_eq_false_iff_ne]; omega
  have zk2 : (k == 0) = false := by rw [beq_eq_false_iff_ne]; omega
  clear hb hr hbuf hlen hsrc hk hkn hK hn hnl hA1 hA2 hA3 hbg hpg hbg' hblk hbp hbb hpb hfit
  go_enter Tryd.func79, Tryd.ntmps79
  go_wp2_with fail
  go_quiet (fail)
  go_wp2_with fail
  obtain ⟨W1, hW1⟩ : ∃ W1, W1 = ((w.drewN nq).setCell ⟨p, 2, none⟩ (.int .i64 0)).setCell ⟨p, 3, none⟩ (.int .i64 0) := ⟨_, rfl⟩
  rw [← hW1]
  have HB1 : Aside0 (Bio W1 p bb g 0 0 .nilIface lb lr) := ⟨by rw [hW1]; exact (Bio.set2 (w := w.drewN nq) HB0.out 0).set3 0⟩
  have HK1 : Aside0 (Keep w W1 (fun j => j = p)) := ⟨by rw [hW1]; exact Keep.setCell (F := fun j => j = p) (a := ⟨p, 3, none⟩) (Keep.setCell (F := fun j => j = p) (a := ⟨p, 2, none⟩) ((Keep.refl w _).drewN nq) (.inl rfl) _) (.inl rfl) _⟩
  have HC : Aside0 (∀ q, Calls Tryd.prog 78 #[.pointer (some ⟨g, 0, none⟩), .slice (some ⟨bb, 0, none⟩) 4096 4096] (W1.drewN q) fun e w' => e = .returned (.tuple #[.int .i64 k, .nilIface]) ∧ Bio w' p bb g 0 0 .nilIface lb lr ∧ Rdr w' g A n cap k (-1) ∧ Row w' bb K (splice cs0 0 (iv K)) ∧ w'.heap[b]? = some (.cells cur.toArray t (0, 0)) ∧ Keep w w' (fun j => j = p ∨ j = bb ∨ j = g)) := ⟨fun q => by
    have hs : ∀ j v, (iv K)[j]? = some v → (W1.drewN q).cell? (A.add (0 + j)) = some v := fun j v hv => by
      rw [Nat.zero_add]
      exact HK1.out.cell (HSrc.out j v hv) (by rw [add_block]; exact HN.out.2.2.2.2.2.2.2.2)
    have hk0 := HL.out.2.2.1
    have := read_calls g A n cap 0 pr bb 0 4096 4096 cs0 5 (iv K) (W1.drewN q) ((HK1.out.block g (Array.getElem?_eq_some_iff.1 HR0.out).1 HN.out.2.2.2.2.1.symm).trans HR0.out) ((HK1.out.block bb (Array.getElem?_eq_some_iff.1 HBuf0.out).1 HN.out.2.2.1.symm).trans HBuf0.out) HN.out.2.2.2.1 HN.out.2.2.2.2.2.2.1 HN.out.2.2.2.2.2.2.2.1 hs k (by rw [iv_length]; exact HL.out.2.1) (by rw [Nat.sub_zero]; exact hk0) (iv_one K) (by omega) (by omega) HL.out.2.2.2.1 HL.out.2.2.2.2 (by rw [HL.out.1]; omega)
    refine this.mono fun e w' ⟨h1, h2, h3, h4⟩ => ⟨h1, HB1.out.keep (w' := w') ⟨h4.os, h4.tape, h4.output, h4.size, h4.block⟩ (fun h => h.elim HN.out.2.2.2.2.1 HN.out.2.2.1), by rw [Nat.zero_add] at h2; exact h2, ⟨h3, ?_, ?_⟩, ?_, ?_⟩
    · rw [splice_length _ _ _ (by rw [iv_length, HL.out.2.1, HL.out.1]; omega)]; exact HL.out.1
    · intro j v hv
      rw [splice_at0 _ _ _ (List.getElem?_eq_some_iff.1 hv).1]; exact hv
    · have hb1 := (HK1.out.block b (Array.getElem?_eq_some_iff.1 HBlk0.out).1 HN.out.1).trans HBlk0.out
      exact (h4.block b (Array.getElem?_eq_some_iff.1 hb1).1 (fun h => h.elim HN.out.2.2.2.2.2.1 HN.out.2.1)).trans hb1
    · exact HK1.out.mono (fun _ h => Or.inl h) |>.trans (G := fun j => j = g ∨ j = bb) ⟨h4.os, h4.tape, h4.output, h4.size, h4.block⟩ (fun j _ h => h.elim (fun e => Or.inr (Or.inr e)) (fun e => Or.inr (Or.inl e)))⟩
  clear hW1 c0 c2 c3 c4 f2 f3
  have c0 := HB1.out.c0
  have c1 := HB1.out.c1
  go_region_held3 (fun w' => w'.cell? ⟨p, 0, none⟩ = some (.slice (some ⟨bb, 0, none⟩) 4096 4096) ∧ w'.cell? ⟨p, 1, none⟩ = some (.iface 42 (.pointer (some ⟨g, 0, none⟩)))) (first | (exact ⟨c0, c1⟩) | (exact k2) | (exact HC4.out) | go_keep) ((go_at_call 78; refine (HC.out _).mono ?_; rintro e w3 ⟨rfl, hb3, hr3, hrow3, hblk3, hk3⟩; have HB3 := Aside0.mk hb3; have HR3 := Aside0.mk hr3; have HRow3 := Aside0.mk hrow3; have HBlk3 := Aside0.mk hblk3; have HK3 := Aside0.mk hk3; have f4 := hb3.f 4; have c4 := hb3.c4; have k2 : w3.cell? ⟨p, 0, none⟩ = some (.slice (some ⟨bb, 0, none⟩) 4096 4096) ∧ w3.cell? ⟨p, 1, none⟩ = some (.iface 42 (.pointer (some ⟨g, 0, none⟩))) := ⟨hb3.c0, hb3.c1⟩; have HC4 : Aside0 ((w3.setCell ⟨p, 4, none⟩ .nilIface).cell? ⟨p, 0, none⟩ = some (.slice (some ⟨bb, 0, none⟩) 4096 4096) ∧ (w3.setCell ⟨p, 4, none⟩ .nilIface).cell? ⟨p, 1, none⟩ = some (.iface 42 (.pointer (some ⟨g, 0, none⟩)))) := ⟨(hb3.set4 _).c0, (hb3.set4 _).c1⟩; clear hb3 hr3 hrow3 hblk3 hk3))
  obtain ⟨W5, hW5⟩ : ∃ W5, W5 = w3.setCell ⟨p, 4, none⟩ .nilIface := ⟨_, rfl⟩
  rw [← hW5]
  have HB5 : Aside0 (Bio W5 p bb g 0 0 .nilIface lb lr) := ⟨by rw [hW5]; exact HB3.out.set4 _⟩
  have HR5 : Aside0 (Rdr W5 g A n cap k (-1)) := ⟨by rw [hW5]; exact set_other 4 _ HN.out.2.2.2.2.1.symm HR3.out⟩
  have HRow5 : Aside0 (Row W5 bb K (splice cs0 0 (iv K))) := ⟨⟨by rw [hW5]; exact set_other 4 _ HN.out.2.2.1.symm HRow3.out.blk, HRow3.out.len, HRow3.out.has⟩⟩
  have HBlk5 : Aside0 (W5.heap[b]? = some (.cells cur.toArray t (0, 0))) := ⟨by rw [hW5]; exact set_other 4 _ HN.out.1 HBlk3.out⟩
  have HK5 : Aside0 (Keep w W5 (fun j => j = p ∨ j = bb ∨ j = g)) := ⟨by rw [hW5]; exact Keep.setCell (a := ⟨p, 4, none⟩) HK3.out (.inl (Or.inl rfl)) _⟩
  clear hW5 c0 c1 k2 f4 c4 HC4 HC HB3 HR3 HRow3 HBlk3 HK3 HB1 HK1 hna hme
  have c3 := HB5.out.c3
  have f3 := HB5.out.f 3
  go_wp2_with fail
  obtain ⟨W6, hW6⟩ : ∃ W6, W6 = W5.setCell ⟨p, 3, none⟩ (.int .i64 (k : Int)) := ⟨_, rfl⟩
  rw [← hW6]
  have HN9 := HN
  clear HN
  have HN := Aside0.mk (⟨HN9.out.1, HN9.out.2.1, HN9.out.2.2.1⟩ : b ≠ p ∧ b ≠ bb ∧ p ≠ bb)
  have HB : Aside0 (Bio W6 p bb g 0 k .nilIface lb lr) := ⟨by rw [hW6]; exact HB5.out.set3 _⟩
  have HRd : Aside0 (Rdr W6 g A n cap k (-1)) := ⟨by rw [hW6]; exact set_other 3 _ HN9.out.2.2.2.2.1.symm HR5.out⟩
  obtain ⟨cs, hcs⟩ : ∃ cs, cs = splice cs0 0 (iv K) := ⟨_, rfl⟩
  have HR : Aside0 (Row W6 bb K cs) := ⟨by rw [hcs]; exact ⟨by rw [hW6]; exact set_other 3 _ HN.out.2.2.symm HRow5.out.blk, HRow5.out.len, HRow5.out.has⟩⟩
  have HBlk : Aside0 (W6.heap[b]? = some (.cells cur.toArray t (0, 0))) := ⟨by rw [hW6]; exact set_other 3 _ HN.out.1 HBlk5.out⟩
  have HK6 : Aside0 (Keep w W6 (fun j => j = p ∨ j = bb ∨ j = g)) := ⟨by rw [hW6]; exact Keep.setCell (a := ⟨p, 3, none⟩) HK5.out (.inl (Or.inl rfl)) _⟩
  have HS : Aside0 (∀ (j : Nat) (v : Value), (iv [y0, y1, y2, y3])[j]? = some v → W6.cell? ⟨bb, 0 + j, none⟩ = some v) := ⟨fun j v hv => by
    rw [Nat.zero_add]
    refine HR.out.cell j v ?_
    rw [HKK.out]
    match j, hv with
    | 0, hv => exact hv
    | 1, hv => exact hv
    | 2, hv => exact hv
    | 3, hv => exact hv⟩
  clear hW6 hcs c3 f3 HB5 HR5 HRow5 HBlk5 HK5 HB0 HR0 HBuf0 HBlk0
  have c0 := HB.out.c0
  have c2 := HB.out.c2
  have c3 := HB.out.c3
  clear zk2
  have hcut := cut_rw bb 0 k (by omega) (by omega) (by omega)
  have hiv : (iv [y0, y1, y2, y3]).length = 4 := rfl
  have i1 : (0 : Int) ≤ (k : Int) := by omega
  have i2 : (k : Int) ≤ 4096 := by omega
  clear zk
  go_region_held3 (fun w' => w'.cell? ⟨p, 0, none⟩ = some (.slice (some ⟨bb, 0, none⟩) 4096 4096) ∧ w'.cell? ⟨p, 2, none⟩ = some (.int .i64 0) ∧ w'.cell? ⟨p, 3, none⟩ = some (.int .i64 (k : Int))) (first | go_keep | (exact ⟨c0, c2, c3⟩) | (exact k2)) ((refine step_copy_at rfl (.tmp 109) (.tmp 122) 22 22 rfl 5 Tryd.underlying22 size5 b o 4 c ⟨bb, 0, none⟩ k 4096 ?hd ?hs cur t ?hg (iv [y0, y1, y2, y3]) ?hn ?hsrc ?hfit ?h1 ?_; (case hd => rfl); (case hs => rfl); (case hg => exact HBlk.out); (case hn => show 4 = Nat.min k 4; exact (Nat.min_eq_right (by omega)).symm); (case hsrc => intro j v hj; rw [add_off]; exact HS.out j v hj); (case hfit => exact HF.out); (case h1 => exact iv_one _); intro w2 hw2; have HB2 : Aside0 (Bio w2 p bb g 0 k .nilIface lb lr) := ⟨by rw [hw2.out]; exact (setRow_other _ b p _ (fun e => HN.out.1 e.symm)).trans HB.out⟩; have HR2 : Aside0 (Row w2 bb K cs) := ⟨⟨by rw [hw2.out]; exact (setRow_other _ b bb _ (fun e => HN.out.2.1 e.symm)).trans HR.out.blk, HR.out.len, HR.out.has⟩⟩; have HD2 : Aside0 (w2.heap[b]? = some (.cells (splice cur o (iv [y0, y1, y2, y3])).toArray t (0, 0))) := ⟨by rw [hw2.out]; exact setRow_heap _ b _ _ t _ HBlk.out⟩; have HK2 : Aside0 (Keep W6 w2 (fun j => j = p ∨ j = b)) := ⟨by rw [hw2.out]; exact Keep.setRow (F := fun j => j = p ∨ j = b) ((Keep.refl W6 _).drewN 1) (.inl (Or.inr rfl)) _⟩; clear hw2; have k2 : w2.cell? ⟨p, 0, none⟩ = some (.slice (some ⟨bb, 0, none⟩) 4096 4096) ∧ w2.cell? ⟨p, 2, none⟩ = some (.int .i64 0) ∧ w2.cell? ⟨p, 3, none⟩ = some (.int .i64 (k : Int)) := ⟨HB2.out.c0, HB2.out.c2, HB2.out.c3⟩))
  have c2' := HB2.out.c2
  have f2' := HB2.out.f 2
  have hy7 : w2.cell? ⟨bb, 3, none⟩ = some (.int .u8 y3) := HK2.out.cell (HS.out 3 _ rfl) (fun h => h.elim (fun e => HN.out.2.2 e.symm) (fun e => HN.out.2.1 e.symm))
  have HY := Aside0.mk hy7
  clear k2 c0 c2 c3 hcut hy7
  go_wp2_with fail
  obtain ⟨W3, hW3⟩ : ∃ W3, W3 = w2.setCell ⟨p, 2, none⟩ (.int .i64 4) := ⟨_, rfl⟩
  rw [← hW3]
  have HB3 : Aside0 (Bio W3 p bb g 4 k .nilIface lb lr) := ⟨by rw [hW3]; exact HB2.out.set2 4⟩
  have HR3 : Aside0 (Row W3 bb K cs) := ⟨⟨by rw [hW3]; exact set_other 2 _ HN.out.2.2.symm HR2.out.blk, HR.out.len, HR.out.has⟩⟩
  have HD3 : Aside0 (W3.heap[b]? = some (.cells (splice cur o (iv [y0, y1, y2, y3])).toArray t (0, 0))) := ⟨by rw [hW3]; exact set_other 2 _ HN.out.1 HD2.out⟩
  have HK3 : Aside0 (Keep W6 W3 (fun j => j = p ∨ j = b)) := ⟨by rw [hW3]; exact Keep.setCell (a := ⟨p, 2, none⟩) HK2.out (.inl (Or.inl rfl)) _⟩
  have hy7 : W3.cell? ⟨bb, 3, none⟩ = some (.int .u8 y3) := by rw [hW3, World.cell?_setCell_other _ _ _ _ (fun e => HN.out.2.2 (congrArg Addr.block e))]; exact HY.out
  clear hW3 c2' f2' HB2 HR2 HD2 HK2
  have c0 := HB3.out.c0
  have c2 := HB3.out.c2
  have f5 := HB3.out.f 5
  have c5 := HB3.out.c5
  have HC7 : Aside0 (∀ x : Int, (W3.setCell ⟨p, 5, none⟩ (.int .i64 x)).drew.cell? ⟨p, 0, none⟩ = some (.slice (some ⟨bb, 0, none⟩) 4096 4096) ∧ (W3.setCell ⟨p, 5, none⟩ (.int .i64 x)).drew.cell? ⟨p, 2, none⟩ = some (.int .i64 4) ∧ (W3.setCell ⟨p, 5, none⟩ (.int .i64 x)).drew.cell? ⟨bb, 3, none⟩ = some (.int .u8 y3)) := ⟨fun x => ⟨(HB3.out.set5 x).c0, (HB3.out.set5 x).c2, by
    show (W3.setCell ⟨p, 5, none⟩ (.int .i64 x)).cell? ⟨bb, 3, none⟩ = _
    rw [World.cell?_setCell_other _ _ _ _ (fun e => HN.out.2.2 (congrArg Addr.block e))]; exact hy7⟩⟩
  have e7 : IntKind.i64.wrap 3 = 3 := by decide
  go_region_held3 (fun w' => w'.cell? ⟨p, 0, none⟩ = some (.slice (some ⟨bb, 0, none⟩) 4096 4096) ∧ w'.cell? ⟨p, 2, none⟩ = some (.int .i64 4) ∧ w'.cell? ⟨bb, 3, none⟩ = some (.int .u8 y3)) (first | (exact ⟨c0, c2, hy7⟩) | (exact HC7.out _)) ((fail))
  obtain ⟨W4, hW4⟩ : ∃ W4, W4 = (W3.setCell ⟨p, 5, none⟩ (.int .i64 (IntKind.i64.wrap y3))).drew := ⟨_, rfl⟩
  rw [← hW4]
  have HB4 : Aside0 (Bio W4 p bb g 4 k .nilIface (IntKind.i64.wrap y3) lr) := ⟨by rw [hW4]; exact HB3.out.set5 _⟩
  have HR4 : Aside0 (Row W4 bb K cs) := ⟨⟨by rw [hW4]; exact set_other (w := W3) 5 _ HN.out.2.2.symm HR3.out.blk, HR.out.len, HR.out.has⟩⟩
  have HD4 : Aside0 (W4.heap[b]? = some (.cells (splice cur o (iv [y0, y1, y2, y3])).toArray t (0, 0))) := ⟨by rw [hW4]; exact set_other (w := W3) 5 _ HN.out.1 HD3.out⟩
  have HK4 : Aside0 (Keep W6 W4 (fun j => j = p ∨ j = b)) := ⟨by rw [hW4]; exact (Keep.setCell (a := ⟨p, 5, none⟩) HK3.out (.inl (Or.inl rfl)) _).drewN 1⟩
  clear hW4 c0 c2 f5 c5 hy7 HB3 HR3 HD3 HK3 HC7
  have c6 := HB4.out.c6
  have f6 := HB4.out.f 6
  go_wp2_with fail
  go_ret2
  exact ⟨rfl, ⟨_, HB4.out.set6 _⟩, ⟨cs, ⟨set_other 6 _ HN.out.2.2.symm HR4.out.blk, HR.out.len, HR.out.has⟩⟩, (set_other 6 _ HN9.out.2.2.2.2.1.symm ((HK4.out.block g (Array.getElem?_eq_some_iff.1 HRd.out).1 (fun h => h.elim HN9.out.2.2.2.2.1.symm HN9.out.2.2.2.2.2.1.symm)).trans HRd.out)), set_other 6 _ HN.out.1 HD4.out, (HK6.out.mono (fun _ h => h.elim Or.inl (fun h => h.elim (fun e => Or.inr (Or.inl e)) (fun e => Or.inr (Or.inr (Or.inl e)))))).trans (Keep.setCell (a := ⟨p, 6, none⟩) HK4.out (.inl (Or.inl rfl)) _) (fun _ _ h => h.elim Or.inl (fun e => Or.inr (Or.inr (Or.inr e))))⟩
end Go.Proofs.YtomdhahnfejfpaaDoor.Proto
