/- io.TeeReader over a bufio.Reader and SHA-1; io.ReadFull over it. -/
import Derived.Test.YtllikhbafaohgaaGreatDoorIF
namespace Go.Proofs.YtllikhbafaohgaaGreatDoor.Idx
open Go.RowKit Go.Proofs.YtllikhbafaohgaaGreatDoorW.PrintWords Go.Proofs.YtllikhbafaohgaaGreatDoorW.PrintLast Go.Proofs.YtllikhbafaohgaaGreatDoorW.PrintMore
set_option linter.unusedVariables false
set_option linter.unusedSimpArgs false

/-- The places of a reader that hands on to a hash what it reads. -/
structure DC where
  c : RC
  h : Nat
  t : Nat
  N : Nat
structure DC.Ok (d : DC) : Prop where
  c : d.c.Ok
  hp : d.h ≠ d.c.p
  hb : d.h ≠ d.c.bb
  hg : d.h ≠ d.c.g
  hA : d.h ≠ d.c.A.block
  ht : d.h ≠ d.t
  tp : d.t ≠ d.c.p
  tb : d.t ≠ d.c.bb
  tg : d.t ≠ d.c.g
  pN : d.c.p < d.N
  bN : d.c.bb < d.N
  gN : d.c.g < d.N
  AN : d.c.A.block < d.N
  tN : d.t < d.N
  hN : d.h < d.N
  Lp : 22 ≤ d.c.p
  Lb : 22 ≤ d.c.bb
  Lg : 22 ≤ d.c.g
  Lh : 22 ≤ d.h
/-- What the reader at block t reads is given to the hash at block h; i bytes have been read. -/
structure St (w : World) (d : DC) (i : Nat) (v : Value) : Prop where
  buf : Buf w d.c i
  hash : HashAt w d.N d.h v (d.c.D.take i)
  tee : w.heap[d.t]? = some (.cells #[.iface 71 (.pointer (some ⟨d.c.p, 0, none⟩)), .iface 91 (.pointer (some ⟨d.h, 0, none⟩))] 99 (0, 0))
/-- What a step of the reader turns. -/
def Fr (d : DC) (v : Value) (b : Nat) : Nat → Prop := fun j => (j = d.c.p ∨ j = d.c.bb ∨ j = d.c.g ∨ j = b) ∨ (j = d.h ∨ some j = v.ownBlock)
/-- A block that no step of the reader turns. -/
structure Free (d : DC) (v : Value) (b : Nat) : Prop where
  p : b ≠ d.c.p
  bb : b ≠ d.c.bb
  g : b ≠ d.c.g
  A : b ≠ d.c.A.block
  h : b ≠ d.h
  t : b ≠ d.t
  v : v.ownBlock ≠ some b
def Owns (w : World) (v v' : Value) : Prop := ∀ k, v'.ownBlock = some k → some k = v.ownBlock ∨ w.heap.size ≤ k
theorem Owns.refl (w : World) (v : Value) : Owns w v v := fun _ h => .inl h.symm
theorem Owns.trans {w w1 : World} {v v1 v2 : Value} (h : Owns w v v1) (k : Owns w1 v1 v2) (hs : w.heap.size ≤ w1.heap.size) : Owns w v v2 := fun j hj => (k j hj).elim (fun e => h j e.symm) (fun e => .inr (Nat.le_trans hs e))
theorem Free.of {w : World} {d : DC} {v v' : Value} {b : Nat} (h : Free d v b) (o : Owns w v v') (hb : b < w.heap.size) : Free d v' b :=
  ⟨h.p, h.bb, h.g, h.A, h.h, h.t, fun e => (o b e).elim (fun e => h.v e.symm) (fun e => by omega)⟩
theorem Fr.trans {w w1 w2 : World} {d : DC} {v v' : Value} {b : Nat} (h : Keep w w1 (Fr d v b)) (o : Owns w v v') (k : Keep w1 w2 (Fr d v' b)) : Keep w w2 (Fr d v b) :=
  h.trans k (fun j hj hF => hF.elim Or.inl (fun hF => Or.inr (hF.elim Or.inl (fun e => (o j e.symm).elim Or.inr (fun e => by omega)))))
theorem take_more (D : List Int) (i k : Nat) : D.take i ++ (D.drop i).take k = D.take (i + k) := by rw [List.take_add]
theorem nums_app (xs ys : List Int) : nums .u8 (xs ++ ys) = nums .u8 xs ++ nums .u8 ys := by unfold nums; rw [List.map_append]
theorem St.own {w : World} {d : DC} {i : Nat} {v : Value} (h : St w d i v) : ∀ k, v.ownBlock = some k → d.N ≤ k ∧ k < w.heap.size := h.hash.own
theorem St.keep {w w' : World} {d : DC} {i : Nat} {v : Value} (hd : d.Ok) (h : St w d i v) {F : Nat → Prop} (k : Keep w w' F) (h1 : ∀ j, F j → d.N ≤ j ∧ some j ≠ v.ownBlock) : St w' d i v :=
  ⟨h.buf.keep k (fun e => by have := (h1 _ e).1; have := hd.gN; omega) (fun e => by have := (h1 _ e).1; have := hd.pN; omega) (fun e => by have := (h1 _ e).1; have := hd.bN; omega) (fun e => by have := (h1 _ e).1; have := hd.AN; omega),
    h.hash.keep k (fun e => by have := (h1 _ e).1; have := hd.hN; omega) (fun j hj e => (h1 _ e).2 hj.symm), (k.block d.t (lt_of_block h.tee) (fun e => by have := (h1 _ e).1; have := hd.tN; omega)).trans h.tee⟩
theorem cut_k (b o m cp k : Nat) (hk : k ≤ m) (hm : m ≤ cp) : ∀ W : World, (Instr.slice 24 (.slice (some ⟨b, o, none⟩) m cp) none (some (.int .i64 (k : Int))) none).run Tryz.prog W = .ok (.slice (some ⟨b, o, none⟩) k cp) W := by
  obtain ⟨i0, hi, _, hsz, _⟩ := info_parts PFnIdxSum.info5
  intro W
  have := cut_to (P := Tryz.prog) 24 5 .i64 Tryz.underlying24 hi (some ⟨b, o, none⟩) m cp (k : Int) (by omega) (by omega) hm W
  rw [this, Int.toNat_natCast]
theorem St.ne {w : World} {d : DC} {i : Nat} {v : Value} (hd : d.Ok) (h : St w d i v) {j : Nat} (hj : j < d.N) : v.ownBlock ≠ some j := fun e => by have := (h.own j e).1; omega

set_option maxHeartbeats 8000000 in
set_option maxRecDepth 100000 in
/-- io.teeReader.Read: some of the bytes that come next, which the hash takes. -/
theorem teeRead {w : World} {d : DC} {i b o m cp : Nat} {v : Value} {cur : List Value} {t : TypeId} (hd : d.Ok) (H : St w d i v) (hi : i < d.c.n) (hm : 0 < m) (hm4 : m < 4096) (hcp : m ≤ cp) (hcl : cp ≤ 100000)
    (hblk : w.heap[b]? = some (.cells cur.toArray t (0, 0))) (hb : Free d v b) (hfit : o + m ≤ cur.length) :
    Calls Tryz.prog 153 #[.pointer (some ⟨d.t, 0, none⟩), .slice (some ⟨b, o, none⟩) m cp] w fun e w' => ∃ k v', 0 < k ∧ k ≤ m ∧ i + k ≤ d.c.n ∧ e = .returned (.tuple #[.int .i64 k, .nilIface]) ∧ St w' d (i + k) v' ∧ Owns w v v' ∧ w'.heap[b]? = some (.cells (splice cur o (nums .u8 ((d.c.D.drop i).take k))).toArray t (0, 0)) ∧ Keep w w' (Fr d v b) := by
  have hme : ∀ (x : Addr) (W : World), (method 394 71 (.pointer (some x)) "Read").run Tryz.prog W = .ok (80, .pointer (some x)) W := fun _ _ => by kernel_rfl
  have hmw : ∀ (x : Addr) (W : World), (method 394 91 (.pointer (some x)) "Write").run Tryz.prog W = .ok (151, .pointer (some x)) W := fun _ _ => by kernel_rfl
  have HD := Aside0.mk hd
  have HB := Aside0.mk hb
  have HF := Aside0.mk hfit
  have HH := Aside0.mk H.hash
  have HBlk := Aside0.mk hblk
  have HT := Aside0.mk H.tee
  have t0 : w.cell? ⟨d.t, 0, none⟩ = some (.iface 71 (.pointer (some ⟨d.c.p, 0, none⟩))) := cell_of H.tee 0 rfl
  have HC := Aside0.mk (bufRead (cp := cp) hd.c H.buf hi hm hm4 hblk hb.p hb.bb hb.g hb.A hfit)
  clear hd H hblk hb hfit
  go_enter Tryz.func153, Tryz.ntmps153
  go_wp2_with (go_at_call 80; refine HC.out.mono ?_; rintro e w2 ⟨k, hk0, hkm, hkn, rfl, hbuf, hd2, hk2⟩; have HBuf := Aside0.mk hbuf; have HD2 := Aside0.mk hd2; have HK2 := Aside0.mk hk2; clear hbuf hd2 hk2)
  have hFh : ∀ j, (j = d.c.p ∨ j = d.c.bb ∨ j = d.c.g ∨ j = b) → j ≠ d.h ∧ j ≠ d.t := fun j hj => by
    rcases hj with rfl | rfl | rfl | rfl
    · exact ⟨HD.out.hp.symm, HD.out.tp.symm⟩
    · exact ⟨HD.out.hb.symm, HD.out.tb.symm⟩
    · exact ⟨HD.out.hg.symm, HD.out.tg.symm⟩
    · exact ⟨HB.out.h, HB.out.t⟩
  have hFv : ∀ j, v.ownBlock = some j → ¬ (j = d.c.p ∨ j = d.c.bb ∨ j = d.c.g ∨ j = b) := fun j hj hF => by
    have hN := (HH.out.own j hj).1
    rcases hF with rfl | rfl | rfl | rfl
    · have := HD.out.pN; omega
    · have := HD.out.bN; omega
    · have := HD.out.gN; omega
    · exact HB.out.v hj
  have HH2 : Aside0 (HashAt w2 d.N d.h v (d.c.D.take i)) := ⟨HH.out.keep HK2.out (fun e => (hFh _ e).1 rfl) hFv⟩
  have HT2 : Aside0 (w2.heap[d.t]? = some (.cells #[.iface 71 (.pointer (some ⟨d.c.p, 0, none⟩)), .iface 91 (.pointer (some ⟨d.h, 0, none⟩))] 99 (0, 0))) := ⟨(HK2.out.block d.t (lt_of_block HT.out) (fun e => (hFh _ e).2 rfl)).trans HT.out⟩
  obtain ⟨xs, hxs⟩ : ∃ xs, xs = (d.c.D.drop i).take k := ⟨_, rfl⟩
  have hxl : xs.length = k := by rw [hxs, List.length_take, List.length_drop, HD.out.c.len]; omega
  have HX := Aside0.mk hxs
  rw [← hxs] at HD2
  have HCw : Aside0 (∀ q, Calls Tryz.prog 151 #[.pointer (some ⟨d.h, 0, none⟩), .slice (some ⟨b, o, none⟩) k cp] (w2.drewN q) fun e w' => e = .returned (.tuple #[.int .i64 k, .nilIface]) ∧ ∃ v', HashAt w' d.N d.h v' (d.c.D.take i ++ xs) ∧ Owns w2 v v' ∧ Keep w2 w' (fun j => j = d.h ∨ some j = v.ownBlock)) := ⟨fun q => by
    have hh : HashAt (w2.drewN q) d.N d.h v (d.c.D.take i) := HH2.out.keep ((Keep.refl w2 (fun _ => False)).drewN q) id (fun _ _ h => h)
    refine (hashWrite_calls (c := cp) (A := ⟨b, o, none⟩) hh (xs := xs) ?_ hxl hk0 ?_ HB.out.h).mono fun e w' ⟨h1, v', h2, h3, h4⟩ => ⟨h1, v', h2, h3, ⟨h4.os, h4.tape, h4.output, h4.size, h4.block⟩⟩
    · intro j u hu
      rw [add_off]
      refine cell_of (w := w2) HD2.out (o + j) ?_
      have hj := (List.getElem?_eq_some_iff.1 hu).1
      have := HF.out
      rw [List.getElem?_toArray, splice_at _ _ _ _ hj (by omega)]
      exact hu
    · have := HD.out.c.small
      have := HD.out.c.len
      rw [List.length_take]
      omega⟩
  have t1 : w2.cell? ⟨d.t, 1, none⟩ = some (.iface 91 (.pointer (some ⟨d.h, 0, none⟩))) := cell_of HT2.out 1 rfl
  have hcut := cut_k b o m cp k hkm hcp
  clear t0 HC hme hxl hFv hxs
  go_region_held3 (fun w' => w'.cell? ⟨d.t, 1, none⟩ = some (.iface 91 (.pointer (some ⟨d.h, 0, none⟩)))) (first | (exact t1) | (exact k3)) ((go_at_call 151; refine (HCw.out _).mono ?_; rintro e w3 ⟨rfl, v', hh3, ho3, hk3⟩; have HH3 := Aside0.mk hh3; have HO3 := Aside0.mk ho3; have HK3 := Aside0.mk hk3; have k3 : w3.cell? ⟨d.t, 1, none⟩ = some (.iface 91 (.pointer (some ⟨d.h, 0, none⟩))) := hk3.cell t1 (fun e => e.elim (fun e => HD.out.ht e.symm) (fun e => by have := (HH2.out.own _ e.symm).1; have := HD.out.tN; simp only at *; omega)); clear hh3 ho3 hk3))
  go_wp2_with fail
  go_ret2
  have hnN : ∀ j, j < d.N → some j ≠ v.ownBlock := fun j hj e => by have := (HH2.out.own j e.symm).1; omega
  refine ⟨k, v', hk0, hkm, hkn, rfl, ⟨?_, ?_, ?_⟩, ?_, ?_, ?_⟩
  · exact HBuf.out.keep HK3.out (fun e => e.elim HD.out.hg.symm (hnN _ HD.out.gN)) (fun e => e.elim HD.out.hp.symm (hnN _ HD.out.pN)) (fun e => e.elim HD.out.hb.symm (hnN _ HD.out.bN)) (fun e => e.elim HD.out.hA.symm (hnN _ HD.out.AN))
  · have := HH3.out
    rw [HX.out, take_more] at this
    exact this
  · exact (HK3.out.block d.t (lt_of_block HT2.out) (fun e => e.elim HD.out.ht.symm (hnN _ HD.out.tN))).trans HT2.out
  · exact fun j hj => (HO3.out j hj).imp id (fun h => Nat.le_trans HK2.out.size h)
  · rw [← HX.out]
    exact (HK3.out.block b (lt_of_block HD2.out) (fun e => e.elim HB.out.h (fun e => HB.out.v e.symm))).trans HD2.out
  · exact (HK2.out.mono (fun _ h => Or.inl h)).trans HK3.out (fun _ _ h => Or.inr h)
theorem splice_nil (cur : List Value) (o : Nat) : splice cur o [] = cur := by
  unfold splice
  simp
theorem splice_splice (cur xs ys : List Value) (o : Nat) (h : o + xs.length ≤ cur.length) : splice (splice cur o xs) (o + xs.length) ys = splice cur o (xs ++ ys) := by
  unfold splice
  have h1 : (cur.take o).length = o := by rw [List.length_take]; omega
  have e1 : (cur.take o ++ (xs ++ cur.drop (o + xs.length))).take (o + xs.length) = cur.take o ++ xs := by
    rw [← List.append_assoc, List.take_append_of_le_length (by rw [List.length_append, h1]; omega), List.take_of_length_le (by rw [List.length_append, h1]; omega)]
  have e2 : (cur.take o ++ (xs ++ cur.drop (o + xs.length))).drop (o + xs.length + ys.length) = cur.drop (o + (xs ++ ys).length) := by
    rw [← List.append_assoc, show o + xs.length + ys.length = (cur.take o ++ xs).length + ys.length by rw [List.length_append, h1], List.drop_length_add_append, List.drop_drop, List.length_append]
    congr 1
    omega
  simp only [List.append_assoc] at e1 e2 ⊢
  rw [e1, e2]
  simp only [List.append_assoc]
theorem cut_past (b o m cp k : Nat) (hk : k < m) (hm : m ≤ cp) : ∀ W : World, (Instr.slice 24 (.slice (some ⟨b, o, none⟩) m cp) (some (.int .i64 (k : Int))) none none).run Tryz.prog W = .ok (.slice (some ⟨b, o + k, none⟩) (m - k) (cp - k)) W := by
  obtain ⟨i0, hi, _, hsz, _⟩ := info_parts PFnIdxSum.info5
  intro W
  have := cut_from (P := Tryz.prog) 24 5 .i64 Tryz.underlying24 hi 1 hsz (some ⟨b, o, none⟩) m cp (k : Int) (by omega) (by omega) W
  rw [this, Int.toNat_natCast, if_neg (by omega), Nat.mul_one, Option.map_some, add_off]
theorem sub_more (D : List Int) (i a k : Nat) : nums .u8 ((D.drop i).take a) ++ nums .u8 ((D.drop (i + a)).take k) = nums .u8 ((D.drop i).take (a + k)) := by
  rw [← nums_app, ← List.drop_drop, take_more]
set_option maxHeartbeats 8000000 in
set_option maxRecDepth 100000 in
/-- io.ReadAtLeast, for all that the slice takes. -/
theorem readAtLeast_tee {w : World} {d : DC} {i b o m cp : Nat} {v : Value} {cur : List Value} {t : TypeId} (hd : d.Ok) (H : St w d i v) (hi : i + m ≤ d.c.n) (hm : 0 < m) (hm4 : m < 4096) (hcp : m ≤ cp) (hcl : cp ≤ 100000)
    (hblk : w.heap[b]? = some (.cells cur.toArray t (0, 0))) (hb : Free d v b) (hfit : o + m ≤ cur.length) :
    Calls Tryz.prog 52 #[.iface 97 (.pointer (some ⟨d.t, 0, none⟩)), .slice (some ⟨b, o, none⟩) m cp, .int .i64 m] w fun e w' => e = .returned (.tuple #[.int .i64 m, .nilIface]) ∧ ∃ v', St w' d (i + m) v' ∧ Owns w v v' ∧ w'.heap[b]? = some (.cells (splice cur o (nums .u8 ((d.c.D.drop i).take m))).toArray t (0, 0)) ∧ Keep w w' (Fr d v b) := by
  have hna : ∀ (x : Addr) (W : World), (nilAhead 394 97 (.pointer (some x)) "Read").run Tryz.prog W = .ok (some false) W := fun _ _ => by kernel_rfl
  have hme : ∀ (x : Addr) (W : World), (method 394 97 (.pointer (some x)) "Read").run Tryz.prog W = .ok (153, .pointer (some x)) W := fun _ _ => by kernel_rfl
  have HD := Aside0.mk hd
  have HB := Aside0.mk hb
  have HF := Aside0.mk hfit
  have HS := Aside0.mk H
  have HBlk := Aside0.mk hblk
  have d1 : decide (m < m) = false := by simp
  clear hd H hblk hb hfit
  go_enter Tryz.func52, Tryz.ntmps52
  go_wp2_with fail
  go_loopg [6, 7, 8] m (fun kq v6 v7 v8 w' => ∃ (a : Nat) (va : Value), kq + a = m ∧ v6 = .int .i64 a ∧ v7 = .nilIface ∧ Aside0 (St w' d (i + a) va) ∧ Aside0 (Owns w v va) ∧ Aside0 (w'.heap[b]? = some (.cells (splice cur o (nums .u8 ((d.c.D.drop i).take a))).toArray t (0, 0))) ∧ Aside0 (Keep w w' (Fr d v b)))
  case atStart => exact ⟨0, v, rfl, rfl, rfl, HS, ⟨Owns.refl _ _⟩, ⟨by rw [List.take_zero]; exact (splice_nil cur o).symm ▸ HBlk.out⟩, ⟨Keep.refl _ _⟩⟩
  case round =>
    obtain ⟨a, va, hga, rfl, rfl, HSa, HOa, HBa, HKa⟩ := hrel
    rcases Nat.lt_or_ge a m with hlt | hge
    · have d2 : decide (a < m) = true := decide_eq_true hlt
      have HBf : Aside0 (Free d va b) := ⟨HB.out.of HOa.out (lt_of_block HBlk.out)⟩
      have hlen : (nums .u8 ((d.c.D.drop i).take a)).length = a := nums_sub_len _ _ _ (by rw [HD.out.c.len]; omega)
      have HL := Aside0.mk hlen
      have HC : Aside0 (∀ q, Calls Tryz.prog 153 #[.pointer (some ⟨d.t, 0, none⟩), .slice (some ⟨b, o + a, none⟩) (m - a) (cp - a)] (wr.drewN q) fun e w' => ∃ k v', 0 < k ∧ k ≤ m - a ∧ i + a + k ≤ d.c.n ∧ e = .returned (.tuple #[.int .i64 k, .nilIface]) ∧ St w' d (i + (a + k)) v' ∧ Owns w v v' ∧ w'.heap[b]? = some (.cells (splice cur o (nums .u8 ((d.c.D.drop i).take (a + k)))).toArray t (0, 0)) ∧ Keep w w' (Fr d v b)) := ⟨fun q => by
        have hf := HF.out
        have hs : St (wr.drewN q) d (i + a) va := HSa.out.keep HD.out ((Keep.refl wr (fun _ => False)).drewN q) (fun _ h => h.elim)
        refine (teeRead (w := wr.drewN q) (cp := cp - a) HD.out hs (by omega) (by omega) (by omega) (by omega) (by omega) HBa.out HBf.out ?_).mono fun e w' ⟨k, v', h1, h2, h3, h4, h5, h6, h7, h8⟩ => ⟨k, v', h1, h2, h3, h4, by rw [← Nat.add_assoc]; exact h5, HOa.out.trans h6 (HKa.out.drewN q).size, ?_, Fr.trans (HKa.out.drewN q) HOa.out h8⟩
        · rw [splice_length _ _ _ (by rw [hlen]; omega)]; omega
        · rw [h7, ← sub_more]
          have := splice_splice cur (nums .u8 ((d.c.D.drop i).take a)) (nums .u8 ((d.c.D.drop (i + a)).take k)) o (by rw [hlen]; omega)
          rw [hlen] at this
          rw [this]⟩
      have hcut := cut_past b o m cp a hlt hcp
      clear hlen HSa HBa HKa HBf
      go_wp2_with fail
      go_region_held3 (fun _ => True) (exact trivial) ((go_at_call 153; refine (HC.out _).mono ?_; rintro e w2 ⟨k, v2, hk0, hk1, hk2, rfl, hs2, ho2, hd2, hK2⟩; have HS2 := Aside0.mk hs2; have HO2 := Aside0.mk ho2; have HD2 := Aside0.mk hd2; have HK2 := Aside0.mk hK2; clear hs2 ho2 hd2 hK2))
      go_wp2_with fail
      go_roundg (m - (a + k))
      case measure => omega
      case rel => exact ⟨a + k, v2, by omega, by go_num, rfl, HS2, HO2, HD2, HK2⟩
    · obtain rfl : a = m := by omega
      clear hge
      go_wp2_with fail
      go_ret2
      exact ⟨rfl, va, HSa.out, HOa.out, HBa.out, HKa.out⟩
set_option maxHeartbeats 8000000 in
set_option maxRecDepth 100000 in
theorem readFull_tee {w : World} {d : DC} {i b o m cp : Nat} {v : Value} {cur : List Value} {t : TypeId} (hd : d.Ok) (H : St w d i v) (hi : i + m ≤ d.c.n) (hm : 0 < m) (hm4 : m < 4096) (hcp : m ≤ cp) (hcl : cp ≤ 100000)
    (hblk : w.heap[b]? = some (.cells cur.toArray t (0, 0))) (hb : Free d v b) (hfit : o + m ≤ cur.length) :
    Calls Tryz.prog 40 #[.iface 97 (.pointer (some ⟨d.t, 0, none⟩)), .slice (some ⟨b, o, none⟩) m cp] w fun e w' => e = .returned (.tuple #[.int .i64 m, .nilIface]) ∧ ∃ v', St w' d (i + m) v' ∧ Owns w v v' ∧ w'.heap[b]? = some (.cells (splice cur o (nums .u8 ((d.c.D.drop i).take m))).toArray t (0, 0)) ∧ Keep w w' (Fr d v b) := by
  have HC := Aside0.mk (readAtLeast_tee hd H hi hm hm4 hcp hcl hblk hb hfit)
  clear hd H hi hblk hb hfit
  go_enter Tryz.func40, Tryz.ntmps40
  go_wp2_with (go_at_call 52; refine HC.out.mono ?_; rintro e w2 ⟨rfl, hg2⟩; have HG2 := Aside0.mk hg2; clear hg2)
  go_ret2
  exact ⟨rfl, HG2.out⟩
end Go.Proofs.YtllikhbafaohgaaGreatDoor.Idx
