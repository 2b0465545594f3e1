/- The line NAK is decoded out of a bufio.Reader: Decode, ZZReadAcks, ReadAcks. -/
import Derived.Test.YtomdhahnfejfpaaDoorNH
namespace Go.Proofs.YtomdhahnfejfpaaDoor.Proto
open Go.RowKit Go.Proofs.YtomdhahnfejfpaaDoorW.PrintWords Go.Proofs.YtomdhahnfejfpaaDoorW.PrintLast Go.Proofs.YtomdhahnfejfpaaDoorW.PrintMore Go.Proofs.YtomdhahnfejfpaaDoor.PFnProtoNak

def nakLine : List UInt8 := [78, 65, 75, 10]
theorem cut_line (pb : Nat) : ∀ W : World, (Instr.slice 22 (.slice (some ⟨pb, 0, none⟩) 4 4) (some (.int .i64 0)) (some (.int .i64 3)) none).run Tryd.prog W = .ok (.slice (some ⟨pb, 0, none⟩) 3 4) W := by
  obtain ⟨i0, hi, _, hsz, _⟩ := info_parts PFnProtoNak.info5
  intro W
  have := cut_mid (P := Tryd.prog) 22 5 .i64 .i64 Tryd.underlying22 hi 1 hsz (some ⟨pb, 0, none⟩) 4 4 0 3 (by omega) (by omega) (by omega) (by omega) W
  rw [this]
  simp [add_off]
theorem nak_C {w : World} {pb : Nat} {fr : Nat × Nat} (h : w.heap[pb]? = some (.cells (vals nakLine).toArray 5 fr)) : Kd.C (Kd.int .u8) w (some ⟨pb, 0, none⟩) 3 [78, 65, 75] :=
  C_of rfl (by simp) (fun j v hv => by
    rw [add_off, Nat.zero_add]
    exact cell_of h j (by
      match j, hv with
      | 0, hv => exact hv
      | 1, hv => exact hv
      | 2, hv => exact hv))
theorem eq_at {w : World} {pb eb : Nat} {l : List Int} {fr : Nat × Nat} {r : Bool} (hp : w.heap[pb]? = some (.cells (vals nakLine).toArray 5 fr)) (he : w.heap[eb]? = some (.cells (iv l).toArray 5 (3, 4))) (hl : l.length = 3) (hr : ((strOfNums [78, 65, 75]).toList == (strOfNums l).toList) = r) :
    ∀ k, Calls Tryd.prog 31 #[.slice (some ⟨pb, 0, none⟩) 3 4, .slice (some ⟨eb, 0, none⟩) 3 3] (w.drewN k) fun e w' => e = .returned (.bool r) ∧ Drawn0 w w' := fun k => by
  have h := bytes_Equal.calls (some ⟨pb, 0, none⟩) 4 [78, 65, 75] (some ⟨eb, 0, none⟩) 3 l r (w.drewN k) (nak_C (w := w.drewN k) hp) (by simp) (C_blk (w := w.drewN k) he (by omega)) (by omega) (by unfold bytes_Equal.f; rw [hr])
  rw [hl] at h
  exact h.mono fun e w' ⟨e1, e2⟩ => ⟨e1, drawn_trans ⟨⟨k, rfl⟩⟩ e2⟩
set_option maxHeartbeats 4000000 in
set_option maxRecDepth 100000 in
theorem decodeLine_calls {w : World} {rs : Value} {pb : Nat} (hp : w.heap[pb]? = some (.cells (vals nakLine).toArray 5 (0, 0))) :
    Calls Tryd.prog 25 #[rs, .slice (some ⟨pb, 0, none⟩) 4 4] w fun e w' => e = .returned .nilIface ∧ Below w.heap.size w w' := by
  have HL : Aside0 (∀ (f : Nat) (o : Obj) (W : World) (k : Nat), (∀ W, Calls Tryd.prog f #[] W fun e w' => e = .returned (.slice (some ⟨W.heap.size, 0, none⟩) 3 3) ∧ w' = W.alloc o) → W.heap[pb]? = some (.cells (vals nakLine).toArray 5 (0, 0)) → Below w.heap.size w W → Calls Tryd.prog f #[] (W.drewN k) fun e w' => ∃ eb, e = .returned (.slice (some ⟨eb, 0, none⟩) 3 3) ∧ w'.heap[eb]? = some o ∧ w'.heap[pb]? = some (.cells (vals nakLine).toArray 5 (0, 0)) ∧ Below w.heap.size w w') := ⟨fun f o W k hf hW hB => (hf (W.drewN k)).mono fun e w' ⟨he, hw⟩ => ⟨_, he, by rw [hw]; exact heap_alloc_new (W.drewN k) _, by rw [hw]; exact alloc_old (w := W.drewN k) hW _, by rw [hw]; exact below_alloc (pw_below_drewN hB k) _⟩⟩
  have HA : Aside0 (∀ k, Calls Tryd.prog 36 #[] (w.drewN k) fun e w' => ∃ eb, e = .returned (.slice (some ⟨eb, 0, none⟩) 3 3) ∧ w'.heap[eb]? = some vAck ∧ w'.heap[pb]? = some (.cells (vals nakLine).toArray 5 (0, 0)) ∧ Below w.heap.size w w') := ⟨fun k => HL.out 36 vAck w k ack_calls hp (Below.refl _ _)⟩
  have hcut := cut_line pb
  clear hp
  go_enter Tryd.func25, Tryd.ntmps25
  go_wp2_with fail
  go_region_held3 (fun _ => True) (exact trivial) ((first
    | (go_at_call 36; refine (HA.out _).mono ?_; rintro e w1 ⟨eb, rfl, he1, hp1, hb1⟩; have HP1 := Aside0.mk hp1; have HB1 := Aside0.mk hb1; have HQ1 := Aside0.mk (eq_at (r := false) (l := [65, 67, 75]) hp1 he1 rfl (by decide +kernel)); clear he1 hp1 hb1)
    | (go_at_call 31; (first | refine (HQ1.out 0).mono ?_ | refine (HQ1.out _).mono ?_); rintro e w2 ⟨rfl, hd2⟩; have HP2 : Aside0 (w2.heap[pb]? = some (.cells (vals nakLine).toArray 5 (0, 0)) ∧ Below w.heap.size w w2) := ⟨by obtain ⟨m, rfl⟩ := hd2.out; exact ⟨HP1.out, pw_below_drewN HB1.out m⟩⟩; clear hd2)))
  have HA2 : Aside0 (∀ k, Calls Tryd.prog 38 #[] (w2.drewN k) fun e w' => ∃ eb, e = .returned (.slice (some ⟨eb, 0, none⟩) 3 3) ∧ w'.heap[eb]? = some vNak ∧ w'.heap[pb]? = some (.cells (vals nakLine).toArray 5 (0, 0)) ∧ Below w.heap.size w w') := ⟨fun k => HL.out 38 vNak w2 k nak_calls HP2.out.1 HP2.out.2⟩
  clear HA HP1 HB1 HQ1
  go_wp2_with fail
  go_region_held3 (fun _ => True) (exact trivial) ((first
    | (go_at_call 38; refine (HA2.out _).mono ?_; rintro e w3 ⟨eb, rfl, he3, hp3, hb3⟩; have HB3 := Aside0.mk hb3; have HQ3 := Aside0.mk (eq_at (r := true) (l := [78, 65, 75]) hp3 he3 rfl (by decide +kernel)); clear he3 hp3 hb3)
    | (go_at_call 31; (first | refine (HQ3.out 0).mono ?_ | refine (HQ3.out _).mono ?_); rintro e w4 ⟨rfl, hd4⟩; have HB4 : Aside0 (Below w.heap.size w w4) := ⟨by obtain ⟨m, rfl⟩ := hd4.out; exact pw_below_drewN HB3.out m⟩; clear hd4)))
  go_wp2_with fail
  go_ret
  exact ⟨rfl, HB4.out⟩
/-- The buffered reader has read r bytes of the k that lie in its buffer. -/
def BufAt (p bb g k : Nat) (A : Addr) (n cap : Nat) (K : List Int) (r : Int) (w : World) : Prop := (∃ lb lr, Bio w p bb g r k .nilIface lb lr) ∧ (∃ cs, Row w bb K cs) ∧ Rdr w g A n cap k (-1)
theorem BufAt.keep {p bb g k : Nat} {A : Addr} {n cap : Nat} {K : List Int} {r : Int} {w w' : World} {F : Nat → Prop} (h : BufAt p bb g k A n cap K r w) (hk : Keep w w' F) (h1 : ¬ F p) (h2 : ¬ F bb) (h3 : ¬ F g) : BufAt p bb g k A n cap K r w' := by
  obtain ⟨⟨lb, lr, hb⟩, ⟨cs, hr⟩, hd⟩ := h
  exact ⟨⟨lb, lr, hb.keep hk h1⟩, ⟨cs, hr.keep hk h2⟩, (hk.block g (lt_of_block hd) h3).trans hd⟩
theorem splice_all (Z : Array Value) (xs : List Value) (h : Z.size = xs.length) : splice Z.toList 0 xs = xs := by
  unfold splice
  have : Z.toList.drop (0 + xs.length) = [] := List.drop_eq_nil_of_le (by simp [h])
  rw [this]; simp
set_option maxHeartbeats 4000000 in
set_option maxRecDepth 100000 in
theorem scan_buf {w : World} {p bb g q n cap k : Nat} {A a1 : Addr} {te : TypeId} {lb lr pr : Int} {K K' : List Int} {Z : Array Value}
    (hs : Scn w q (.iface 49 (.pointer (some ⟨p, 0, none⟩))) .nilIface (.slice none 0 0) 0 0 0 0) (hb : Bio w p bb g 0 0 .nilIface lb lr) (hr : Rdr w g A n cap 0 pr) (hbuf : w.heap[bb]? = some (.cells Z 5 (0, 0))) (hZ : Z.size = 4096)
    (hsrc : ∀ (j : Nat) (v : Value), (iv K)[j]? = some v → w.cell? (A.add j) = some v) (hk : K.length = k) (hkn : k = min n 4096) (hK : K = 48 :: 48 :: 48 :: 56 :: 78 :: 65 :: 75 :: 10 :: K')
    (hn : n ≤ cap) (hnl : n ≤ 140737488355328) (hA1 : A.block ≠ bb) (hA2 : A.block ≠ g) (hA3 : A.block ≠ p) (hpb : p ≠ bb) (hpg : p ≠ g) (hbg : bb ≠ g) (hqp : q ≠ p) (hqb : q ≠ bb) (hqg : q ≠ g)
    (heof : w.cell? ⟨0, 0, none⟩ = some (.iface te (.pointer (some a1)))) (h0p : 0 ≠ p) (h0b : 0 ≠ bb) (h0g : 0 ≠ g) (h0q : 0 ≠ q) :
    Calls Tryd.prog 14 #[.pointer (some ⟨q, 0, none⟩)] w fun e w' => e = .returned (.bool true) ∧ ∃ pb, w.heap.size ≤ pb ∧ BufAt p bb g k A n cap K 8 w' ∧ Scn w' q (.iface 49 (.pointer (some ⟨p, 0, none⟩))) .nilIface (.slice (some ⟨pb, 0, none⟩) 4 4) 48 48 48 56 ∧ w'.heap[pb]? = some (.cells (vals nakLine).toArray 5 (0, 0)) ∧ Keep w w' (fun j => (j = p ∨ j = bb ∨ j = g) ∨ j = q) := by
  have h8 : 8 ≤ k := by rw [← hk, hK]; simp
  have h96 : k ≤ 4096 := by omega
  have hqM : ¬ (q = p ∨ q = bb ∨ q = g) := fun h => h.elim hqp (fun h => h.elim hqb hqg)
  have cl : ∀ (r : Int) (w1 w2 : World), BufAt p bb g k A n cap K r w1 → Keep w1 w2 (fun j => j = q) → BufAt p bb g k A n cap K r w2 := fun r w1 w2 h hk => h.keep hk hqp.symm hqb.symm hqg.symm
  refine scan_gen (te := te) (a1 := a1) nakLine (R1 := BufAt p bb g k A n cap K 4) (R2 := BufAt p bb g k A n cap K 8) (M := fun j => j = p ∨ j = bb ∨ j = g) ?_ (cl 4) (cl 8) ?_ hqM (by decide) (by decide) (by decide) heof (fun h => h.elim h0p (fun h => h.elim h0b h0g)) h0q (lt_of_block hs)
  · have hR : ∀ j, Calls Tryd.prog 21 #[.iface 49 (.pointer (some ⟨p, 0, none⟩)), .slice (some ⟨q, 3, none⟩) 4 4] (w.drewN j) fun e w' => e = .returned (.tuple #[.int .i64 4, .nilIface]) ∧ w'.heap[q]? = some (.cells #[.iface 49 (.pointer (some ⟨p, 0, none⟩)), .nilIface, .slice none 0 0, .int .u8 48, .int .u8 48, .int .u8 48, .int .u8 56] 58 (0, 0)) ∧ (BufAt p bb g k A n cap K 4 w' ∧ Keep w w' (fun j => (j = p ∨ j = bb ∨ j = g) ∨ j = q)) := fun j => by
      refine readFull_bufio (m := 4) (by omega) (by omega) (fun j2 => ?_)
      refine (bufRead_first (w := (w.drewN j).drewN j2) (b := q) (o := 3) (c := 4) (t := 58) (cs0 := Z.toList) (cur := [.iface 49 (.pointer (some ⟨p, 0, none⟩)), .nilIface, .slice none 0 0, .int .u8 0, .int .u8 0, .int .u8 0, .int .u8 0]) hb hr (by simpa using hbuf) (by simpa using hZ) hsrc hk hkn hK hn hnl hA1 hA2 hA3 hbg hpg hqg hs hqp hqb hpb (by simp)).mono fun e w' ⟨e1, ⟨lb', e2⟩, e3, e4, e5, e6⟩ => ⟨e1, e5, ⟨⟨lb', -1, e2⟩, e3, e4⟩, ?_⟩
      exact ⟨e6.os, e6.tape, e6.output, e6.size, fun i hi hn => e6.block i hi (fun h => hn (h.elim (fun e => Or.inl (Or.inl e)) (fun h => h.elim (fun e => Or.inl (Or.inr (Or.inl e))) (fun h => h.elim (fun e => Or.inl (Or.inr (Or.inr e))) Or.inr))))⟩
    have := payloadLen_gen (8 : Int) (R := fun w' => BufAt p bb g k A n cap K 4 w' ∧ Keep w w' (fun j => (j = p ∨ j = bb ∨ j = g) ∨ j = q)) (d0 := 0) (d1 := 0) (d2 := 0) (d3 := 8) hs hR (fun w' o hr => ⟨hr.1.keep (F := fun _ => False) ((Keep.refl w' _).alloc o) (fun h => h) (fun h => h) (fun h => h), hr.2.alloc o⟩) (.inl ⟨by omega, by omega, by omega⟩) (.inl ⟨by omega, by omega, by omega⟩) (.inl ⟨by omega, by omega, by omega⟩) (.inl ⟨by omega, by omega, by omega⟩) (by omega) (by omega) (by omega)
    exact this.mono fun e w' ⟨e1, e2, e3⟩ => ⟨e1, e2, e3.1, e3.2⟩
  · intro W pb Z2 hR1 hkW hpbw hZb hZ2
    have hpp : pb ≠ p := by have := hb.lt; omega
    have hpbb : pb ≠ bb := by have := lt_of_block hbuf; omega
    have hpgg : pb ≠ g := by have := lt_of_block hr; omega
    refine readFull_bufio (m := 4) (by omega) (by omega) (fun j2 => ?_)
    obtain ⟨⟨lb1, lr1, hb1⟩, ⟨cs1, hrow1⟩, hrd1⟩ := hR1
    refine (bufRead_next (w := W.drewN j2) (b := pb) (o := 0) (c := 4) (t := 5) (cur := Z2.toList) (y0 := 78) (y1 := 65) (y2 := 75) (y3 := 10) (cs := cs1) (K := K) hb1 h8 h96 ⟨hrow1.blk, hrow1.len, hrow1.has⟩ (fun j v hv => hrow1.cell (4 + j) v ?_) (by simpa using hZb) hpp hpbb hpb (by simp [hZ2, nakLine])).mono fun e w' ⟨e1, ⟨lb', e2⟩, e3, e4, e5⟩ => ⟨e1, ⟨⟨lb', -1, e2⟩, ⟨cs1, e3⟩, ?_⟩, ?_, ?_⟩
    · rw [hK]
      match j, hv with
      | 0, hv => exact hv
      | 1, hv => exact hv
      | 2, hv => exact hv
      | 3, hv => exact hv
    · exact (e5.block g (lt_of_block (w := W) hrd1) (fun h => h.elim hpg.symm hpgg.symm)).trans hrd1
    · rw [splice_all Z2 _ (by rw [hZ2]; rfl)] at e4
      exact e4
    · exact ⟨e5.os, e5.tape, e5.output, e5.size, fun i hi hn => e5.block i hi (fun h => hn (h.elim (fun e => Or.inl (Or.inl e)) Or.inr))⟩
end Go.Proofs.YtomdhahnfejfpaaDoor.Proto
