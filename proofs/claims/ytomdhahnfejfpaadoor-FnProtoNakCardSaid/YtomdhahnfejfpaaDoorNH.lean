/- The packet line of a payload; the words ACK and NAK; a line decoded; whether to stop. -/
import Derived.Test.YtomdhahnfejfpaaDoorNG
namespace Go.Proofs.YtomdhahnfejfpaaDoor.Proto
open Go.RowKit Go.Proofs.YtomdhahnfejfpaaDoorW.PrintWords Go.Proofs.YtomdhahnfejfpaaDoorW.PrintLast Go.Proofs.YtomdhahnfejfpaaDoorW.PrintMore Go.Proofs.YtomdhahnfejfpaaDoor.PFnProtoNak

def hexc (d : Nat) : Int := if d < 10 then 48 + (d : Int) else 87 + (d : Int)
theorem hexc_ok {d : Nat} (h : d < 16) : HexD (hexc d) d := by
  unfold hexc
  split
  · exact .inl ⟨by omega, by omega, by omega⟩
  · exact .inr ⟨by omega, by omega, by omega⟩
def hex4 (n : Nat) : List Int := [hexc (n / 4096 % 16), hexc (n / 256 % 16), hexc (n / 16 % 16), hexc (n % 16)]
theorem hex4_all : ((List.range 1024).all fun n => spec_Hex4.f 5 (n : Int) == some (hex4 n)) = true := by kernel_rfl
theorem hex4_f {n : Nat} (h : n < 1024) : spec_Hex4.f 5 (n : Int) = some (hex4 n) := by
  have := List.all_eq_true.1 hex4_all n (List.mem_range.2 h)
  simpa using this

set_option maxHeartbeats 4000000 in
set_option maxRecDepth 100000 in
theorem line_calls {w : World} (A : Option Addr) (c : Nat) (ys : List UInt8) (hC : Kd.C (Kd.int .u8) w A ys.length (nums ys)) (hpos : 0 < ys.length) (hn : ys.length + 4 < 1024) :
    Calls Tryd.prog 7 #[.slice A ys.length c] w fun e w' => ∃ v, e = .returned v ∧ (Kd.int .u8).R 5 w' w.heap.size (fun _ => True) v (hex4 (ys.length + 4) ++ nums ys) ∧ Below w.heap.size w w' := by
  have z1 : (ys.length == 0) = false := by rw [beq_eq_false_iff_ne]; omega
  have HC := Aside0.mk hC
  have HH : Aside0 (∀ w : World, Calls Tryd.prog 11 #[.int .i64 (wrap64 ((ys.length : Int) + 4))] w fun e w' => ∃ v0_ : Value, e = .returned v0_ ∧ Kd.R (Kd.int .u8) 5 w' w.heap.size (fun _ => True) v0_ (hex4 (ys.length + 4)) ∧ Below w.heap.size w w') := ⟨fun w => by
    have e : wrap64 ((ys.length : Int) + 4) = ((ys.length + 4 : Nat) : Int) := by unfold wrap64; omega
    rw [e]
    exact spec_Hex4.calls 5 _ _ w (hex4_f hn)⟩
  have HL : Aside0 (((hex4 (ys.length + 4)).length + ys.length) * 1 ≤ 140737488355328) := ⟨by simp [hex4]; omega⟩
  clear hC hpos hn
  go_enter Tryd.func7, Tryd.ntmps7
  go_wp2_with (first
    | (go_at_call 11; refine (HH.out _).mono ?_; rintro e w1 ⟨v1, rfl, hr1, hb1⟩; obtain ⟨A1, c1, he1⟩ := Kd.R_slice hr1; obtain rfl : v1 = .slice A1 4 c1 := he1; have HR1 := Aside0.mk hr1; have HB1 := Aside0.mk hb1; have HC1 := Aside0.mk (Kd.C_below HC.out hb1); have HS1 := Aside0.mk hb1.size; have HF1 : Aside0 (∀ k, w1.heap.size ≤ k → True) := ⟨fun _ _ => trivial⟩; clear hr1 hb1)
    | (at_builtin; refine Kd.R_append_rows (Kd.int .u8) (w0 := w) w.heap.size rfl (.tmp 11) (.tmp 12) 22 5 (.int .u8 0) 1 rfl Tryd.underlying22 info5 rfl (by decide) (by omega) (.slice A1 4 c1) (hex4 (ys.length + 4)) (nums ys) _ _ _ (fun _ => True) (fun _ => False) rfl rfl ?aO ?aR (fun _ _ h => h) (fun _ h => h.elim) ?aF ?aB ?aS ?aL ?_; (case aR => exact HC1.out); (case aO => exact HR1.out); (case aF => exact HF1.out); (case aB => exact HB1.out); (case aS => exact HS1.out); (case aL => exact HL.out); rintro v2 w2 hr2 hb2 - -; have HR2 := Aside0.mk hr2; have HB2 := Aside0.mk hb2; clear hr2 hb2))
  go_ret
  exact ⟨_, rfl, HR2.out, HB2.out⟩
set_option maxHeartbeats 1000000 in
set_option maxRecDepth 100000 in
theorem ack_calls (w : World) : Calls Tryd.prog 36 #[] w fun e w' => e = .returned (.slice (some ⟨w.heap.size, 0, none⟩) 3 3) ∧ w' = w.alloc (.cells #[.int .u8 65, .int .u8 67, .int .u8 75] 5 (3, 4)) := by
  have kc := fun (w : World) (C : Array Value) (n c : Nat) => Lib.run_convert_bytes_const (P := Tryd.prog) w 22 5 C n c Tryd.underlying22 Tryd.underlying5
  go_enter Tryd.func36, Tryd.ntmps36
  go_wp2_with fail
  go_ret
  exact ⟨rfl, rfl⟩
set_option maxHeartbeats 1000000 in
set_option maxRecDepth 100000 in
theorem nak_calls (w : World) : Calls Tryd.prog 38 #[] w fun e w' => e = .returned (.slice (some ⟨w.heap.size, 0, none⟩) 3 3) ∧ w' = w.alloc (.cells #[.int .u8 78, .int .u8 65, .int .u8 75] 5 (3, 4)) := by
  have kc := fun (w : World) (C : Array Value) (n c : Nat) => Lib.run_convert_bytes_const (P := Tryd.prog) w 22 5 C n c Tryd.underlying22 Tryd.underlying5
  go_enter Tryd.func38, Tryd.ntmps38
  go_wp2_with fail
  go_ret
  exact ⟨rfl, rfl⟩

theorem C_of {w : World} {A : Addr} {n : Nat} {xs : List Int} (hn : xs.length = n) (hlim : n ≤ 9223372036854775807) (h : ∀ (j : Nat) (v : Value), (iv xs)[j]? = some v → w.cell? (A.add j) = some v) : Kd.C (Kd.int .u8) w (some A) n xs := by
  refine ⟨hn, hlim, fun _ => ⟨A, rfl, fun j p hj => ⟨[.int .u8 p], rfl, rfl, fun i u hu => ?_⟩⟩⟩
  have hi : i = 0 := by
    have := (List.getElem?_eq_some_iff.1 hu).1
    simpa using this
  subst hi
  obtain rfl : u = .int .u8 p := by simpa using hu.symm
  have e : j * (Kd.int .u8).sz + 0 = j := by show j * 1 + 0 = j; omega
  rw [e]
  exact h j _ (by simp [iv, hj])
theorem C_blk {w : World} {b : Nat} {t : TypeId} {fr : Nat × Nat} {xs : List Int} (h : w.heap[b]? = some (.cells (iv xs).toArray t fr)) (hl : xs.length ≤ 1000) : Kd.C (Kd.int .u8) w (some ⟨b, 0, none⟩) xs.length xs :=
  C_of rfl (by omega) (fun j v hv => by rw [add_off, Nat.zero_add]; exact cell_of h j (by rw [List.getElem?_toArray]; exact hv))
theorem head_ne {a b : Int} {xs ys : List Int} (h : (UInt8.ofNat a.toNat == UInt8.ofNat b.toNat) = false) : ((strOfNums (a :: xs)).toList == (strOfNums (b :: ys)).toList) = false := by
  unfold strOfNums
  rw [ByteArray.toList_eq, ByteArray.toList_eq]
  simp only [List.map_cons, List.cons_beq_cons]
  rw [Bool.and_eq_false_iff]
  exact .inl h
abbrev vAck : Obj := .cells #[.int .u8 65, .int .u8 67, .int .u8 75] 5 (3, 4)
abbrev vNak : Obj := .cells #[.int .u8 78, .int .u8 65, .int .u8 75] 5 (3, 4)
set_option maxHeartbeats 4000000 in
set_option maxRecDepth 100000 in
/-- Three bytes that are neither word are no command. -/
theorem valid_no {w : World} {rs : Value} {A : Option Addr} {c : Nat} {l : List Int} (hC : Kd.C (Kd.int .u8) w A l.length l) (hc : l.length ≤ c)
    (h1 : ((strOfNums l).toList == (strOfNums [65, 67, 75]).toList) = false) (h2 : ((strOfNums l).toList == (strOfNums [78, 65, 75]).toList) = false) :
    Calls Tryd.prog 40 #[rs, .slice A l.length c] w fun e w' => e = .returned (.bool false) ∧ Below w.heap.size w w' := by
  obtain ⟨a, ha⟩ : ∃ a, a = w.heap.size := ⟨_, rfl⟩
  obtain ⟨W3, hW3⟩ : ∃ W3, W3 = ((w.alloc vAck).alloc vNak).alloc (.cells #[.slice (some ⟨w.heap.size, 0, none⟩) 3 3, .slice (some ⟨w.heap.size + 1, 0, none⟩) 3 3] 22) := ⟨_, rfl⟩
  have HB : Aside0 (Below w.heap.size w W3) := ⟨by rw [hW3]; exact below_alloc (below_alloc (below_alloc (Below.refl _ _) _) _) _⟩
  have hn1 : W3.heap[w.heap.size]? = some vAck := by rw [hW3]; exact alloc_old (alloc_old (heap_alloc_new w _) _) _
  have hn2 : W3.heap[w.heap.size + 1]? = some vNak := by rw [hW3]; exact alloc_old (heap_new2 w _ _) _
  have hn3 : W3.heap[w.heap.size + 1 + 1]? = some (.cells #[.slice (some ⟨w.heap.size, 0, none⟩) 3 3, .slice (some ⟨w.heap.size + 1, 0, none⟩) 3 3] 22 (0, 0)) := by
    rw [hW3]
    have := heap_alloc_new ((w.alloc vAck).alloc vNak) (.cells #[.slice (some ⟨w.heap.size, 0, none⟩) 3 3, .slice (some ⟨w.heap.size + 1, 0, none⟩) 3 3] 22)
    rwa [show ((w.alloc vAck).alloc vNak).heap.size = w.heap.size + 1 + 1 from by show ((w.heap.push _).push _).size = _; simp] at this
  have HC : Aside0 (∀ W, Drawn0 W3 W → Kd.C (Kd.int .u8) W A l.length l) := ⟨fun W hd => by
    obtain ⟨m, rfl⟩ := hd.out
    exact Kd.C_below hC ((pw_below_drewN (n := m) HB.out))⟩
  have HE1 : Aside0 (∀ W, Drawn0 W3 W → Calls Tryd.prog 31 #[.slice A l.length c, .slice (some ⟨w.heap.size, 0, none⟩) 3 3] W fun e w' => e = .returned (.bool false) ∧ Drawn0 W3 w') := ⟨fun W hd => by
    obtain ⟨m, rfl⟩ := hd.out
    refine (bytes_Equal.calls A c l (some ⟨w.heap.size, 0, none⟩) 3 [65, 67, 75] false (W3.drewN m) (HC.out _ ⟨⟨m, rfl⟩⟩) hc (C_blk (t := 5) (fr := (3, 4)) (w := W3.drewN m) hn1 (by simp)) (by simp) (by unfold bytes_Equal.f; rw [h1])).mono fun e w' ⟨e1, e2⟩ => ⟨e1, drawn_trans ⟨⟨m, rfl⟩⟩ e2⟩⟩
  have HE2 : Aside0 (∀ W, Drawn0 W3 W → Calls Tryd.prog 31 #[.slice A l.length c, .slice (some ⟨w.heap.size + 1, 0, none⟩) 3 3] W fun e w' => e = .returned (.bool false) ∧ Drawn0 W3 w') := ⟨fun W hd => by
    obtain ⟨m, rfl⟩ := hd.out
    refine (bytes_Equal.calls A c l (some ⟨w.heap.size + 1, 0, none⟩) 3 [78, 65, 75] false (W3.drewN m) (HC.out _ ⟨⟨m, rfl⟩⟩) hc (C_blk (t := 5) (fr := (3, 4)) (w := W3.drewN m) hn2 (by simp)) (by simp) (by unfold bytes_Equal.f; rw [h2])).mono fun e w' ⟨e1, e2⟩ => ⟨e1, drawn_trans ⟨⟨m, rfl⟩⟩ e2⟩⟩
  have HN3 := Aside0.mk hn3
  have HW3 := Aside0.mk hW3
  have HA := Aside0.mk ha
  clear hC hc h1 h2 hn1 hn2 hn3 hW3 ha HA
  go_enter Tryd.func40, Tryd.ntmps40
  go_wp2_with (first
    | (go_at_call 36; refine (ack_calls _).mono ?_; rintro e w1 ⟨rfl, rfl⟩)
    | (go_at_call 38; refine (nak_calls _).mono ?_; rintro e w2 ⟨rfl, rfl⟩))
  rw [← HW3.out]
  clear HW3
  go_loopg [7, 13] 2 (fun kq v7 v13 w' => Aside0 (Drawn0 W3 w') ∧ ((kq = 2 ∧ v13 = .int .i64 0) ∨ (kq = 1 ∧ v13 = .int .i64 1) ∨ (kq = 0 ∧ v13 = .int .i64 2)))
  case atStart => exact ⟨⟨Drawn0.refl _⟩, .inl ⟨rfl, rfl⟩⟩
  case round =>
    obtain ⟨HD, hrel⟩ := hrel
    have n0 : wr.cell? ⟨w.heap.size + 1 + 1, 0, none⟩ = some (.slice (some ⟨w.heap.size, 0, none⟩) 3 3) := drawn_cell HD.out (cell_of HN3.out 0 rfl)
    have n1 : wr.cell? ⟨w.heap.size + 1 + 1, 1, none⟩ = some (.slice (some ⟨w.heap.size + 1, 0, none⟩) 3 3) := drawn_cell HD.out (cell_of HN3.out 1 rfl)
    rcases hrel with ⟨rfl, rfl⟩ | ⟨rfl, rfl⟩ | ⟨rfl, rfl⟩
    · go_wp2_with (go_at_call 31; refine (HE1.out _ HD.out).mono ?_; rintro e w5 ⟨rfl, hd⟩; have HD5 := Aside0.mk hd; clear hd)
      go_roundg 1
      case measure => omega
      case rel => exact ⟨HD5, .inr (.inl ⟨rfl, by go_num⟩)⟩
    · go_wp2_with (go_at_call 31; refine (HE2.out _ HD.out).mono ?_; rintro e w5 ⟨rfl, hd⟩; have HD5 := Aside0.mk hd; clear hd)
      go_roundg 0
      case measure => omega
      case rel => exact ⟨HD5, .inr (.inr ⟨rfl, by go_num⟩)⟩
    · go_wp2_with fail
      go_ret
      obtain ⟨m, hm⟩ := HD.out.out
      exact ⟨rfl, by rw [hm]; exact pw_below_drewN HB.out m⟩
theorem cut_three (bb : Nat) : ∀ W : World, (Instr.slice 22 (.slice (some ⟨bb, 8, none⟩) 7 4088) (some (.int .i64 0)) (some (.int .i64 3)) none).run Tryd.prog W = .ok (.slice (some ⟨bb, 8, none⟩) 3 4088) W := by
  obtain ⟨i0, hi, _, hsz, _⟩ := info_parts PFnProtoNak.info5
  intro W
  have := cut_mid (P := Tryd.prog) 22 5 .i64 .i64 Tryd.underlying22 hi 1 hsz (some ⟨bb, 8, none⟩) 7 4088 0 3 (by omega) (by omega) (by omega) (by omega) W
  rw [this]
  simp [add_off]
theorem cut_four (bb : Nat) : ∀ W : World, (Instr.slice 22 (.slice (some ⟨bb, 8, none⟩) 7 4088) (some (.int .i64 4)) none none).run Tryd.prog W = .ok (.slice (some ⟨bb, 12, none⟩) 3 4084) W := by
  obtain ⟨i0, hi, _, hsz, _⟩ := info_parts PFnProtoNak.info5
  intro W
  have := cut_from (P := Tryd.prog) 22 5 .i64 Tryd.underlying22 hi 1 hsz (some ⟨bb, 8, none⟩) 7 4088 4 (by omega) (by omega) W
  rw [this]
  simp [add_off]
set_option maxHeartbeats 4000000 in
set_option maxRecDepth 100000 in
theorem stop_some {w : World} {rs : Value} {p bb g k : Nat} {q1 : Addr} {lb lr t1 t2 : Int} {K : List Int} {cs : List Value} (hb : Bio w p bb g 8 k .nilIface lb lr) (hrow : Row w bb K cs) (hk1 : 15 ≤ k) (hk2 : k ≤ 4096) (hpb : p ≠ bb)
    (hK : ∀ (j : Nat) (v : Value), (iv [80, 65, 67, 75, 0, t1, t2])[j]? = some v → (iv K)[8 + j]? = some v) (he : w.cell? ⟨0, 0, none⟩ = some (.iface 98 (.pointer (some q1)))) (h0p : 0 ≠ p) :
    Calls Tryd.prog 26 #[rs, .pointer (some ⟨p, 0, none⟩)] w fun e w' => e = .returned (.tuple #[.bool true, .nilIface]) ∧ Keep w w' (fun j => j = p) := by
  have HP := Aside0.mk (peek_some hb hrow hk1 hk2 hpb)
  have HE := Aside0.mk he
  have HN := Aside0.mk (⟨hpb, h0p⟩ : p ≠ bb ∧ 0 ≠ p)
  have HKa : Aside0 (∀ (j : Nat) (v : Value), (iv [80, 65, 67])[j]? = some v → (iv K)[8 + j]? = some v) := ⟨fun j v hv => hK j v (by
    match j, hv with
    | 0, hv => exact hv
    | 1, hv => exact hv
    | 2, hv => exact hv)⟩
  have HKb : Aside0 (∀ (j : Nat) (v : Value), (iv [0, t1, t2])[j]? = some v → (iv K)[12 + j]? = some v) := ⟨fun j v hv => by
    have h1 : (iv [80, 65, 67, 75, 0, t1, t2])[4 + j]? = some v := by
      match j, hv with
      | 0, hv => exact hv
      | 1, hv => exact hv
      | 2, hv => exact hv
    have := hK (4 + j) v h1
    rwa [show 8 + (4 + j) = 12 + j by omega] at this⟩
  have kq := fun W => run_eql_iface_nil_left (P := Tryd.prog) W 98 (.pointer (some q1)) info35
  have hcut1 := cut_three bb
  have hcut2 := cut_four bb
  clear hb hrow hk1 hk2 hpb hK he h0p
  go_enter Tryd.func26, Tryd.ntmps26
  go_wp2_with (go_at_call 39; refine HP.out.mono ?_; rintro e w1 ⟨rfl, hr1, hk1⟩; have HR1 := Aside0.mk hr1; have HK1 := Aside0.mk hk1; have HE1 := hk1.cell HE.out (fun h => HN.out.2 h); clear hr1 hk1; refine Aside0.out ?_)
  have HC1 : Aside0 (Calls Tryd.prog 40 #[rs, .slice (some ⟨bb, 8, none⟩) 3 4088] w1 fun e w' => e = .returned (.bool false) ∧ Below w1.heap.size w1 w') := ⟨valid_no (l := [80, 65, 67]) (C_of rfl (by simp) (fun j v hv => by rw [add_off]; exact HR1.out.cell (8 + j) v (HKa.out j v hv))) (by simp) (by decide +kernel) (by decide +kernel)⟩
  have HC2 : Aside0 (∀ w2, Below w1.heap.size w1 w2 → Calls Tryd.prog 40 #[rs, .slice (some ⟨bb, 12, none⟩) 3 4084] w2 fun e w' => e = .returned (.bool false) ∧ Below w2.heap.size w2 w') := ⟨fun w2 hB => valid_no (l := [0, t1, t2]) (Kd.C_below (w := w1) (xs := [0, t1, t2]) (A := some ⟨bb, 12, none⟩) (C_of rfl (by simp) (fun j v hv => by rw [add_off]; exact HR1.out.cell (12 + j) v (HKb.out j v hv))) hB) (by simp) (head_ne (by decide)) (head_ne (by decide))⟩
  refine Aside0.mk ?_
  go_wp2_with (go_at_call 40; refine HC1.out.mono ?_; rintro e w2 ⟨rfl, hb2⟩; have HB2 := Aside0.mk hb2; clear hb2; refine Aside0.out ?_)
  have HC3 := Aside0.mk (HC2.out w2 HB2.out)
  refine Aside0.mk ?_
  go_wp2_with (go_at_call 40; refine HC3.out.mono ?_; rintro e w3 ⟨rfl, hb3⟩; have HB3 := Aside0.mk hb3; clear hb3)
  go_ret2
  exact ⟨rfl, HK1.out.trans (Keep.of_below (HB2.out.trans (HB3.out.mono HB2.out.size)) _) (fun _ _ h => h)⟩
set_option maxHeartbeats 4000000 in
set_option maxRecDepth 100000 in
theorem stop_end {w : World} {rs : Value} {p bb g k k8 n cap : Nat} {A q1 : Addr} {lb lr pr : Int} {K : List Int} {cs : List Value} (hb : Bio w p bb g 8 k .nilIface lb lr) (hrow : Row w bb K cs) (hKl : K.length = k) (hk : k = k8 + 8) (hk2 : k ≤ 14) (hr : Rdr w g A n cap n pr)
    (he : w.cell? ⟨0, 0, none⟩ = some (.iface 98 (.pointer (some q1)))) (hpb : p ≠ bb) (hpg : p ≠ g) (hbg : bb ≠ g) (h0p : 0 ≠ p) (h0b : 0 ≠ bb) :
    Calls Tryd.prog 26 #[rs, .pointer (some ⟨p, 0, none⟩)] w fun e w' => e = .returned (.tuple #[.bool true, .nilIface]) ∧ Keep w w' (fun j => j = p ∨ j = bb) := by
  have HP := Aside0.mk (peek_end hb hrow hKl hk hk2 hr he hpb hpg hbg h0p h0b)
  have HE := Aside0.mk he
  have HN := Aside0.mk (⟨h0p, h0b⟩ : 0 ≠ p ∧ 0 ≠ bb)
  have kq := err_same q1
  clear hb hrow hKl hk hk2 hr he hpb hpg hbg h0p h0b
  go_enter Tryd.func26, Tryd.ntmps26
  go_wp2_with (go_at_call 39; refine HP.out.mono ?_; rintro e w1 ⟨⟨v, rfl⟩, hk1⟩; have HK1 := Aside0.mk hk1; have HE1 := hk1.cell HE.out (fun h => h.elim HN.out.1 HN.out.2); clear hk1)
  go_ret2
  exact ⟨rfl, HK1.out⟩
end Go.Proofs.YtomdhahnfejfpaaDoor.Proto
