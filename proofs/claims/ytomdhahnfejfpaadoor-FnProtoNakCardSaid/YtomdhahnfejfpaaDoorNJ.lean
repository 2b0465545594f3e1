/- ServerResponse.Decode of the line NAK; ZZReadAcks, ReadAcks. -/
import Derived.Test.YtomdhahnfejfpaaDoorNI
namespace Go.Proofs.YtomdhahnfejfpaaDoor.Proto
open Go.RowKit Go.Proofs.YtomdhahnfejfpaaDoorW.PrintWords Go.Proofs.YtomdhahnfejfpaaDoorW.PrintLast Go.Proofs.YtomdhahnfejfpaaDoorW.PrintMore Go.Proofs.YtomdhahnfejfpaaDoor.PFnProtoNak

set_option maxHeartbeats 8000000 in
set_option maxRecDepth 100000 in
theorem decode_nak {w : World} {rsv : Value} {p bb g n cap k : Nat} {A a1 : Addr} {lb lr pr : Int} {K K' : List Int} {Z : Array Value}
    (hb : Bio w p bb g 0 0 .nilIface lb lr) (hr : Rdr w g A n cap 0 pr) (hbuf : w.heap[bb]? = some (.cells Z 5 (0, 0))) (hZ : Z.size = 4096)
    (hsrc : ∀ (j : Nat) (v : Value), (iv K)[j]? = some v → w.cell? (A.add j) = some v) (hk : K.length = k) (hkn : k = min n 4096) (hK : K = 48 :: 48 :: 48 :: 56 :: 78 :: 65 :: 75 :: 10 :: K')
    (hn : n ≤ cap) (hnl : n ≤ 140737488355328) (hA1 : A.block ≠ bb) (hA2 : A.block ≠ g) (hA3 : A.block ≠ p) (hpb : p ≠ bb) (hpg : p ≠ g) (hbg : bb ≠ g)
    (heof : w.cell? ⟨0, 0, none⟩ = some (.iface 98 (.pointer (some a1)))) (h0p : 0 ≠ p) (h0b : 0 ≠ bb) (h0g : 0 ≠ g)
    (hstop : ∀ W, BufAt p bb g k A n cap K 8 W → W.cell? ⟨0, 0, none⟩ = some (.iface 98 (.pointer (some a1))) → Calls Tryd.prog 26 #[rsv, .pointer (some ⟨p, 0, none⟩)] W fun e w' => e = .returned (.tuple #[.bool true, .nilIface]) ∧ Keep W w' (fun j => j = p ∨ j = bb)) :
    Calls Tryd.prog 17 #[rsv, .pointer (some ⟨p, 0, none⟩), .bool false] w fun e w' => e = .returned .nilIface ∧ Keep w w' (fun j => j = p ∨ j = bb ∨ j = g) := by
  obtain ⟨q, hq⟩ : ∃ q, q = w.heap.size := ⟨_, rfl⟩
  obtain ⟨W1, hW1⟩ : ∃ W1, W1 = w.alloc (.cells #[.iface 49 (.pointer (some ⟨p, 0, none⟩)), .nilIface, .slice none 0 0, .int .u8 0, .int .u8 0, .int .u8 0, .int .u8 0] 58) := ⟨_, rfl⟩
  have hB1 : Below w.heap.size w W1 := by rw [hW1]; exact below_alloc (Below.refl _ _) _
  have k1 : Keep w W1 (fun _ => False) := Keep.of_below hB1 _
  have hpw := hb.lt
  have hbw := lt_of_block hbuf
  have hgw := lt_of_block hr
  have h0w : 0 < w.heap.size := World.block_lt_of_cell? w _ heof
  have HScan := Aside0.mk (scan_buf (w := W1) (q := q) (lb := lb) (lr := lr) (te := 98) (a1 := a1) (by rw [hW1, hq]; exact heap_alloc_new w _) (hb.keep k1 (fun h => h)) ((k1.block g hgw (fun h => h)).trans hr) ((k1.block bb hbw (fun h => h)).trans hbuf) hZ (fun j v hv => k1.cell (hsrc j v hv) (fun h => h)) hk hkn hK hn hnl hA1 hA2 hA3 hpb hpg hbg (by omega) (by omega) (by omega) (k1.cell heof (fun h => h)) h0p h0b h0g (by omega))
  have HStop := Aside0.mk hstop
  have HE1 : Aside0 (W1.cell? ⟨0, 0, none⟩ = some (.iface 98 (.pointer (some a1)))) := ⟨k1.cell heof (fun h => h)⟩
  have HN : Aside0 (q ≠ p ∧ q ≠ bb ∧ q ≠ g ∧ 0 ≠ p ∧ 0 ≠ bb ∧ 0 ≠ g ∧ 0 ≠ q ∧ w.heap.size ≤ q) := ⟨⟨by omega, by omega, by omega, h0p, h0b, h0g, by omega, by omega⟩⟩
  have HB1 := Aside0.mk hB1
  have HW1 := Aside0.mk hW1
  have HQ := Aside0.mk hq
  clear hb hr hbuf hZ hsrc hk hkn hK hn hnl hA1 hA2 hA3 hpb hpg hbg heof h0p h0b h0g hstop hB1 k1 hpw hbw hgw h0w hW1 hq
  go_enter Tryd.func17, Tryd.ntmps17
  go_wp2_with (go_at_call 12; refine (newScanner_calls _ _ _).mono ?_; rintro e w1 ⟨rfl, rfl⟩)
  rw [← HW1.out, ← HQ.out]
  clear HW1 HQ
  go_loopg [8, 9, 10, 11] 1 (fun kq v8 v9 v10 v11 w' => w' = W1)
  case atStart => exact rfl
  case round =>
    subst hrel
    go_wp2_with (go_at_call 14; refine HScan.out.mono ?_; rintro e w2 ⟨rfl, pb, hpb, hbuf2, hs2, hp2, hk2⟩; have HBuf2 := Aside0.mk hbuf2; have HS2 := Aside0.mk hs2; have HP2 := Aside0.mk hp2; have HK2 := Aside0.mk hk2; clear hpb hbuf2 hs2 hp2 hk2; refine Aside0.out ?_)
    have HE2 : Aside0 (w2.cell? ⟨0, 0, none⟩ = some (.iface 98 (.pointer (some a1)))) := ⟨HK2.out.cell HE1.out (fun h => h.elim (fun h => h.elim HN.out.2.2.2.1 (fun h => h.elim HN.out.2.2.2.2.1 HN.out.2.2.2.2.2.1)) HN.out.2.2.2.2.2.2.1)⟩
    have HB := Aside0.mk (scannerBytes_calls HS2.out)
    have HD := Aside0.mk (decodeLine_calls (rs := rsv) HP2.out)
    refine Aside0.mk ?_
    go_wp2_with (first
      | (go_at_call 15; refine HB.out.mono ?_; rintro e w3 ⟨rfl, rfl⟩)
      | (go_at_call 25; refine HD.out.mono ?_; rintro e w4 ⟨rfl, hb4⟩; have HB4 := Aside0.mk hb4; clear hb4; refine Aside0.out ?_))
    have k4 := Keep.of_below HB4.out (fun _ => False)
    have HS4 := Aside0.mk (HStop.out w4 (HBuf2.out.keep k4 (fun h => h) (fun h => h) (fun h => h)) (k4.cell HE2.out (fun h => h)))
    have HSc4 : Aside0 (Scn w4 q (.iface 49 (.pointer (some ⟨p, 0, none⟩))) .nilIface (.slice (some ⟨pb, 0, none⟩) 4 4) 48 48 48 56) := ⟨(k4.block q (lt_of_block HS2.out) (fun h => h)).trans HS2.out⟩
    clear k4
    refine Aside0.mk ?_
    go_wp2_with (go_at_call 26; refine HS4.out.mono ?_; rintro e w5 ⟨rfl, hk5⟩; have HK5 := Aside0.mk hk5; clear hk5; refine Aside0.out ?_)
    have HE := Aside0.mk (scannerErr_calls (w := w5) ((HK5.out.block q (lt_of_block HSc4.out) (fun h => h.elim HN.out.1 HN.out.2.1)).trans HSc4.out))
    refine Aside0.mk ?_
    go_wp2_with (go_at_call 16; refine HE.out.mono ?_; rintro e w6 ⟨rfl, rfl⟩)
    go_ret
    refine ⟨rfl, ?_⟩
    have ka : Keep w wr (fun j => j = p ∨ j = bb ∨ j = g) := Keep.of_below HB1.out _
    have kb := ka.trans HK2.out (fun j hj h => h.elim (fun h => h) (fun e => by have := HN.out.2.2.2.2.2.2.2; omega))
    have kc := kb.trans (Keep.of_below HB4.out (fun _ => False)) (fun _ _ h => h.elim)
    exact kc.trans HK5.out (fun _ _ h => h.elim Or.inl (fun e => Or.inr (Or.inl e)))
theorem stop_both {w : World} {rsv : Value} {p bb g n cap k : Nat} {A a1 : Addr} {D tail : List Int} (hD : D = [48, 48, 48, 56, 78, 65, 75, 10, 80, 65, 67, 75] ++ tail) (ht : ∀ x, tail[0]? = some x → x = 0) (hl : D.length = n) (hkn : k = min n 4096)
    (hpb : p ≠ bb) (hpg : p ≠ g) (hbg : bb ≠ g) (h0p : 0 ≠ p) (h0b : 0 ≠ bb) (hB : BufAt p bb g k A n cap (D.take 4096) 8 w) (he : w.cell? ⟨0, 0, none⟩ = some (.iface 98 (.pointer (some a1)))) :
    Calls Tryd.prog 26 #[rsv, .pointer (some ⟨p, 0, none⟩)] w fun e w' => e = .returned (.tuple #[.bool true, .nilIface]) ∧ Keep w w' (fun j => j = p ∨ j = bb) := by
  obtain ⟨⟨lb, lr, hb⟩, ⟨cs, hrow⟩, hr⟩ := hB
  have hlen : n = 12 + tail.length := by rw [← hl, hD, List.length_append]; rfl
  have hKl : (D.take 4096).length = k := by rw [List.length_take, hl]; omega
  by_cases h3 : 3 ≤ tail.length
  · match tail, h3, ht, hD, hlen with
    | x :: t1 :: t2 :: rest, _, ht, hD, hlen =>
      obtain rfl : x = 0 := ht x rfl
      refine (stop_some (t1 := t1) (t2 := t2) hb hrow (by omega) (by omega) hpb (fun j v hv => ?_) he h0p).mono fun e w' ⟨h1, h2⟩ => ⟨h1, h2.mono (fun _ h => Or.inl h)⟩
      rw [hD]
      match j, hv with
      | 0, hv => exact hv
      | 1, hv => exact hv
      | 2, hv => exact hv
      | 3, hv => exact hv
      | 4, hv => exact hv
      | 5, hv => exact hv
      | 6, hv => exact hv
  · obtain rfl : k = n := by omega
    exact stop_end (k8 := k - 8) hb hrow hKl (by omega) (by omega) hr he hpb hpg hbg h0p h0b
set_option maxHeartbeats 8000000 in
set_option maxRecDepth 100000 in
theorem zzReadAcks_calls {w : World} {n cap : Nat} {A a1 : Addr} {D tail : List Int} (hD : D = [48, 48, 48, 56, 78, 65, 75, 10, 80, 65, 67, 75] ++ tail) (ht : ∀ x, tail[0]? = some x → x = 0) (hl : D.length = n)
    (hsrc : ∀ (j : Nat) (v : Value), (iv D)[j]? = some v → w.cell? (A.add j) = some v) (hn : n ≤ cap) (hnl : n ≤ 140737488355328) (he : w.cell? ⟨0, 0, none⟩ = some (.iface 98 (.pointer (some a1)))) :
    Calls Tryd.prog 9 #[.slice (some A) n cap, .bool false] w fun e w' => e = .returned (.tuple #[.slice none 0 0, .nilIface]) ∧ Below w.heap.size w w' := by
  have hlen : n = 12 + tail.length := by rw [← hl, hD, List.length_append]; rfl
  obtain ⟨W2, hW2⟩ : ∃ W2, W2 = (w.alloc (.cells #[.slice none 0 0] 47)).alloc (.cells #[.slice (some A) n cap, .int .i64 0, .int .i64 (-1)] 60) := ⟨_, rfl⟩
  have hB2 : Below w.heap.size w W2 := by rw [hW2]; exact below_alloc (below_alloc (Below.refl _ _) _) _
  have hrs : W2.heap[w.heap.size]? = some (.cells #[.slice none 0 0] 47 (0, 0)) := by rw [hW2]; exact alloc_old (heap_alloc_new w _) _
  have hrd : Rdr W2 (w.heap.size + 1) A n cap 0 (-1) := by rw [hW2]; exact heap_new2 w _ _
  have hsz : W2.heap.size = w.heap.size + 1 + 1 := by rw [hW2]; show ((w.heap.push _).push _).size = _; simp
  have h0w : 0 < w.heap.size := World.block_lt_of_cell? w _ he
  have hAw : A.block < w.heap.size := by
    have := World.block_lt_of_cell? w _ (hsrc 0 (.int .u8 48) (by rw [hD]; rfl))
    rwa [add_block] at this
  have HBuf := Aside0.mk (newBuf_calls (w.heap.size + 1) W2)
  have HD : Aside0 (∀ w3 (Z : Array Value), Bio w3 W2.heap.size (W2.heap.size + 1) (w.heap.size + 1) 0 0 .nilIface (-1) (-1) → Z.size = 4096 → w3.heap[W2.heap.size + 1]? = some (.cells Z 5 (0, 0)) → Below W2.heap.size W2 w3 → Calls Tryd.prog 17 #[.pointer (some ⟨w.heap.size, 0, none⟩), .pointer (some ⟨W2.heap.size, 0, none⟩), .bool false] w3 fun e w' => e = .returned .nilIface ∧ Below w.heap.size w w' ∧ w'.heap[w.heap.size]? = some (.cells #[.slice none 0 0] 47 (0, 0))) := ⟨fun w3 Z hb hZ hZb hB3 => by
    have k3 : Keep W2 w3 (fun _ => False) := Keep.of_below hB3 _
    have hB03 : Below w.heap.size w w3 := hB2.trans (hB3.mono hB2.size)
    have k03 : Keep w w3 (fun _ => False) := Keep.of_below hB03 _
    refine (decode_nak (rsv := .pointer (some ⟨w.heap.size, 0, none⟩)) (w := w3) (k := min n 4096) (K := D.take 4096) (K' := (80 :: 65 :: 67 :: 75 :: tail).take 4088) hb ((k3.block (w.heap.size + 1) (lt_of_block hrd) (fun h => h)).trans hrd) hZb hZ (fun j v hv => k03.cell (hsrc j v ?_) (fun h => h)) (by rw [List.length_take, hl, Nat.min_comm]) rfl ?_ hn hnl (by omega) (by omega) (by omega) (by omega) (by omega) (by omega) (k03.cell he (fun h => h)) (by omega) (by omega) (by omega) (fun W hBW heW => stop_both hD ht hl rfl (by omega) (by omega) (by omega) (by omega) (by omega) hBW heW)).mono fun e w' ⟨h1, h2⟩ => ⟨h1, ?_, ?_⟩
    · have hlt := (List.getElem?_eq_some_iff.1 hv).1
      rw [iv_length, List.length_take] at hlt
      unfold iv at hv ⊢
      rw [List.getElem?_map, List.getElem?_take_of_lt (by omega)] at hv
      rw [List.getElem?_map]
      exact hv
    · rw [hD]; rfl
    · exact below_keep hB03 h2 (fun j hj => by rcases hj with rfl | rfl | rfl <;> omega)
    · exact (h2.block w.heap.size (by have := k03.size; have := lt_of_block hb; omega) (fun h => by rcases h with h | h | h <;> omega)).trans ((k3.block _ (lt_of_block hrs) (fun h => h)).trans hrs)⟩
  have HW2 := Aside0.mk hW2
  have HSz := Aside0.mk hsz
  clear hD ht hl hsrc hn hnl he hlen hB2 hrs hrd hsz h0w hAw hW2
  go_enter Tryd.func9, Tryd.ntmps9
  go_wp2_with (first
    | (go_at_call 13; refine (newReader_calls _ _ _ _).mono ?_; rintro e w1 ⟨rfl, rfl⟩)
    | (go_at_call 18; rw [← HW2.out]; refine HBuf.out.mono ?_; rintro e w3 ⟨rfl, hb3, ⟨Z, hZ, hZb⟩, hB3⟩; have HD3 := Aside0.mk (HD.out w3 Z hb3 hZ hZb hB3); clear hb3 hZ hZb hB3)
    | (go_at_call 17; refine HD3.out.mono ?_; rintro e w4 ⟨rfl, hB4, hrs4⟩; have HB4 := Aside0.mk hB4; have c0 : w4.cell? ⟨w.heap.size, 0, none⟩ = some (.slice none 0 0) := cell_of hrs4 0 rfl; clear hB4 hrs4))
  go_ret2
  exact ⟨rfl, HB4.out⟩
set_option maxHeartbeats 4000000 in
set_option maxRecDepth 100000 in
theorem textsOf_nil (w : World) : Calls Tryd.prog 10 #[.slice none 0 0] w fun e w' => e = .returned (.slice none 0 0) ∧ w' = w := by
  go_enter Tryd.func10, Tryd.ntmps10
  go_wp2_with fail
  go_loopg [3, 5, 8] 1 (fun kq v3 v5 v8 w' => v3 = .slice none 0 0 ∧ v8 = .int .i64 0 ∧ w' = w)
  case atStart => exact ⟨rfl, rfl, rfl⟩
  case round =>
    obtain ⟨rfl, rfl, hww⟩ := hrel
    subst hww
    go_wp2_with fail
    go_ret
    exact ⟨rfl, rfl⟩
theorem C_cells {w : World} {A : Option Addr} {n : Nat} {xs : List Int} (h : Kd.C (Kd.int .u8) w A n xs) (hn : 0 < n) : ∃ a, A = some a ∧ ∀ (j : Nat) (v : Value), (iv xs)[j]? = some v → w.cell? (a.add j) = some v := by
  obtain ⟨hl, _, hp⟩ := h
  obtain ⟨a, e, hc⟩ := hp hn
  refine ⟨a, e, fun j v hv => ?_⟩
  unfold iv at hv
  rw [List.getElem?_map] at hv
  obtain ⟨x, hx, rfl⟩ := Option.map_eq_some_iff.1 hv
  obtain ⟨c, hlen, hK, hcell⟩ := hc j x hx
  obtain rfl : c = [.int .u8 x] := hK
  have := hcell 0 _ rfl
  rwa [show j * (Kd.int .u8).sz + 0 = j from by show j * 1 + 0 = j; omega] at this
set_option maxHeartbeats 8000000 in
set_option maxRecDepth 100000 in
theorem readAcks_calls {w : World} {n c : Nat} {A : Option Addr} {a1 : Addr} {D tail : List Int} (hD : D = [48, 48, 48, 56, 78, 65, 75, 10, 80, 65, 67, 75] ++ tail) (ht : ∀ x, tail[0]? = some x → x = 0) (hl : D.length = n)
    (hC : Kd.C (Kd.int .u8) w A n D) (hnl : n ≤ 1000100) (he : w.cell? ⟨0, 0, none⟩ = some (.iface 98 (.pointer (some a1)))) :
    Calls Tryd.prog 6 #[.slice A n c, .bool false] w fun e w' => e = .returned (.tuple #[.slice none 0 0, .bool true]) ∧ Below w.heap.size w w' := by
  have hlen : n = 12 + tail.length := by rw [← hl, hD, List.length_append]; rfl
  have HO1 := Aside0.mk (empty_R (base := w.heap.size) w (Nat.le_refl _))
  have HB1 : Aside0 (Below w.heap.size w (w.alloc (.cells #[] 5))) := ⟨below_alloc (Below.refl _ _) _⟩
  have HC1 := Aside0.mk (Kd.C_below hC HB1.out)
  have HF1 : Aside0 (∀ k, (w.alloc (.cells #[] 5)).heap.size ≤ k → w.heap.size ≤ k) := ⟨fun k hk => Nat.le_trans HB1.out.size hk⟩
  have HL := Aside0.mk (⟨hl, hnl⟩ : D.length = n ∧ n ≤ 1000100)
  have HZ : Aside0 (∀ (w1 : World) (A1 : Option Addr) (c1 : Nat), Below w.heap.size w w1 → Kd.C (Kd.int .u8) w1 A1 n D → n ≤ c1 → Calls Tryd.prog 9 #[.slice A1 n c1, .bool false] w1 fun e w' => e = .returned (.tuple #[.slice none 0 0, .nilIface]) ∧ Below w1.heap.size w1 w') := ⟨fun w1 A1 c1 hB h1 hc => by
    obtain ⟨a, rfl, hcell⟩ := C_cells h1 (by omega)
    exact zzReadAcks_calls hD ht hl hcell hc (by omega) ((hB.cell (World.block_lt_of_cell? w _ he)).trans he)⟩
  clear hD ht hl hC hnl he hlen
  go_enter Tryd.func6, Tryd.ntmps6
  go_wp2_with (at_builtin; refine Aside0.out ?_)
  refine Aside0.mk ?_
  refine Kd.R_append_rows (Kd.int .u8) (w0 := w) w.heap.size rfl (.tmp 9) (.tmp 10) 22 5 (.int .u8 0) 1 rfl Tryd.underlying22 info5 rfl (by decide) (by omega) (.slice (some ⟨w.heap.size, 0, none⟩) 0 0) [] D _ _ _ (fun k => w.heap.size ≤ k) (fun _ => False) rfl rfl ?aO ?aR (fun _ _ h => h) (fun _ h => h.elim) ?aF ?aB ?aS ?aL ?_
  case aR => exact HC1.out
  case aO => exact HO1.out
  case aF => exact HF1.out
  case aB => exact HB1.out
  case aS => exact HB1.out.size
  case aL => have := HL.out.2; simp; omega
  rintro v1 w1 hr hb - -
  have HR1 := Aside0.mk hr
  have HBb1 := Aside0.mk hb
  clear hr hb
  obtain ⟨sa, ca, hv1⟩ := Kd.R_slice HR1.out
  rw [List.nil_append, HL.out.1] at hv1
  subst hv1
  have HC2 := Aside0.mk (HZ.out w1 sa ca HBb1.out (by have := (Kd.R_reads' HR1.out).2.2; rwa [List.nil_append, HL.out.1] at this) (by exact (Kd.R_reads' HR1.out).2.1))
  clear HO1 HB1 HC1 HF1
  go_wp2_with (first
    | (go_at_call 9; refine HC2.out.mono ?_; rintro e w2 ⟨rfl, hb2⟩; have HB2 := Aside0.mk hb2; clear hb2)
    | (go_at_call 10; refine (textsOf_nil _).mono ?_; rintro e w3 ⟨rfl, rfl⟩))
  go_ret2
  exact ⟨rfl, HBb1.out.trans (HB2.out.mono HBb1.out.size)⟩
end Go.Proofs.YtomdhahnfejfpaaDoor.Proto
