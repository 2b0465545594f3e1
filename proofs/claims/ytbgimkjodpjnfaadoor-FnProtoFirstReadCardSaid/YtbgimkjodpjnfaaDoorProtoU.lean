/- The law FnProtoFirstRead: it returns true. -/
import Derived.Test.YtbgimkjodpjnfaaDoorProtoT
namespace Go.Proofs.YtbgimkjodpjnfaaDoor.Proto
open Go.RowKit Go.Proofs.YtbgimkjodpjnfaaDoorW.PrintWords Go.Proofs.YtbgimkjodpjnfaaDoorW.PrintLast Go.Proofs.YtbgimkjodpjnfaaDoorW.PrintMore Go.Proofs.YtbgimkjodpjnfaaDoor.PFnProtoFirstRead

theorem ints_parts {w : World} {base : Nat} {ok : Nat → Prop} {v : Value} {l : List Int} (h : (Kd.int .u8).R 5 w base ok v l) (hl : 0 < l.length) : ∃ ad c, v = .slice (some ad) l.length c ∧ l.length ≤ c ∧ ∀ j x, l[j]? = some x → w.cell? (ad.add j) = some (.int .u8 x) := by
  obtain ⟨A, c, rfl, hlc, hC⟩ := Kd.R_reads h
  obtain ⟨ad, cs, rfl, -, -, -⟩ := Kd.C_get hC 0 0 (by omega) (by omega)
  refine ⟨ad, c, rfl, hlc, fun j x hj => ?_⟩
  obtain ⟨hj1, hj2⟩ := List.getElem?_eq_some_iff.1 hj
  obtain ⟨ad', cs', e, -, hK, hcc⟩ := Kd.C_get hC 0 j (by omega) (by omega)
  cases e
  have := hcc 0 _ (by rw [hK]; rfl)
  rw [show (Kd.int .u8).sz = 1 from rfl, Nat.mul_one, Nat.add_zero, Int.toNat_natCast, List.getD_eq_getElem?_getD, hj] at this
  exact this
theorem text_at {w : World} {base : Nat} {ok : Nat → Prop} {v : Value} {ys : List UInt8} (h : (Kd.int .u8).R 5 w base ok v (hex4 (ys.length + 4) ++ nums ys)) (hp : 0 < ys.length) (hf : ys.length ≤ 1000) (hn : ys.take 4 ≠ errBytes) :
    ∃ ad c, v = .slice (some ad) (4 + ys.length) c ∧ TextAt w ad (4 + ys.length) c ys := by
  have hlen : (hex4 (ys.length + 4) ++ nums ys).length = 4 + ys.length := by simp [hex4, nums]; omega
  obtain ⟨ad, c, e, hlc, hcell⟩ := ints_parts h (by omega)
  rw [hlen] at e hlc
  refine ⟨ad, c, e, rfl, hlc, fun j v hj => ?_, fun j v hj => ?_, hp, hf, hn⟩
  · rw [List.getElem?_map] at hj
    obtain ⟨x, hx, rfl⟩ := Option.map_eq_some_iff.1 hj
    have hx' : (hex4 (ys.length + 4))[j]? = some x := hx
    exact hcell j x (by rw [List.getElem?_append_left (List.getElem?_eq_some_iff.1 hx').1]; exact hx')
  · unfold vals at hj
    rw [List.getElem?_map] at hj
    obtain ⟨x, hx, rfl⟩ := Option.map_eq_some_iff.1 hj
    refine hcell (4 + j) x.toNat ?_
    rw [List.getElem?_append_right (by simp [hex4])]
    simp only [hex4, List.length_cons, List.length_nil, nums, List.getElem?_map]
    rw [show 4 + j - (0 + 1 + 1 + 1 + 1) = j by omega, hx]
    rfl
theorem same_texts (e : List ByteArray) (h9 : e.length ≤ 1000) : Ev (fun k => spec_SameTexts.f k e e) true := by
  have key : ∀ d i, i + d = e.length → Ev (fun k => spec_SameTexts.l0 k e e (e.length : Int) (i : Int)) true := by
    intro d
    induction d with
    | zero =>
      intro i hi
      obtain rfl : i = e.length := by omega
      exact Ev.step (f := fun _ => some true) (fun k => by rw [spec_SameTexts.l0, if_neg (by omega)]) (Ev.now _)
    | succ d ih =>
      intro i hi
      exact Ev.step (fun k => by rw [spec_SameTexts.l0, if_pos (by omega), if_pos (by omega), if_pos (by omega), if_pos (by omega), if_pos rfl, wrap_succ (by omega)]) (ih (i + 1) (by omega))
  exact Ev.congr (fun k => by unfold spec_SameTexts.f; rw [if_pos rfl]; rfl) (key e.length 0 (by omega))

set_option maxHeartbeats 8000000 in
set_option maxRecDepth 100000 in
theorem law_calls (command path host : ByteArray) (A : Option Addr) (c : Nat) (extra : List ByteArray) (w : World) {a1 a2 : Addr} (hr : Kd.C Kd.string w A extra.length extra) (hc : extra.length ≤ c) (hE : Errs w a1 a2) :
    Calls Tryd.prog 4 #[.string command, .string path, .string host, .slice A extra.length c] w fun e w' => e = .returned (.bool true) ∧ Below w.heap.size w w' := by
  have HR := Aside0.mk hr
  have HC := Aside0.mk hc
  have HE := Aside0.mk hE
  clear hr hc hE
  obtain ⟨r1, e1, p1⟩ := fits16 extra
  obtain ⟨k1, g1⟩ := e1.rounds
  have H1 := Aside0.mk (laws_zzFits16.calls k1 A c extra r1 w HR.out HC.out g1)
  have HW : Aside0 (∀ w', Below w.heap.size w w' → Calls Tryd.prog 14 #[] w' fun e w2 => e = .returned (.bool true) ∧ Below w.heap.size w w2) := ⟨fun w' hb => (pktWorks_calls (HE.out.below hb)).mono fun e w2 h => ⟨h.1, hb.trans (h.2.mono hb.size)⟩⟩
  clear e1 g1
  by_cases s1 : 2147483647 < command.size
  · have d1 : decide (2147483647 < command.size) = true := by simpa using s1
    go_enter Tryd.func4, Tryd.ntmps4
    go_wp2_with fail
    go_ret
    exact ⟨rfl, Below.refl _ _⟩
  have d1 : decide (2147483647 < command.size) = false := by simpa using s1
  by_cases s2 : 2147483647 < path.size
  · have d2 : decide (2147483647 < path.size) = true := by simpa using s2
    go_enter Tryd.func4, Tryd.ntmps4
    go_wp2_with fail
    go_ret
    exact ⟨rfl, Below.refl _ _⟩
  have d2 : decide (2147483647 < path.size) = false := by simpa using s2
  by_cases s3 : 2147483647 < host.size
  · have d3 : decide (2147483647 < host.size) = true := by simpa using s3
    go_enter Tryd.func4, Tryd.ntmps4
    go_wp2_with fail
    go_ret
    exact ⟨rfl, Below.refl _ _⟩
  have d3 : decide (2147483647 < host.size) = false := by simpa using s3
  cases r1 with
  | false =>
    clear p1
    go_enter Tryd.func4, Tryd.ntmps4
    go_wp2_with (go_at_call 12; refine H1.out.mono ?_; rintro e w1 ⟨rfl, hd1⟩; have HB1 := Aside0.mk (Drawn0.below hd1); clear hd1)
    go_ret
    exact ⟨rfl, HB1.out⟩
  | true =>
    obtain ⟨hl, hx⟩ := p1 rfl
    clear p1
    obtain ⟨r2, e2, p2⟩ := protoGood command path host extra (by omega) (by omega) (by omega) hl hx
    obtain ⟨k2, g2⟩ := e2.rounds
    have H2 : Aside0 (∀ w', Below w.heap.size w w' → Calls Tryd.prog 13 #[.string command, .string path, .string host, .slice A extra.length c] w' fun e w2 => e = .returned (.bool r2) ∧ Below w.heap.size w w2) := ⟨fun w' hb => (laws_protoGood.calls k2 command path host A c extra r2 w' (Kd.C_below HR.out hb) HC.out g2).mono fun e w2 h => ⟨h.1, hb.trans ((Drawn0.below h.2).mono hb.size)⟩⟩
    clear e2 g2 hl hx
    cases r2 with
    | false =>
      clear p2
      go_enter Tryd.func4, Tryd.ntmps4
      go_wp2_with (first
        | (go_at_call 12; refine H1.out.mono ?_; rintro e w1 ⟨rfl, hd1⟩; have HB1 := Aside0.mk (Drawn0.below hd1); clear hd1)
        | (go_at_call 13; refine (H2.out _ HB1.out).mono ?_; rintro e w2 ⟨rfl, hb2⟩; have HB2 := Aside0.mk hb2; clear hb2)
        | (go_at_call 14; refine (HW.out _ HB2.out).mono ?_; rintro e w3 ⟨rfl, hb3⟩; have HB3 := Aside0.mk hb3; clear hb3))
      go_ret
      exact ⟨rfl, HB3.out⟩
    | true =>
      obtain ⟨ic, ip, ih, i9, ix⟩ := p2 rfl
      clear p2
      have hxs : ∀ x ∈ extra, IsW x := fun x hx => by obtain ⟨i, hi, rfl⟩ := List.getElem_of_mem hx; exact ix i hi
      by_cases herr : command.toList = [69, 82, 82]
      · have q1 : (command.toList == [69, 82, 82]) = true := by rw [herr]; rfl
        clear herr ic ip ih i9 ix hxs
        go_enter Tryd.func4, Tryd.ntmps4
        go_wp2_with (first
          | (go_at_call 12; refine H1.out.mono ?_; rintro e w1 ⟨rfl, hd1⟩; have HB1 := Aside0.mk (Drawn0.below hd1); clear hd1)
          | (go_at_call 13; refine (H2.out _ HB1.out).mono ?_; rintro e w2 ⟨rfl, hb2⟩; have HB2 := Aside0.mk hb2; clear hb2)
          | (go_at_call 14; refine (HW.out _ HB2.out).mono ?_; rintro e w3 ⟨rfl, hb3⟩; have HB3 := Aside0.mk hb3; clear hb3))
        go_ret
        exact ⟨rfl, HB3.out⟩
      · have q1 : (command.toList == [69, 82, 82]) = false := by simpa using herr
        have hT := protoT_len command path host extra ic ip ih hxs i9
        have hho : host.size ≤ 60 := by
          rcases ih with h | h
          · have : host.size = 0 := by rw [← L_size, show L host = [] by rw [← h, ByteArray.toList_eq]]; rfl
            omega
          · exact h.2.1
        have HTx : Aside0 (∀ w', Below w.heap.size w w' → Calls Tryd.prog 16 #[.string command, .string path, .string host, .slice A extra.length c] w' fun e w2 => ∃ ad c3, e = .returned (.slice (some ad) (4 + (L (protoT command path host extra)).length) c3) ∧ TextAt w2 ad (4 + (L (protoT command path host extra)).length) c3 (L (protoT command path host extra)) ∧ Below w.heap.size w w2) := ⟨fun w' hb => by
          refine (protoText_calls command path host A c extra (Kd.C_below HR.out hb) ic.2.1 ip.2.1 hho i9 (fun x hx => (hxs x hx).2.1) (by have := hT.2; show (L (protoT command path host extra)).length + 4 < 1024; omega) hT.1).mono ?_
          rintro e w2 ⟨v, rfl, hr2, hb2⟩
          obtain ⟨ad, c3, rfl, ht⟩ := text_at hr2 hT.1 (by have := hT.2; show (L (protoT command path host extra)).length ≤ 1000; omega) (protoT_noErr command path host extra ic herr)
          exact ⟨ad, c3, rfl, ht, hb.trans (hb2.mono hb.size)⟩⟩
        have HRd : Aside0 (∀ w' ad n c3, TextAt w' ad n c3 (L (protoT command path host extra)) → Below w.heap.size w w' → Calls Tryd.prog 15 #[.slice (some ad) n c3] w' fun e w2 => ∃ A4 c4, e = .returned (.tuple #[.string command, .string path, .string host, .slice A4 extra.length c4, .bool true]) ∧ Kd.C Kd.string w2 A4 extra.length extra ∧ extra.length ≤ c4 ∧ Below w.heap.size w w2) := ⟨fun w' ad n c3 ht hb => by
          refine (readProto_calls ht (says command path host extra ic ip ih hxs i9 (by have := hT.2; omega)) (HE.out.below hb) (by have := parts2_len host extra; rw [List.length_map]; omega)).mono ?_
          rintro e w2 ⟨v, rfl, hr2, hb2⟩
          rw [full_parts2 host extra hxs] at hr2
          obtain ⟨A4, c4, rfl, hl4, hC4⟩ := Kd.R_reads hr2
          exact ⟨A4, c4, rfl, hC4, hl4, hb.trans (hb2.mono hb.size)⟩⟩
        obtain ⟨k5, g5⟩ := (same_texts extra (by omega)).rounds
        have HSm : Aside0 (∀ w' A4 c4, Kd.C Kd.string w' A4 extra.length extra → extra.length ≤ c4 → Below w.heap.size w w' → Calls Tryd.prog 17 #[.slice A4 extra.length c4, .slice A extra.length c] w' fun e w2 => e = .returned (.bool true) ∧ Below w.heap.size w w2) := ⟨fun w' A4 c4 h4 hl4 hb => (spec_SameTexts.calls k5 A4 c4 extra A c extra true w' h4 hl4 (Kd.C_below HR.out hb) HC.out g5).mono fun e w2 h => ⟨h.1, hb.trans ((Drawn0.below h.2).mono hb.size)⟩⟩
        clear herr ic ip ih i9 ix hxs hT hho g5
        go_enter Tryd.func4, Tryd.ntmps4
        go_wp2_with (first
          | (go_at_call 12; refine H1.out.mono ?_; rintro e w1 ⟨rfl, hd1⟩; have HB1 := Aside0.mk (Drawn0.below hd1); clear hd1)
          | (go_at_call 13; refine (H2.out _ HB1.out).mono ?_; rintro e w2 ⟨rfl, hb2⟩; have HB2 := Aside0.mk hb2; clear hb2)
          | (go_at_call 16; refine (HTx.out _ HB2.out).mono ?_; rintro e w3 ⟨ad3, c3, rfl, ht3, hb3⟩; have HT3 := Aside0.mk ht3; have HB3 := Aside0.mk hb3; clear ht3 hb3)
          | (go_at_call 15; refine (HRd.out _ _ _ _ HT3.out HB3.out).mono ?_; rintro e w4 ⟨A4, c4, rfl, hC4, hl4, hb4⟩; have HC4 := Aside0.mk hC4; have HL4 := Aside0.mk hl4; have HB4 := Aside0.mk hb4; clear hC4 hl4 hb4)
          | (go_at_call 17; refine (HSm.out _ _ _ HC4.out HL4.out HB4.out).mono ?_; rintro e w5 ⟨rfl, hb5⟩; have HB5 := Aside0.mk hb5; clear hb5)
          | (go_at_call 14; refine (HW.out _ HB5.out).mono ?_; rintro e w6 ⟨rfl, hb6⟩; have HB6 := Aside0.mk hb6; clear hb6))
        go_ret
        exact ⟨rfl, HB6.out⟩
end Go.Proofs.YtbgimkjodpjnfaaDoor.Proto
