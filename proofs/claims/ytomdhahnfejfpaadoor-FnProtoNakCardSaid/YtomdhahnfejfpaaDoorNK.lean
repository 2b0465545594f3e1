/- The law FnProtoNak, walked: it returns true. -/
import Derived.Test.YtomdhahnfejfpaaDoorNJ
namespace Go.Proofs.YtomdhahnfejfpaaDoor.Proto
open Go.RowKit Go.Proofs.YtomdhahnfejfpaaDoorW.PrintWords Go.Proofs.YtomdhahnfejfpaaDoorW.PrintLast Go.Proofs.YtomdhahnfejfpaaDoorW.PrintMore Go.Proofs.YtomdhahnfejfpaaDoor.PFnProtoNak

theorem one_row {w : World} {g : Nat} {A0 : Option Addr} {c0 : Nat} {x : List Int} (hg : w.heap[g]? = some (.cells #[.slice A0 x.length c0] 22 (0, 0))) (h0 : Kd.C (Kd.int .u8) w A0 x.length x) (hc0 : x.length ≤ c0) : Kd.C (Kd.slice 5 (Kd.int .u8)) w (some ⟨g, 0, none⟩) 1 [x] := by
  refine ⟨rfl, by omega, fun _ => ⟨_, rfl, fun j p hp => ?_⟩⟩
  have hj : j = 0 := by
    have : j < [x].length := (List.getElem?_eq_some_iff.1 hp).1
    simpa using this
  subst hj
  obtain rfl : x = p := by simpa using hp
  refine ⟨[.slice A0 x.length c0], rfl, ⟨A0, c0, rfl, hc0, h0⟩, fun i u hu => ?_⟩
  obtain rfl : i = 0 := by
    have : i < [Value.slice A0 x.length c0].length := (List.getElem?_eq_some_iff.1 hu).1
    simpa using this
  rw [add_off]
  exact cell_of hg 0 (by simpa using hu)
theorem small_one (x : List Int) : laws_deltaSmall.f 3 [x] = some (decide (x.length ≤ 1000000)) := by
  have e0 : rd_L1 [x] 0 = x := rfl
  have w0 : wrap64 (0 + 1) = 1 := by unfold wrap64; omega
  show laws_deltaSmall.l0 (2 + 1) [x] 1 0 = _
  rw [laws_deltaSmall.l0, if_pos (by omega), if_pos (by omega), if_pos (by simp), e0]
  by_cases hx : x.length ≤ 1000000
  · rw [if_neg (by omega), w0]
    show laws_deltaSmall.l0 (1 + 1) [x] 1 1 = _
    rw [laws_deltaSmall.l0, if_neg (by omega), decide_eq_true hx]
  · rw [if_pos (by omega), decide_eq_false hx]
set_option maxHeartbeats 8000000 in
set_option maxRecDepth 100000 in
theorem nakLaw_calls {w : World} {A : Option Addr} {c : Nat} {l : List Int} {a1 a2 : Addr} (hC : Kd.C (Kd.int .u8) w A l.length l) (hc : l.length ≤ c) (hx : ∀ x ∈ l, 0 ≤ x ∧ x < 256) (hE : Errs w a1 a2) :
    Calls Tryd.prog 3 #[.slice A l.length c] w fun e w' => e = .returned (.bool true) ∧ Below w.heap.size w w' := by
  have HI := Aside0.mk (⟨hC, hc, hx, hE⟩ : Kd.C (Kd.int .u8) w A l.length l ∧ l.length ≤ c ∧ (∀ x ∈ l, 0 ≤ x ∧ x < 256) ∧ Errs w a1 a2)
  obtain ⟨n, hn⟩ : ∃ n, n = l.length := ⟨_, rfl⟩
  have HN := Aside0.mk hn
  rw [← hn]
  have hn63 : n ≤ 9223372036854775807 := by rw [hn]; exact hC.2.1
  obtain ⟨w1, hw1⟩ : ∃ w1, w1 = w.alloc (.cells #[.slice A n c] 22) := ⟨_, rfl⟩
  have HB1 : Aside0 (Below w.heap.size w w1) := ⟨by rw [hw1]; exact below_alloc (Below.refl _ _) _⟩
  have HW1 := Aside0.mk hw1
  have HSm := Aside0.mk (laws_deltaSmall.calls 3 (some ⟨w.heap.size, 0, none⟩) 1 [l] (decide (l.length ≤ 1000000)) w1 (one_row (by rw [hw1, hn]; exact heap_alloc_new w _) (Kd.C_below hC HB1.out) hc) (Nat.le_refl _) (small_one l))
  rw [← hn, show ([l] : List (List Int)).length = 1 from rfl] at HSm
  clear hC hc hx hE hn hw1
  by_cases hbig : 2147483647 < n
  · go_enter Tryd.func3, Tryd.ntmps3
    go_wp2
    all_goals (go_ret; exact ⟨rfl, Below.refl _ _⟩)
  · have hn2 : n ≤ 2147483647 := by omega
    have g1 : decide (2147483647 < (n : Int)) = false := by simp; omega
    clear hbig hn63
    by_cases hf : n ≤ 1000000
    · rw [decide_eq_true hf] at HSm
      by_cases hbad : ∃ x, l[0]? = some x ∧ x ≠ 0
      · obtain ⟨x, hx0, hx1⟩ := hbad
        have hpos : 0 < n := by rw [HN.out]; exact (List.getElem?_eq_some_iff.1 hx0).1
        obtain ⟨ad, hA, hcell⟩ := C_cells HI.out.1 (by rw [← HN.out]; exact hpos)
        subst hA
        have hc0 : w.cell? (ad.add 0) = some (.int .u8 x) := hcell 0 _ (by unfold iv; rw [List.getElem?_map, hx0]; rfl)
        rw [Addr.add_zero'] at hc0
        have HC0 := Aside0.mk hc0
        have z1 : decide (0 < n) = true := decide_eq_true hpos
        have z2 : (x != 0) = true := by rw [bne_iff_ne]; exact hx1
        have z3 : (x == 0) = false := by rw [beq_eq_false_iff_ne]; exact hx1
        clear hx0 hx1 hcell hc0
        go_enter Tryd.func3, Tryd.ntmps3
        go_wp2_with (go_at_call 4; rw [← HW1.out]; refine HSm.out.mono ?_; rintro e w2 ⟨rfl, hd⟩; have HB2 : Aside0 (Below w.heap.size w w2) := ⟨by obtain ⟨m, rfl⟩ := hd.out; exact pw_below_drewN HB1.out m⟩; have cx : w2.cell? ad = some (.int .u8 x) := by { obtain ⟨m, rfl⟩ := hd.out; exact (HB1.out.cell (World.block_lt_of_cell? w _ HC0.out)).trans HC0.out }; clear hd; refine Aside0.out ?_)
        have HC := Aside0.mk (pktWorks_calls (HI.out.2.2.2.below HB2.out))
        refine Aside0.mk ?_
        go_wp2_with (go_at_call 5; refine HC.out.mono ?_; rintro e w3 ⟨rfl, hb⟩; have HB3 : Aside0 (Below w.heap.size w w3) := ⟨HB2.out.trans (hb.mono HB2.out.size)⟩; clear hb)
        go_ret
        exact ⟨rfl, HB3.out⟩
      · have HT : Aside0 (∀ x, l[0]? = some x → x = 0) := ⟨fun x hx0 => Classical.byContradiction fun h => hbad ⟨x, hx0, h⟩⟩
        clear hbad
        by_cases h0 : n = 0
        · have z1 : decide (0 < n) = false := decide_eq_false (by omega)
          clear h0
          go_enter Tryd.func3, Tryd.ntmps3
          go_wp2_with (go_at_call 4; rw [← HW1.out]; refine HSm.out.mono ?_; rintro e w2 ⟨rfl, hd⟩; have HB2 : Aside0 (Below w.heap.size w w2) := ⟨by obtain ⟨m, rfl⟩ := hd.out; exact pw_below_drewN HB1.out m⟩; clear hd; refine Aside0.out ?_)
          obtain ⟨W, hW⟩ : ∃ W, W = w2.alloc (.cells #[.int .u8 78, .int .u8 65, .int .u8 75, .int .u8 10] 5 (4, 5)) := ⟨_, rfl⟩
          have HBW : Aside0 (Below w.heap.size w W) := ⟨by rw [hW]; exact below_alloc HB2.out _⟩
          have HLn := Aside0.mk (line_calls (w := W) (some ⟨w2.heap.size, 0, none⟩) 4 nakLine (by have := bytes_C (w := W) (p := w2.heap.size) (t := 5) (fr := (4, 5)) (l := nakLine) (by rw [hW]; exact heap_alloc_new w2 _) 4 (by decide) (by decide); exact this) (by decide) (by decide))
          have HW := Aside0.mk hW
          have kc := fun (w : World) (C : Array Value) (n c : Nat) => Lib.run_convert_bytes_const (P := Tryd.prog) w 22 5 C n c Tryd.underlying22 Tryd.underlying5
          clear hW
          refine Aside0.mk ?_
          go_wp2_with (go_at_call 7; rw [← HW.out]; refine HLn.out.mono ?_; rintro e w3 ⟨v3, rfl, hr3, hb3⟩; have HR3 := Aside0.mk hr3; have HB3 := Aside0.mk hb3; clear hr3 hb3; refine Aside0.out ?_)
          have HR3' : Aside0 (Kd.R (Kd.int .u8) 5 w3 W.heap.size (fun _ => True) v3 [48, 48, 48, 56, 78, 65, 75, 10]) := ⟨HR3.out⟩
          obtain ⟨A3, c3, hv3⟩ := Kd.R_slice HR3'.out
          subst hv3
          clear HR3 HLn kc
          refine Aside0.mk ?_
          go_wp2_with (at_builtin; refine Aside0.out ?_)
          refine Aside0.mk ?_
          refine print_append_str (w0 := W) W.heap.size rfl (.tmp 27) _ 22 9 5 rfl Tryd.underlying22 Tryd.underlying9 info5 _ [48, 48, 48, 56, 78, 65, 75, 10] ⟨#[80, 65, 67, 75]⟩ rfl rfl ?aO ?aB ?aS ?aL ?_
          case aO => exact Kd.own_of_R HR3'.out
          case aB => exact HB3.out
          case aS => exact HB3.out.size
          case aL => decide
          rintro v4 w4 ho4 hb4 -
          have HR4 : Aside0 (Kd.R (Kd.int .u8) 5 w4 W.heap.size (fun _ => True) v4 [48, 48, 48, 56, 78, 65, 75, 10, 80, 65, 67, 75]) := ⟨Kd.R_of_own ho4 (fun _ _ => trivial)⟩
          have HB4 := Aside0.mk hb4
          clear ho4 hb4
          have h4 := Kd.C_below HI.out.1 (HBW.out.trans (HB4.out.mono HBW.out.size))
          rw [← HN.out] at h4
          have HC4 := Aside0.mk h4
          clear h4
          go_wp2_with (at_builtin; refine Aside0.out ?_)
          refine Aside0.mk ?_
          refine Kd.R_append_rows (Kd.int .u8) (w0 := W) W.heap.size rfl (.tmp 28) (.tmp 29) 22 5 (.int .u8 0) 1 rfl Tryd.underlying22 info5 rfl (by decide) (by omega) _ [48, 48, 48, 56, 78, 65, 75, 10, 80, 65, 67, 75] l _ _ _ (fun _ => True) (fun _ => False) rfl rfl ?aO ?aR (fun _ _ h => h) (fun _ h => h.elim) (fun _ _ => trivial) ?aB ?aS ?aL ?_
          case aR => exact HC4.out
          case aO => exact HR4.out
          case aB => exact HB4.out
          case aS => exact HB4.out.size
          case aL => simp; omega
          rintro v5 w5 hr5 hb5 - -
          have HR5 := Aside0.mk hr5
          have HB5 : Aside0 (Below w.heap.size w w5) := ⟨HBW.out.trans (hb5.mono HBW.out.size)⟩
          clear hr5 hb5
          obtain ⟨A5, c5, hv5⟩ := Kd.R_slice HR5.out
          have h12 : ([48, 48, 48, 56, 78, 65, 75, 10, 80, 65, 67, 75] ++ l).length = 12 + n := by rw [List.length_append, ← HN.out]; rfl
          rw [h12] at hv5
          subst hv5
          have HC5 := Aside0.mk (readAcks_calls (w := w5) (n := 12 + n) (c := c5) (A := A5) (a1 := a1) (tail := l) rfl HT.out h12 (by have := (Kd.R_reads' HR5.out).2.2; rwa [h12] at this) (by omega) (HI.out.2.2.2.below HB5.out).e1)
          clear h12 HC4 HR4 HR3'
          go_wp2_with (go_at_call 6; refine HC5.out.mono ?_; rintro e w6 ⟨rfl, hb6⟩; have HB6 : Aside0 (Below w.heap.size w w6) := ⟨HB5.out.trans (hb6.mono HB5.out.size)⟩; clear hb6; refine Aside0.out ?_)
          have HC6 := Aside0.mk (pktWorks_calls (HI.out.2.2.2.below HB6.out))
          refine Aside0.mk ?_
          go_wp2_with (go_at_call 5; refine HC6.out.mono ?_; rintro e w7 ⟨rfl, hb⟩; have HB7 : Aside0 (Below w.heap.size w w7) := ⟨HB6.out.trans (hb.mono HB6.out.size)⟩; clear hb)
          go_ret
          exact ⟨rfl, HB7.out⟩
        · have hpos : 0 < n := by omega
          obtain ⟨ad, hA, hcell⟩ := C_cells HI.out.1 (by rw [← HN.out]; exact hpos)
          subst hA
          have hl0 : l[0]? = some 0 := by
            have hlt : 0 < l.length := by rw [← HN.out]; exact hpos
            rw [List.getElem?_eq_getElem hlt, HT.out _ (List.getElem?_eq_getElem hlt)]
          have hc0 : w.cell? (ad.add 0) = some (.int .u8 0) := hcell 0 _ (by unfold iv; rw [List.getElem?_map, hl0]; rfl)
          rw [Addr.add_zero'] at hc0
          have HC0 := Aside0.mk hc0
          have z1 : decide (0 < n) = true := decide_eq_true hpos
          clear hl0 hcell hc0 h0
          go_enter Tryd.func3, Tryd.ntmps3
          go_wp2_with (go_at_call 4; rw [← HW1.out]; refine HSm.out.mono ?_; rintro e w2 ⟨rfl, hd⟩; have HB2 : Aside0 (Below w.heap.size w w2) := ⟨by obtain ⟨m, rfl⟩ := hd.out; exact pw_below_drewN HB1.out m⟩; have cx : w2.cell? ad = some (.int .u8 0) := by { obtain ⟨m, rfl⟩ := hd.out; exact (HB1.out.cell (World.block_lt_of_cell? w _ HC0.out)).trans HC0.out }; clear hd; refine Aside0.out ?_)
          obtain ⟨W, hW⟩ : ∃ W, W = w2.alloc (.cells #[.int .u8 78, .int .u8 65, .int .u8 75, .int .u8 10] 5 (4, 5)) := ⟨_, rfl⟩
          have HBW : Aside0 (Below w.heap.size w W) := ⟨by rw [hW]; exact below_alloc HB2.out _⟩
          have HLn := Aside0.mk (line_calls (w := W) (some ⟨w2.heap.size, 0, none⟩) 4 nakLine (by have := bytes_C (w := W) (p := w2.heap.size) (t := 5) (fr := (4, 5)) (l := nakLine) (by rw [hW]; exact heap_alloc_new w2 _) 4 (by decide) (by decide); exact this) (by decide) (by decide))
          have HW := Aside0.mk hW
          have kc := fun (w : World) (C : Array Value) (n c : Nat) => Lib.run_convert_bytes_const (P := Tryd.prog) w 22 5 C n c Tryd.underlying22 Tryd.underlying5
          clear hW
          refine Aside0.mk ?_
          go_wp2_with (go_at_call 7; rw [← HW.out]; refine HLn.out.mono ?_; rintro e w3 ⟨v3, rfl, hr3, hb3⟩; have HR3 := Aside0.mk hr3; have HB3 := Aside0.mk hb3; clear hr3 hb3; refine Aside0.out ?_)
          have HR3' : Aside0 (Kd.R (Kd.int .u8) 5 w3 W.heap.size (fun _ => True) v3 [48, 48, 48, 56, 78, 65, 75, 10]) := ⟨HR3.out⟩
          obtain ⟨A3, c3, hv3⟩ := Kd.R_slice HR3'.out
          subst hv3
          clear HR3 HLn kc
          refine Aside0.mk ?_
          go_wp2_with (at_builtin; refine Aside0.out ?_)
          refine Aside0.mk ?_
          refine print_append_str (w0 := W) W.heap.size rfl (.tmp 27) _ 22 9 5 rfl Tryd.underlying22 Tryd.underlying9 info5 _ [48, 48, 48, 56, 78, 65, 75, 10] ⟨#[80, 65, 67, 75]⟩ rfl rfl ?aO ?aB ?aS ?aL ?_
          case aO => exact Kd.own_of_R HR3'.out
          case aB => exact HB3.out
          case aS => exact HB3.out.size
          case aL => decide
          rintro v4 w4 ho4 hb4 -
          have HR4 : Aside0 (Kd.R (Kd.int .u8) 5 w4 W.heap.size (fun _ => True) v4 [48, 48, 48, 56, 78, 65, 75, 10, 80, 65, 67, 75]) := ⟨Kd.R_of_own ho4 (fun _ _ => trivial)⟩
          have HB4 := Aside0.mk hb4
          clear ho4 hb4
          have h4 := Kd.C_below HI.out.1 (HBW.out.trans (HB4.out.mono HBW.out.size))
          rw [← HN.out] at h4
          have HC4 := Aside0.mk h4
          clear h4
          go_wp2_with (at_builtin; refine Aside0.out ?_)
          refine Aside0.mk ?_
          refine Kd.R_append_rows (Kd.int .u8) (w0 := W) W.heap.size rfl (.tmp 28) (.tmp 29) 22 5 (.int .u8 0) 1 rfl Tryd.underlying22 info5 rfl (by decide) (by omega) _ [48, 48, 48, 56, 78, 65, 75, 10, 80, 65, 67, 75] l _ _ _ (fun _ => True) (fun _ => False) rfl rfl ?aO ?aR (fun _ _ h => h) (fun _ h => h.elim) (fun _ _ => trivial) ?aB ?aS ?aL ?_
          case aR => exact HC4.out
          case aO => exact HR4.out
          case aB => exact HB4.out
          case aS => exact HB4.out.size
          case aL => simp; omega
          rintro v5 w5 hr5 hb5 - -
          have HR5 := Aside0.mk hr5
          have HB5 : Aside0 (Below w.heap.size w w5) := ⟨HBW.out.trans (hb5.mono HBW.out.size)⟩
          clear hr5 hb5
          obtain ⟨A5, c5, hv5⟩ := Kd.R_slice HR5.out
          have h12 : ([48, 48, 48, 56, 78, 65, 75, 10, 80, 65, 67, 75] ++ l).length = 12 + n := by rw [List.length_append, ← HN.out]; rfl
          rw [h12] at hv5
          subst hv5
          have HC5 := Aside0.mk (readAcks_calls (w := w5) (n := 12 + n) (c := c5) (A := A5) (a1 := a1) (tail := l) rfl HT.out h12 (by have := (Kd.R_reads' HR5.out).2.2; rwa [h12] at this) (by omega) (HI.out.2.2.2.below HB5.out).e1)
          clear h12 HC4 HR4 HR3'
          go_wp2_with (go_at_call 6; refine HC5.out.mono ?_; rintro e w6 ⟨rfl, hb6⟩; have HB6 : Aside0 (Below w.heap.size w w6) := ⟨HB5.out.trans (hb6.mono HB5.out.size)⟩; clear hb6; refine Aside0.out ?_)
          have HC6 := Aside0.mk (pktWorks_calls (HI.out.2.2.2.below HB6.out))
          refine Aside0.mk ?_
          go_wp2_with (go_at_call 5; refine HC6.out.mono ?_; rintro e w7 ⟨rfl, hb⟩; have HB7 : Aside0 (Below w.heap.size w w7) := ⟨HB6.out.trans (hb.mono HB6.out.size)⟩; clear hb)
          go_ret
          exact ⟨rfl, HB7.out⟩
    · rw [decide_eq_false hf] at HSm
      go_enter Tryd.func3, Tryd.ntmps3
      go_wp2_with (go_at_call 4; rw [← HW1.out]; refine HSm.out.mono ?_; rintro e w2 ⟨rfl, hd⟩; have HB2 : Aside0 (Below w.heap.size w w2) := ⟨by obtain ⟨m, rfl⟩ := hd.out; exact pw_below_drewN HB1.out m⟩; clear hd; refine Aside0.out ?_)
      have HC := Aside0.mk (pktWorks_calls (HI.out.2.2.2.below HB2.out))
      refine Aside0.mk ?_
      go_wp2_with (go_at_call 5; refine HC.out.mono ?_; rintro e w3 ⟨rfl, hb⟩; have HB3 : Aside0 (Below w.heap.size w w3) := ⟨HB2.out.trans (hb.mono HB2.out.size)⟩; clear hb)
      go_ret
      exact ⟨rfl, HB3.out⟩
end Go.Proofs.YtomdhahnfejfpaaDoor.Proto
