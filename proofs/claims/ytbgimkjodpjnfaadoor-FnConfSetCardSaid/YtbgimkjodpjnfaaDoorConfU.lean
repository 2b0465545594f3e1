/- The law FnConfSet: it returns true. -/
import Derived.Test.YtbgimkjodpjnfaaDoorConfT
namespace Go.Proofs.YtbgimkjodpjnfaaDoor.Conf
open Go.RowKit Go.Proofs.YtbgimkjodpjnfaaDoorW.PrintWords Go.Proofs.YtbgimkjodpjnfaaDoorW.PrintLast Go.Proofs.YtbgimkjodpjnfaaDoorW.PrintMore Go.Proofs.YtbgimkjodpjnfaaDoor.Sep Go.Proofs.YtbgimkjodpjnfaaDoor.PFnConfSet

theorem tight_of {l : List S41} (hf : Fit l) (hs : SecsOk l) : Tight l := by
  refine ⟨by have := hf.1; omega, fun s h => ?_⟩
  obtain ⟨i, hi, rfl⟩ := List.getElem_of_mem h
  obtain ⟨h1, h2, _, h4⟩ := hs i hi
  obtain ⟨_, f1, f2, f3⟩ := hf.2 _ h
  refine ⟨h1, ⟨by have := f1.1; omega, h2⟩, by omega, fun x hx => ?_⟩
  obtain ⟨j, hj, rfl⟩ := List.getElem_of_mem hx
  exact ⟨by have := (f3 _ hx).2.1; omega, (h4 j hj).1⟩
theorem fit_opt {l : List S41} {section_ sub : ByteArray} {os : List S45} (hf : Fit l) (ho : OptP l section_ sub os) : os.length ≤ 2147483647 := by
  rcases ho.2.2 with rfl | ⟨s, hs, rfl⟩ | ⟨s, hs, y, hy, rfl⟩
  · simp
  · exact (hf.2 s hs).2.1.1
  · exact ((hf.2 s hs).2.2.2 y hy).2.1

theorem good_sizes {l : List S41} (h : Good l) : Sizes l := ⟨h.1, fun s hs => ⟨(h.2 s hs).2.1.1, goodSec_f2 (h.2 s hs), fun x hx => ((h.2 s hs).2.2.2 x hx).1⟩⟩
theorem one_reads (w : World) (a : ByteArray) : Kd.C Kd.string (w.alloc (.cells #[.string a] 9)) (some ⟨w.heap.size, 0, none⟩) 1 [a] := by
  refine ⟨rfl, by decide, fun _ => ⟨_, rfl, fun j p hj => ?_⟩⟩
  have hj0 : j = 0 := by
    have := (List.getElem?_eq_some_iff.1 hj).1
    simpa using this
  subst hj0
  have : a = p := by simpa using hj
  subst this
  refine ⟨[.string a], rfl, rfl, fun i u hu => ?_⟩
  rw [Nat.zero_mul, Nat.zero_add, add_plain]
  exact cell_of (heap_alloc_new w (.cells #[.string a] 9)) i (by simpa using hu)
set_option maxHeartbeats 4000000 in
set_option maxRecDepth 100000 in
theorem law_calls (A : Option Addr) (c : Nat) (l : List S41) (a1 a2 a3 a4 : ByteArray) (w : World) (hr : Kd.C k41 w A l.length l) (hc : l.length ≤ c) :
    Calls Tryd.prog 3 #[.slice A l.length c, .string a1, .string a2, .string a3, .string a4] w fun e w' => e = .returned (.bool true) ∧ Below w.heap.size w w' := by
  have HR := Aside0.mk hr
  have HC := Aside0.mk hc
  clear hr hc
  obtain ⟨r1, e1, p1⟩ := fits1 l
  obtain ⟨k1, h1⟩ := e1.rounds
  have H1 := Aside0.mk (laws_zzFits1.calls k1 A c l r1 w HR.out HC.out h1)
  clear e1 h1
  cases r1 with
  | false =>
    clear p1
    go_enter Tryd.func3, Tryd.ntmps3
    go_wp2_with (go_at_call 5; refine H1.out.mono ?_; rintro e w1 ⟨rfl, hb1⟩; have HB1 := Aside0.mk hb1; clear hb1)
    go_ret
    exact ⟨rfl, HB1.out⟩
  | true =>
    have HF := Aside0.mk (p1 rfl)
    clear p1
    by_cases s1 : 2147483647 < a1.size
    · have d1 : decide (2147483647 < a1.size) = true := by simpa using s1
      go_enter Tryd.func3, Tryd.ntmps3
      go_wp2_with (go_at_call 5; refine H1.out.mono ?_; rintro e w1 ⟨rfl, hb1⟩; have HB1 := Aside0.mk hb1; clear hb1)
      go_ret
      exact ⟨rfl, HB1.out⟩
    have d1 : decide (2147483647 < a1.size) = false := by simpa using s1
    by_cases s2 : 2147483647 < a2.size
    · have d2 : decide (2147483647 < a2.size) = true := by simpa using s2
      go_enter Tryd.func3, Tryd.ntmps3
      go_wp2_with (go_at_call 5; refine H1.out.mono ?_; rintro e w1 ⟨rfl, hb1⟩; have HB1 := Aside0.mk hb1; clear hb1)
      go_ret
      exact ⟨rfl, HB1.out⟩
    have d2 : decide (2147483647 < a2.size) = false := by simpa using s2
    by_cases s3 : 2147483647 < a3.size
    · have d3 : decide (2147483647 < a3.size) = true := by simpa using s3
      go_enter Tryd.func3, Tryd.ntmps3
      go_wp2_with (go_at_call 5; refine H1.out.mono ?_; rintro e w1 ⟨rfl, hb1⟩; have HB1 := Aside0.mk hb1; clear hb1)
      go_ret
      exact ⟨rfl, HB1.out⟩
    have d3 : decide (2147483647 < a3.size) = false := by simpa using s3
    by_cases s4 : 2147483647 < a4.size
    · have d4 : decide (2147483647 < a4.size) = true := by simpa using s4
      go_enter Tryd.func3, Tryd.ntmps3
      go_wp2_with (go_at_call 5; refine H1.out.mono ?_; rintro e w1 ⟨rfl, hb1⟩; have HB1 := Aside0.mk hb1; clear hb1)
      go_ret
      exact ⟨rfl, HB1.out⟩
    have d4 : decide (2147483647 < a4.size) = false := by simpa using s4
    have S1 : Aside0 (a1.size ≤ 2147483647 ∧ a2.size ≤ 2147483647 ∧ a3.size ≤ 2147483647 ∧ a4.size ≤ 2147483647) := ⟨by omega, by omega, by omega, by omega⟩
    obtain ⟨r6, e6, p6⟩ := cfAre l HF.out a1 a2 a3 a4 S1.out.1 S1.out.2.1 S1.out.2.2.1 S1.out.2.2.2
    obtain ⟨k6, h6⟩ := e6.rounds
    have H6 := Aside0.mk (fun w' hr => laws_cfAre.calls k6 A c l a1 a2 a3 a4 r6 w' hr HC.out h6)
    clear e6 h6
    cases r6 with
    | false =>
      clear p6
      go_enter Tryd.func3, Tryd.ntmps3
      go_wp2_with (first
        | (go_at_call 5; refine H1.out.mono ?_; rintro e w1 ⟨rfl, hb1⟩; have HB1 := Aside0.mk hb1; clear hb1)
        | (go_at_call 6; refine (H6.out _ (Kd.C_below HR.out HB1.out)).mono ?_; rintro e w2 ⟨rfl, hb2⟩; have HB2 := Aside0.mk hb2; clear hb2))
      go_ret
      exact ⟨rfl, HB1.out.trans (HB2.out.mono HB1.out.size)⟩
    | true =>
      have P6 := Aside0.mk (p6 rfl)
      clear p6
      go_enter Tryd.func3, Tryd.ntmps3
      go_wp2_with (first
        | (go_at_call 5; refine H1.out.mono ?_; rintro e w1 ⟨rfl, hb1⟩; have HB1 := Aside0.mk hb1; clear hb1)
        | (go_at_call 6; refine (H6.out _ (Kd.C_below HR.out HB1.out)).mono ?_; rintro e w2 ⟨rfl, hb2⟩; have HB2 := Aside0.mk (HB1.out.trans (hb2.mono HB1.out.size)); clear hb2)
        | (go_at_call 9; refine (optionsOfSpec_calls A c l a1 a2 w2 (Kd.C_below HR.out HB2.out) HF.out.1 (fun s hs => (HF.out.2 s hs).2.2.1)).mono ?_; rintro e w3 ⟨A3, c3, os, rfl, hop, hC3, hle3, hb3⟩; have HOP := Aside0.mk hop; have HC3 := Aside0.mk hC3; have HL3 := Aside0.mk hle3; have HOS := Aside0.mk (fit_opt HF.out hop); have HB3 := Aside0.mk (HB2.out.trans (hb3.mono HB2.out.size)); have HB23 := Aside0.mk hb3; clear hop hC3 hle3 hb3)
        | (go_at_call 8; refine (spec_Values.calls (values os a3 HOS.out).rounds.choose A3 c3 os a3 (allVals os a3) w3 (Kd.C_below HC3.out HB23.out) HL3.out (values os a3 HOS.out).rounds.choose_spec).mono ?_; rintro e w4 ⟨v4, rfl, hr4, hb4⟩; obtain ⟨A4, c4, rfl, hle4, hC4⟩ := Kd.R_reads hr4; have HC4 := Aside0.mk hC4; have HL4 := Aside0.mk hle4; have HB4 := Aside0.mk (HB3.out.trans (hb4.mono HB3.out.size)); clear hr4 hC4 hle4 hb4))
      obtain ⟨r7, e7, p7⟩ := twice (allVals os a3) (by have := HOS.out; have := allVals_le os a3; omega)
      obtain ⟨k7, h7⟩ := e7.rounds
      refine (spec_Twice.calls k7 A4 c4 (allVals os a3) r7 w4 HC4.out HL4.out h7).mono ?_
      rintro e w5 ⟨rfl, hd5⟩
      have HB5 : Aside0 (Below w.heap.size w w5) := ⟨HB4.out.trans ((Drawn0.below hd5).mono HB4.out.size)⟩
      clear e7 h7 hd5
      cases r7 with
      | true =>
        clear p7
        go_wp2
        go_ret
        exact ⟨rfl, HB5.out⟩
      | false =>
        have HON := Aside0.mk (show Once (allVals os a3) from p7 rfl)
        clear p7
        go_wp2_with (first
          | (go_at_call 11; refine (setOption_calls A c l a1 a2 a3 a4 w5 (Kd.C_below HR.out HB5.out) (tight_of HF.out P6.out.1) P6.out.2.1 P6.out.2.2).mono ?_; rintro e w6 ⟨v6, l6, rfl, hs6, hr6, hb6⟩; obtain ⟨A6, c6, rfl, hle6, hC6⟩ := Kd.R_reads hr6; have HS6 := Aside0.mk hs6; have HC6 := Aside0.mk hC6; have HB6 := Aside0.mk (HB5.out.trans (hb6.mono HB5.out.size)); clear hs6 hr6 hb6 hle6 hC6))
        have HG6 := Aside0.mk (setP_good HS6.out (tight_of HF.out P6.out.1) P6.out.2.1 P6.out.2.2)
        have HZ6 := Aside0.mk (good_sizes HG6.out)
        have HV : Aside0 (Kd.C Kd.string (w6.alloc (.cells #[.string a4] 9)) (some ⟨w6.heap.size, 0, none⟩) 1 [a4]) := ⟨one_reads w6 a4⟩
        refine (cfGets_calls A6 c6 l6 a1 a2 a3 a4 _ (Kd.C_alloc HC6.out _) HG6.out HZ6.out P6.out.2.1 P6.out.2.2 _ 1 HV.out (Nat.le_refl _) (fun one all hg => set_get P6.out.1 HOP.out HON.out HS6.out hg)).mono ?_
        rintro e w7 ⟨rfl, hb7⟩
        have HB7 : Aside0 (Below w.heap.size w w7) := ⟨(below_alloc HB6.out _).trans (hb7.mono (by have := HB6.out.size; simp only [size_alloc]; omega))⟩
        clear hb7
        go_wp2
        go_ret
        exact ⟨rfl, HB7.out⟩
end Go.Proofs.YtbgimkjodpjnfaaDoor.Conf
