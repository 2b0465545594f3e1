/- A match is found: what is found is the same in both texts. -/
import Derived.Test.YtkknoionjppegaaDoorDM
import Derived.Test.YtkknoionjppegaaDoorPFnDeltaDiffReadx1
namespace Go.Proofs.YtkknoionjppegaaDoor.Delta
open Go.RowKit Go.Proofs.YtkknoionjppegaaDoorW.PrintWords Go.Proofs.YtkknoionjppegaaDoorW.PrintLast Go.Proofs.YtkknoionjppegaaDoorW.PrintMore Go.Proofs.YtkknoionjppegaaDoor.PFnDeltaDiffRead

theorem rd_nat (xs : List Int) (i : Nat) (h : i < xs.length) : rd xs (i : Int) = xs[i] := by simp [rd, List.getD_eq_getElem?_getD, h]
theorem wrap_succ {i : Nat} (h : i ≤ 100000000) : wrap64 ((i : Int) + 1) = ((i + 1 : Nat) : Int) := by
  unfold wrap64
  omega
theorem match_tells (src tgt : List Int) (hs : src.length ≤ 10000000) (ht : tgt.length ≤ 10000000) : ∀ (d p o l : Nat), tgt.length - p = d → p ≤ tgt.length → l ≤ p →
    ∃ j k : Nat, packfile_matchLength.l0 k src tgt (p : Int) (o : Int) (l : Int) (src.length : Int) (tgt.length : Int) = some ((l + j : Nat) : Int) ∧ (j = 0 ∨ o + j ≤ src.length) ∧ p + j ≤ tgt.length ∧ (src.drop o).take j = (tgt.drop p).take j := by
  intro d
  induction d with
  | zero =>
    intro p o l hd hp hl
    refine ⟨0, 1, ?_, .inl rfl, by omega, by simp⟩
    rw [packfile_matchLength.l0]
    by_cases h : (o : Int) < (src.length : Int)
    · rw [if_pos h, if_neg (by omega)]; rfl
    · rw [if_neg h]; rfl
  | succ d ih =>
    intro p o l hd hp hl
    by_cases h : o < src.length
    · by_cases he : src[o] = tgt[p]'(by omega)
      · obtain ⟨j, k, h1, h2, h3, h4⟩ := ih (p + 1) (o + 1) (l + 1) (by omega) (by omega) (by omega)
        refine ⟨j + 1, k + 1, ?_, .inr (by rcases h2 with rfl | h2 <;> omega), by omega, ?_⟩
        · rw [packfile_matchLength.l0, if_pos (by omega), if_pos (by omega), if_pos (by omega), if_pos (by omega), if_pos (by omega), if_pos (by omega), rd_nat src o h, rd_nat tgt p (by omega), if_pos he]
          rw [wrap_succ (by omega), wrap_succ (by omega), wrap_succ (by omega), h1, show l + 1 + j = l + (j + 1) by omega]
        · rw [List.drop_eq_getElem_cons h, List.drop_eq_getElem_cons (show p < tgt.length by omega), List.take_succ_cons, List.take_succ_cons, he, h4]
      · refine ⟨0, 1, ?_, .inl rfl, by omega, by simp⟩
        rw [packfile_matchLength.l0, if_pos (by omega), if_pos (by omega), if_pos (by omega), if_pos (by omega), if_pos (by omega), if_pos (by omega), rd_nat src o h, rd_nat tgt p (by omega), if_neg he]
        rfl
    · refine ⟨0, 1, ?_, .inl rfl, by omega, by simp⟩
      rw [packfile_matchLength.l0, if_neg (by omega)]
      rfl
/-- What findMatch may tell. -/
def Found (src tgt : List Int) (i : Nat) (o l : Int) : Prop :=
  l = 0 ∨ (∃ j : Nat, l = j ∧ 0 < j ∧ j < 16 ∧ i + j ≤ tgt.length) ∨ l = -1 ∨ ∃ oo j : Nat, o = oo ∧ l = j ∧ 16 ≤ j ∧ oo + j ≤ src.length ∧ i + j ≤ tgt.length ∧ (src.drop oo).take j = (tgt.drop i).take j
theorem found_of {src tgt : List Int} {i o j : Nat} (h2 : j = 0 ∨ o + j ≤ src.length) (h3 : i + j ≤ tgt.length) (h4 : (src.drop o).take j = (tgt.drop i).take j) : Found src tgt i (o : Int) (j : Int) := by
  rcases Nat.eq_zero_or_pos j with rfl | hj
  · exact .inl rfl
  · rcases Nat.lt_or_ge j 16 with h | h
    · exact .inr (.inl ⟨j, rfl, hj, h, h3⟩)
    · exact .inr (.inr (.inr ⟨o, j, rfl, rfl, h, by omega, h3, h4⟩))
set_option maxHeartbeats 8000000 in
set_option maxRecDepth 100000 in
theorem findMatch_calls (ix i cs ct : Nat) (As At T0 : Addr) (src tgt : List Int) (w : World) (hs : Rd w (some As) src.length src) (hcs : src.length ≤ cs) (ht : Rd w (some At) tgt.length tgt) (hct : tgt.length ≤ ct) (hsl : src.length ≤ 1000000) (htl : tgt.length ≤ 1000000) (hi : i < tgt.length) (hx : ∀ x ∈ tgt, 0 ≤ x ∧ x < 256) (hT : Tab w T0)
    (hI : 16 ≤ src.length → ∃ tb ie sz mk C T IE, IdxAt w ix tb ie sz mk C T IE) :
    Calls Tryd.prog 23 #[.pointer (some ⟨ix, 0, none⟩), .slice (some As) src.length cs, .slice (some At) tgt.length ct, .int .i64 i] w fun e w' => (∃ o l : Int, e = .returned (.tuple #[.int .i64 o, .int .i64 l]) ∧ Found src tgt i o l) ∧ ∃ n, w' = w.drewN n := by
  by_cases h1 : tgt.length < i + 16
  · have HF : Hid (Found src tgt i 0 ((tgt.length : Int) - i)) := Lib.hid (.inr (.inl ⟨tgt.length - i, by omega, by omega, by omega, by omega⟩))
    have b1 : (tgt.length : Int) < (i : Int) + 16 := by omega
    obtain ⟨L, hL⟩ : ∃ L, L = tgt.length := ⟨_, rfl⟩
    rw [← hL] at HF b1 htl hi ⊢
    clear hI hT hx hs ht h1 hL
    go_enter Tryd.func23, Tryd.ntmps23
    go_wp2_with fail
    go_ret2
    exact ⟨⟨0, (L : Int) - i, rfl, HF.out⟩, 0, rfl⟩
  · by_cases h2 : src.length < 16
    · have HF : Hid (Found src tgt i 0 (-1)) := Lib.hid (.inr (.inr (.inl rfl)))
      have b1 : decide ((tgt.length : Int) < (i : Int) + 16) = false := decide_eq_false (by omega)
      have b2 : (src.length : Int) < 16 := by omega
      obtain ⟨L, hL⟩ : ∃ L, L = tgt.length := ⟨_, rfl⟩
      obtain ⟨M, hM⟩ : ∃ M, M = src.length := ⟨_, rfl⟩
      rw [← hL] at b1 htl hi ⊢
      rw [← hM] at b2 ⊢
      clear hI hT hx hs ht h1 hL h2 hM hsl hcs
      go_enter Tryd.func23, Tryd.ntmps23
      go_wp2_with fail
      go_ret2
      exact ⟨⟨0, -1, rfl, HF.out⟩, 0, rfl⟩
    · obtain ⟨tb, ie, sz, mk, C, T, IE, hIx⟩ := hI (by omega)
      have HI := Lib.hid hIx
      have HH := Lib.hid (hash_calls At T0 tgt.length ct i tgt w hT ht (by omega) hct (by omega) hx)
      have HM : ∀ o k : Nat, Hid (∃ j : Nat, Found src tgt i (o : Int) (j : Int) ∧ Calls Tryd.prog 41 #[.slice (some As) src.length cs, .slice (some At) tgt.length ct, .int .i64 i, .int .i64 o] (w.drewN k) fun e w' => e = .returned (.int .i64 j) ∧ Drawn0 (w.drewN k) w') := fun o k => Lib.hid (by
        obtain ⟨j, f, e1, e2, e3, e4⟩ := match_tells src tgt (by omega) (by omega) (tgt.length - i) i o 0 rfl (by omega) (Nat.zero_le _)
        rw [Nat.zero_add] at e1
        exact ⟨j, found_of e2 e3 e4, packfile_matchLength.calls f (some As) cs src (some At) ct tgt i o j (w.drewN k) (hs) hcs (ht) hct e1⟩)
      have HF0 : Hid (Found src tgt i 0 0) := Lib.hid (.inl rfl)
      have b1 : decide ((tgt.length : Int) < (i : Int) + 16) = false := decide_eq_false (by omega)
      have b2 : decide ((src.length : Int) < 16) = false := decide_eq_false (by omega)
      have b3 : ¬ src.length < 16 := h2
      obtain ⟨L, hL⟩ : ∃ L, L = tgt.length := ⟨_, rfl⟩
      obtain ⟨M, hM⟩ : ∃ M, M = src.length := ⟨_, rfl⟩
      rw [← hL] at b1 htl hi HH ⊢
      rw [← hM] at b2 b3 ⊢
      simp only [← hL, ← hM] at HM
      clear hI hT hx hs ht h1 hL h2 hM hsl hcs hct hIx
      go_enter Tryd.func23, Tryd.ntmps23
      go_wp2_with (go_at_call 40; refine HH.out.mono ?_; rintro e w1 ⟨⟨h, rfl, h0, h1⟩, k1, rfl⟩; refine Hid.out ?_)
      obtain ⟨t, ht, htm⟩ := and_mask mk h0 h1 (by have := HI.out.hm; have := HI.out.hs; omega)
      have htl2 : t < sz := by have := HI.out.hm; omega
      have c2 := cell_of HI.out.S 2 (u := .int .i64 mk) rfl
      have c0 := cell_of HI.out.S 0 (u := .slice (some ⟨tb, 0, none⟩) sz sz) rfl
      have c1 := cell_of HI.out.S 1 (u := .slice (some ⟨ie, 0, none⟩) (C + 1) (C + 1)) rfl
      obtain ⟨e1, he1⟩ : ∃ e1, e1 = T.getD t 0 := ⟨_, rfl⟩
      have cc := (HI.out.rt.get t (by rw [HI.out.lt]; exact htl2)).1
      rw [← he1] at cc
      have HE1 : Hid (e1 ≤ C) := Lib.hid (by rw [he1]; exact HI.out.le t)
      clear he1 htm h0 h1
      refine Lib.hid ?_
      by_cases hz : e1 = 0
      · subst hz
        go_wp2_with fail
        go_ret2
        exact ⟨⟨0, 0, rfl, HF0.out⟩, _, rfl⟩
      · have z1 : ((e1 : Int) == 0) = false := by rw [beq_eq_false_iff_ne]; omega
        have z2 : decide (e1 = 0) = false := by simpa using hz
        have hlt : e1 < C + 1 := by have := HE1.out; omega
        have y1 : (e1 : Int) < (C : Int) + 1 := by omega
        have ci := (HI.out.ri.get e1 (by rw [HI.out.li]; exact hlt)).1
        obtain ⟨ov, hov⟩ : ∃ ov, ov = IE.getD e1 0 := ⟨_, rfl⟩
        rw [← hov] at ci
        obtain ⟨j, hF, hM⟩ := (HM ov k1).out
        have HFj := Lib.hid hF
        have HMj := Lib.hid hM
        clear hov hz hF hM HM
        go_wp2_with (go_at_call 41; refine HMj.out.mono ?_; rintro e w2 ⟨rfl, hd⟩; have HD := Lib.hid hd; clear hd)
        go_ret2
        obtain ⟨m2, rfl⟩ := HD.out
        exact ⟨⟨ov, j, rfl, HFj.out⟩, _, World.drewN_drewN _ _ _⟩
end Go.Proofs.YtkknoionjppegaaDoor.Delta
