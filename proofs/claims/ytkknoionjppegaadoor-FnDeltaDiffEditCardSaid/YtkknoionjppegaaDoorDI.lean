/- The blocks of a text are put into chains: the scan. -/
import Derived.Test.YtkknoionjppegaaDoorDG
import Derived.Test.YtkknoionjppegaaDoorDH
import Derived.Tactics2
namespace Go.Proofs.YtkknoionjppegaaDoor.Delta
open Go.RowKit Go.Proofs.YtkknoionjppegaaDoorW.PrintWords Go.Proofs.YtkknoionjppegaaDoorW.PrintLast Go.Proofs.YtkknoionjppegaaDoorW.PrintMore

theorem Tab.keep {w w' : World} {T : Addr} {F : Nat → Prop} (h : Tab w T) (k : Keep w w' F) (h6 : ¬ F 6) (hT : ¬ F T.block) : Tab w' T := by
  obtain ⟨c, h1, h2, h3⟩ := h
  exact ⟨c, k.cell h1 h6, h2, fun i hi => by
    obtain ⟨t, h4, h5⟩ := h3 i hi
    exact ⟨t, k.cell h4 (by rw [add_block]; exact hT), h5⟩⟩
theorem LTab.keep {w w' : World} {F : Nat → Prop} (h : LTab w) (k : Keep w w' F) (h7 : ¬ F 7) : LTab w' := fun i hi => by
  obtain ⟨v, h1, h2⟩ := h i hi
  exact ⟨v, k.cell h1 h7, h2⟩
/-- A row of whole numbers. -/
def IRow (w : World) (g : Nat) (xs : List Nat) : Prop := w.heap[g]? = some (.cells (xs.map fun x : Nat => Value.int .i64 x).toArray 3 (0, 0))
theorem IRow.get {w : World} {g : Nat} {xs : List Nat} (h : IRow w g xs) (i : Nat) (hi : i < xs.length) : w.cell? ⟨g, i, none⟩ = some (.int .i64 (xs.getD i 0 : Nat)) ∧ w.frozen? ⟨g, i, none⟩ = false :=
  ⟨cell_of h i (by simp [hi, List.getD_eq_getElem?_getD]), frozen_of h i⟩
theorem IRow.set {w : World} {g : Nat} {xs : List Nat} (h : IRow w g xs) (i v : Nat) : IRow (w.setCell ⟨g, i, none⟩ (.int .i64 v)) g (xs.set i v) := by
  unfold IRow at h ⊢
  rw [Lib.heap_setCell_same (i := i) h]
  simp [List.map_set]
theorem IRow.other {w : World} {g : Nat} {xs : List Nat} (h : IRow w g xs) {a : Addr} (hb : g ≠ a.block) (v : Value) : IRow (w.setCell a v) g xs := by
  unfold IRow at h ⊢
  rw [Below.heap_setCell _ _ _ _ hb]
  exact h
theorem IRow.keep {w w' : World} {g : Nat} {xs : List Nat} {F : Nat → Prop} (h : IRow w g xs) (k : Keep w w' F) (hg : ¬ F g) : IRow w' g xs := (k.block g (lt_of_block h) hg).trans h

/-- The scanner at sc: its table, its entries, its links. -/
structure Scan (w : World) (sc tb en nx sz m mk cnt : Nat) (T E N : List Nat) : Prop where
  S : w.heap[sc]? = some (.cells #[.slice (some ⟨tb, 0, none⟩) sz sz, .slice (some ⟨en, 0, none⟩) m m, .slice (some ⟨nx, 0, none⟩) m m, .int .i64 mk, .int .i64 cnt] 78 (0, 0))
  rt : IRow w tb T
  re : IRow w en E
  rn : IRow w nx N
  lt : T.length = sz
  le : E.length = m
  ln : N.length = m
  d1 : sc ≠ tb ∧ sc ≠ en ∧ sc ≠ nx
  d2 : tb ≠ en ∧ tb ≠ nx ∧ en ≠ nx
theorem Scan.drewN {w : World} {sc tb en nx sz m mk cnt : Nat} {T E N : List Nat} (h : Scan w sc tb en nx sz m mk cnt T E N) (k : Nat) : Scan (w.drewN k) sc tb en nx sz m mk cnt T E N := ⟨h.S, h.rt, h.re, h.rn, h.lt, h.le, h.ln, h.d1, h.d2⟩
/-- The links lead down, and the table's places are entries. -/
def Good (T N : List Nat) (cnt : Nat) : Prop := (∀ i, T.getD i 0 ≤ cnt) ∧ ∀ e, 0 < e → N.getD e 0 < e
theorem Scan.setCnt {w : World} {sc tb en nx sz m mk cnt : Nat} {T E N : List Nat} (h : Scan w sc tb en nx sz m mk cnt T E N) (c : Nat) : Scan (w.setCell ⟨sc, 4, none⟩ (.int .i64 c)) sc tb en nx sz m mk c T E N :=
  ⟨Lib.heap_setCell_same (i := 4) h.S _, h.rt.other (Ne.symm h.d1.1) _, h.re.other (Ne.symm h.d1.2.1) _, h.rn.other (Ne.symm h.d1.2.2) _, h.lt, h.le, h.ln, h.d1, h.d2⟩
theorem Scan.setE {w : World} {sc tb en nx sz m mk cnt : Nat} {T E N : List Nat} (h : Scan w sc tb en nx sz m mk cnt T E N) (i v : Nat) : Scan (w.setCell ⟨en, i, none⟩ (.int .i64 v)) sc tb en nx sz m mk cnt T (E.set i v) N :=
  ⟨by rw [Below.heap_setCell _ _ _ _ h.d1.2.1]; exact h.S, h.rt.other h.d2.1 _, h.re.set i v, h.rn.other (Ne.symm h.d2.2.2) _, h.lt, by rw [List.length_set]; exact h.le, h.ln, h.d1, h.d2⟩
theorem Scan.setN {w : World} {sc tb en nx sz m mk cnt : Nat} {T E N : List Nat} (h : Scan w sc tb en nx sz m mk cnt T E N) (i v : Nat) : Scan (w.setCell ⟨nx, i, none⟩ (.int .i64 v)) sc tb en nx sz m mk cnt T E (N.set i v) :=
  ⟨by rw [Below.heap_setCell _ _ _ _ h.d1.2.2]; exact h.S, h.rt.other h.d2.2.1 _, h.re.other h.d2.2.2 _, h.rn.set i v, h.lt, h.le, by rw [List.length_set]; exact h.ln, h.d1, h.d2⟩
theorem Scan.setT {w : World} {sc tb en nx sz m mk cnt : Nat} {T E N : List Nat} (h : Scan w sc tb en nx sz m mk cnt T E N) (i v : Nat) : Scan (w.setCell ⟨tb, i, none⟩ (.int .i64 v)) sc tb en nx sz m mk cnt (T.set i v) E N :=
  ⟨by rw [Below.heap_setCell _ _ _ _ h.d1.1]; exact h.S, h.rt.set i v, h.re.other (Ne.symm h.d2.1) _, h.rn.other (Ne.symm h.d2.2.1) _, by rw [List.length_set]; exact h.lt, h.le, h.ln, h.d1, h.d2⟩
theorem getD_set (xs : List Nat) (i v j : Nat) : (xs.set i v).getD j 0 = if i = j ∧ i < xs.length then v else xs.getD j 0 := by
  simp only [List.getD_eq_getElem?_getD, List.getElem?_set]
  by_cases h : i = j
  · subst h
    by_cases h2 : i < xs.length
    · simp [h2]
    · simp [h2]
  · simp [h]
theorem Good.push {T N : List Nat} {cnt : Nat} (h : Good T N cnt) (t hd : Nat) (hh : hd ≤ cnt) : Good (T.set t (cnt + 1)) (N.set (cnt + 1) hd) (cnt + 1) := by
  refine ⟨fun i => ?_, fun e he => ?_⟩
  · rw [getD_set]
    split
    · omega
    · have := h.1 i; omega
  · rw [getD_set]
    split
    · omega
    · exact h.2 e he
theorem wraps62 (n : Int) (h0 : 0 ≤ n) (h1 : n < 2 ^ 62) : IntKind.i64.wrap n = n := by
  rw [IntKind.wrap_i64]
  have e : (2 : Int) ^ 62 = 4611686018427387904 := by decide
  rw [e] at h1
  omega
theorem and_mask {h : Int} (mk : Nat) (h0 : 0 ≤ h) (h1 : h < 2147483648) (hm : mk < 4294967296) : ∃ t : Nat, Go.bits .and .i64 h (mk : Int) = t ∧ t ≤ mk := by
  obtain ⟨a, rfl⟩ := Int.eq_ofNat_of_zero_le h0
  exact ⟨a &&& mk, (bits_nat .i64 62 (by decide) wraps62 a mk (by omega) (by omega)).1, Nat.and_le_right⟩

set_option maxHeartbeats 8000000 in
set_option maxRecDepth 100000 in
theorem scan_calls (A T0 : Addr) (n c wc sc tb en nx sz m mk : Nat) (xs : List Int) (T E N : List Nat) (w : World) (hS : Scan w sc tb en nx sz m mk 0 T E N) (hG : Good T N 0) (hm : m = wc + 1) (hmk : mk + 1 = sz) (hsz : sz ≤ 65536) (hwc : 1 ≤ wc) (hn : 16 * wc ≤ n) (hnc : n ≤ c) (hn2 : n ≤ 10000000)
    (hR : Rd w (some A) n xs) (hx : ∀ x ∈ xs, 0 ≤ x ∧ x < 256) (hT : Tab w T0) (hA : A.block ≠ sc ∧ A.block ≠ tb ∧ A.block ≠ en ∧ A.block ≠ nx) (hT0 : T0.block ≠ sc ∧ T0.block ≠ tb ∧ T0.block ≠ en ∧ T0.block ≠ nx) (h6 : 6 ≠ sc ∧ 6 ≠ tb ∧ 6 ≠ en ∧ 6 ≠ nx) :
    Calls Tryd.prog 47 #[.pointer (some ⟨sc, 0, none⟩), .slice (some A) n c, .int .i64 ((16 * wc : Nat) : Int)] w fun e w' => e = .returned (.tuple #[]) ∧ ∃ cnt T E N, Scan w' sc tb en nx sz m mk cnt T E N ∧ Good T N cnt ∧ cnt ≤ wc ∧ Keep w w' (fun k => k = sc ∨ k = tb ∨ k = en ∨ k = nx) := by
  have HS := Lib.hid hS
  have HG := Lib.hid hG
  have HH : Hid (∀ (W : World) (p : Nat), Keep w W (fun k => k = sc ∨ k = tb ∨ k = en ∨ k = nx) → p + 16 ≤ n → Calls Tryd.prog 40 #[.slice (some A) n c, .int .i64 p] W _) := Lib.hid fun W p hk hp => hash_calls A T0 n c p xs W (hT.keep hk (by rintro (h | h | h | h); exact h6.1 h; exact h6.2.1 h; exact h6.2.2.1 h; exact h6.2.2.2 h) (by rintro (h | h | h | h); exact hT0.1 h; exact hT0.2.1 h; exact hT0.2.2.1 h; exact hT0.2.2.2 h)) (hR.keep hk (fun a ha => by cases ha; rintro (h | h | h | h); exact hA.1 h; exact hA.2.1 h; exact hA.2.2.1 h; exact hA.2.2.2 h)) hp hnc hn2 hx
  have HM := Lib.hid (⟨hm, hmk, hsz, hwc, hn, hn2⟩ : m = wc + 1 ∧ mk + 1 = sz ∧ sz ≤ 65536 ∧ 1 ≤ wc ∧ 16 * wc ≤ n ∧ n ≤ 10000000)
  have hb1 : 16 * wc ≤ 10000000 := by omega
  have e16 : (((16 * wc : Nat) : Int)) - 16 = ((16 * (wc - 1) : Nat) : Int) := by omega
  obtain ⟨tot, htot⟩ : ∃ tot : Nat, tot = 16 * wc := ⟨_, rfl⟩
  rw [← htot] at hb1 e16 ⊢
  have HTo := Lib.hid htot
  clear hS hG hm hmk hsz hwc hn hn2 hR hx hT hA hT0 h6 htot
  go_enter Tryd.func47, Tryd.ntmps47
  go_wp2_with fail
  go_loopg [6, 7] (wc - 1) (fun gq v6 v7 w' => ∃ (last : Int) (p cnt : Nat) (T E N : List Nat), v6 = .int .i64 last ∧ v7 = .int .i64 p ∧ Aside0 (p = 16 * gq) ∧ Aside0 (cnt + gq + 1 ≤ wc) ∧ Aside0 (Scan w' sc tb en nx sz m mk cnt T E N) ∧ Aside0 (Good T N cnt) ∧ Aside0 (Keep w w' (fun k => k = sc ∨ k = tb ∨ k = en ∨ k = nx)))
  case atStart => exact ⟨0, 16 * (wc - 1), 0, T, E, N, rfl, by first | rfl | (congr 1), ⟨rfl⟩, ⟨by have := HM.out; omega⟩, ⟨HS.out⟩, ⟨HG.out⟩, ⟨Keep.refl _ _⟩⟩
  case round =>
    clear e16 HS HG
    obtain ⟨last, p, cnt, T, E, N, rfl, rfl, HP, HC, HSr, HGr, HKr⟩ := hrel
    have HHr := Lib.hid (HH.out wr p HKr.out (by have := HP.out; have := HC.out; have := HM.out; omega))
    have hpb : p ≤ 10000000 := by have := HP.out; have := HC.out; have := HM.out; omega
    go_wp2_with (go_at_call 40; refine HHr.out.mono ?_; rintro e w1 ⟨⟨h, rfl, h0, h1⟩, k1, rfl⟩; refine Hid.out ?_)
    obtain ⟨t, ht, htm⟩ := and_mask mk h0 h1 (by have := HM.out; omega)
    obtain ⟨W, hW⟩ : ∃ W : World, W = wr.drewN k1 := ⟨_, rfl⟩
    have HSW : Hid (Scan W sc tb en nx sz m mk cnt T E N) := Lib.hid (by rw [hW]; exact HSr.out.drewN k1)
    have HKW : Hid (Keep w W (fun k => k = sc ∨ k = tb ∨ k = en ∨ k = nx)) := Lib.hid (by rw [hW]; exact HKr.out.drewN k1)
    rw [← hW]
    have htl : t < sz := by have := HM.out; omega
    obtain ⟨hd, hhd⟩ : ∃ hd, hd = T.getD t 0 := ⟨_, rfl⟩
    have ct : W.cell? ⟨tb, t, none⟩ = some (.int .i64 (hd : Nat)) := by rw [hhd]; exact (HSW.out.rt.get t (by rw [HSW.out.lt]; exact htl)).1
    have HHd : Hid (hd ≤ cnt) := Lib.hid (by rw [hhd]; exact HGr.out.1 t)
    have c0 := cell_of HSW.out.S 0 (u := .slice (some ⟨tb, 0, none⟩) sz sz) rfl
    have c3 := cell_of HSW.out.S 3 (u := .int .i64 mk) rfl
    have hcm : cnt + 1 < m := by have := HM.out; have := HC.out; omega
    have hdm : hd < m := by have := HHd.out; omega
    have hcb : cnt ≤ 10000000 := by have := HM.out; have := HC.out; omega
    clear hW hhd htm h0 h1
    refine Lib.hid ?_
    by_cases hcase : hd ≠ 0 ∧ last = h
    · obtain ⟨hh1, hh2⟩ := hcase
      subst hh2
      have q1 : ((hd : Int) != 0) = true := by simp; omega
      have q2 : (hd != 0) = true := by simp; omega
      have q3 : ¬ hd = 0 := hh1
      have c1 := cell_of HSW.out.S 1 (u := .slice (some ⟨en, 0, none⟩) m m) rfl
      have ce := (HSW.out.re.get hd (by rw [HSW.out.le]; exact hdm)).1
      have fe := (HSW.out.re.get hd (by rw [HSW.out.le]; exact hdm)).2
      clear hh1
      cases gk with
      | zero =>
        have hp0 : p = 0 := by have := HP.out; omega
        subst hp0
        go_wp2_with fail
        go_end0
        exact ⟨rfl, cnt, T, _, N, HSW.out.setE hd 0, HGr.out, by have := HC.out; omega, HKW.out.setCell (a := ⟨en, hd, none⟩) (.inl (.inr (.inr (.inl rfl)))) _⟩
      | succ gg =>
        have hp0 : 16 ≤ p := by have := HP.out; omega
        go_wp2_with fail
        go_roundg gg
        case measure => omega
        case rel => exact ⟨_, p - 16, cnt, T, _, N, rfl, by (congr 1; omega), ⟨by have := HP.out; omega⟩, ⟨by have := HC.out; omega⟩, ⟨HSW.out.setE hd p⟩, HGr, ⟨HKW.out.setCell (a := ⟨en, hd, none⟩) (.inl (.inr (.inr (.inl rfl)))) _⟩⟩
    · have hor : hd = 0 ∨ (hd ≠ 0 ∧ last ≠ h) := by
        by_cases hz : hd = 0
        · exact .inl hz
        · exact .inr ⟨hz, fun e => hcase ⟨hz, e⟩⟩
      have c4 := cell_of HSW.out.S 4 (u := .int .i64 cnt) rfl
      have f4 := frozen_of HSW.out.S 4
      clear hcase
      rcases hor with hz | ⟨hz, hl⟩
      · have q1 : ((hd : Int) != 0) = false := by simp; omega
        have q2 : (hd != 0) = false := by simp; omega
        clear hz
        go_upto_region 8 with fail
        obtain ⟨W1, hW1⟩ : ∃ W1, W1 = W.setCell ⟨sc, 4, none⟩ (.int .i64 ((cnt : Int) + 1)) := ⟨_, rfl⟩
        have HS1 : Hid (Scan W1 sc tb en nx sz m mk (cnt + 1) T E N) := Lib.hid (by rw [hW1]; exact HSW.out.setCnt (cnt + 1))
        have HK1 : Hid (Keep w W1 (fun k => k = sc ∨ k = tb ∨ k = en ∨ k = nx)) := Lib.hid (by rw [hW1]; exact HKW.out.setCell (a := ⟨sc, 4, none⟩) (.inl (.inl rfl)) _)
        rw [← hW1]
        clear hW1 c0 c3 c4 f4 ct
        have d4 : W1.cell? ⟨sc, 4, none⟩ = some (.int .i64 ((cnt : Int) + 1)) := cell_of HS1.out.S 4 rfl
        have d1 := cell_of HS1.out.S 1 (u := .slice (some ⟨en, 0, none⟩) m m) rfl
        have t1 : ((cnt : Int) + 1).toNat = cnt + 1 := by omega
        have de := (HS1.out.re.get (cnt + 1) (by rw [HS1.out.le]; exact hcm)).1
        have fe := (HS1.out.re.get (cnt + 1) (by rw [HS1.out.le]; exact hcm)).2
        have b1 : (cnt : Int) + 1 < (m : Int) := by omega
        have b0 : (0 : Int) ≤ (cnt : Int) + 1 := by omega
        go_upto_region 10 with fail
        obtain ⟨W2, hW2⟩ : ∃ W2, W2 = W1.setCell ⟨en, cnt + 1, none⟩ (.int .i64 (p : Nat)) := ⟨_, rfl⟩
        have HS2 : Hid (Scan W2 sc tb en nx sz m mk (cnt + 1) T (E.set (cnt + 1) p) N) := Lib.hid (by rw [hW2]; exact HS1.out.setE (cnt + 1) p)
        have HK2 : Hid (Keep w W2 (fun k => k = sc ∨ k = tb ∨ k = en ∨ k = nx)) := Lib.hid (by rw [hW2]; exact HK1.out.setCell (a := ⟨en, cnt + 1, none⟩) (.inl (.inr (.inr (.inl rfl)))) _)
        rw [← hW2]
        clear hW2 d4 d1 de fe
        have g2 := cell_of HS2.out.S 2 (u := .slice (some ⟨nx, 0, none⟩) m m) rfl
        have ge := (HS2.out.rn.get (cnt + 1) (by rw [HS2.out.ln]; exact hcm)).1
        have gf := (HS2.out.rn.get (cnt + 1) (by rw [HS2.out.ln]; exact hcm)).2
        go_upto_region 11 with fail
        obtain ⟨W3, hW3⟩ : ∃ W3, W3 = W2.setCell ⟨nx, cnt + 1, none⟩ (.int .i64 (hd : Nat)) := ⟨_, rfl⟩
        have HS3 : Hid (Scan W3 sc tb en nx sz m mk (cnt + 1) T (E.set (cnt + 1) p) (N.set (cnt + 1) hd)) := Lib.hid (by rw [hW3]; exact HS2.out.setN (cnt + 1) hd)
        have HK3 : Hid (Keep w W3 (fun k => k = sc ∨ k = tb ∨ k = en ∨ k = nx)) := Lib.hid (by rw [hW3]; exact HK2.out.setCell (a := ⟨nx, cnt + 1, none⟩) (.inl (.inr (.inr (.inr rfl)))) _)
        rw [← hW3]
        clear hW3 g2 ge gf
        have i0 := cell_of HS3.out.S 0 (u := .slice (some ⟨tb, 0, none⟩) sz sz) rfl
        have ie := (HS3.out.rt.get t (by rw [HS3.out.lt]; exact htl)).1
        have jf := (HS3.out.rt.get t (by rw [HS3.out.lt]; exact htl)).2
        go_upto_region 12 with fail
        obtain ⟨W4, hW4⟩ : ∃ W4, W4 = W3.setCell ⟨tb, t, none⟩ (.int .i64 ((cnt : Int) + 1)) := ⟨_, rfl⟩
        have HS4 : Hid (Scan W4 sc tb en nx sz m mk (cnt + 1) (T.set t (cnt + 1)) (E.set (cnt + 1) p) (N.set (cnt + 1) hd)) := Lib.hid (by rw [hW4]; exact HS3.out.setT t (cnt + 1))
        have HK4 : Hid (Keep w W4 (fun k => k = sc ∨ k = tb ∨ k = en ∨ k = nx)) := Lib.hid (by rw [hW4]; exact HK3.out.setCell (a := ⟨tb, t, none⟩) (.inl (.inr (.inl rfl))) _)
        rw [← hW4]
        clear hW4 i0 ie jf
        have HG4 : Hid (Good (T.set t (cnt + 1)) (N.set (cnt + 1) hd) (cnt + 1)) := Lib.hid (HGr.out.push t hd HHd.out)
        cases gk with
        | zero =>
          have hp0 : p = 0 := by have := HP.out; omega
          subst hp0
          go_wp2_with fail
          go_end0
          exact ⟨rfl, cnt + 1, _, _, _, HS4.out, HG4.out, by have := HC.out; omega, HK4.out⟩
        | succ gg =>
          have hp0 : 16 ≤ p := by have := HP.out; omega
          go_wp2_with fail
          go_roundg gg
          case measure => omega
          case rel => exact ⟨_, p - 16, cnt + 1, _, _, _, rfl, by (congr 1; omega), ⟨by have := HP.out; omega⟩, ⟨by have := HC.out; omega⟩, ⟨HS4.out⟩, ⟨HG4.out⟩, ⟨HK4.out⟩⟩
      · have q1 : ((hd : Int) != 0) = true := by simp; omega
        have q2 : (hd != 0) = true := by simp; omega
        have q3 : (last == h) = false := by simpa using hl
        have q4 : ¬ hd = 0 := hz
        clear hz hl
        go_upto_region 8 with fail
        obtain ⟨W1, hW1⟩ : ∃ W1, W1 = W.setCell ⟨sc, 4, none⟩ (.int .i64 ((cnt : Int) + 1)) := ⟨_, rfl⟩
        have HS1 : Hid (Scan W1 sc tb en nx sz m mk (cnt + 1) T E N) := Lib.hid (by rw [hW1]; exact HSW.out.setCnt (cnt + 1))
        have HK1 : Hid (Keep w W1 (fun k => k = sc ∨ k = tb ∨ k = en ∨ k = nx)) := Lib.hid (by rw [hW1]; exact HKW.out.setCell (a := ⟨sc, 4, none⟩) (.inl (.inl rfl)) _)
        rw [← hW1]
        clear hW1 c0 c3 c4 f4 ct
        have d4 : W1.cell? ⟨sc, 4, none⟩ = some (.int .i64 ((cnt : Int) + 1)) := cell_of HS1.out.S 4 rfl
        have d1 := cell_of HS1.out.S 1 (u := .slice (some ⟨en, 0, none⟩) m m) rfl
        have t1 : ((cnt : Int) + 1).toNat = cnt + 1 := by omega
        have de := (HS1.out.re.get (cnt + 1) (by rw [HS1.out.le]; exact hcm)).1
        have fe := (HS1.out.re.get (cnt + 1) (by rw [HS1.out.le]; exact hcm)).2
        have b1 : (cnt : Int) + 1 < (m : Int) := by omega
        have b0 : (0 : Int) ≤ (cnt : Int) + 1 := by omega
        go_upto_region 10 with fail
        obtain ⟨W2, hW2⟩ : ∃ W2, W2 = W1.setCell ⟨en, cnt + 1, none⟩ (.int .i64 (p : Nat)) := ⟨_, rfl⟩
        have HS2 : Hid (Scan W2 sc tb en nx sz m mk (cnt + 1) T (E.set (cnt + 1) p) N) := Lib.hid (by rw [hW2]; exact HS1.out.setE (cnt + 1) p)
        have HK2 : Hid (Keep w W2 (fun k => k = sc ∨ k = tb ∨ k = en ∨ k = nx)) := Lib.hid (by rw [hW2]; exact HK1.out.setCell (a := ⟨en, cnt + 1, none⟩) (.inl (.inr (.inr (.inl rfl)))) _)
        rw [← hW2]
        clear hW2 d4 d1 de fe
        have g2 := cell_of HS2.out.S 2 (u := .slice (some ⟨nx, 0, none⟩) m m) rfl
        have ge := (HS2.out.rn.get (cnt + 1) (by rw [HS2.out.ln]; exact hcm)).1
        have gf := (HS2.out.rn.get (cnt + 1) (by rw [HS2.out.ln]; exact hcm)).2
        go_upto_region 11 with fail
        obtain ⟨W3, hW3⟩ : ∃ W3, W3 = W2.setCell ⟨nx, cnt + 1, none⟩ (.int .i64 (hd : Nat)) := ⟨_, rfl⟩
        have HS3 : Hid (Scan W3 sc tb en nx sz m mk (cnt + 1) T (E.set (cnt + 1) p) (N.set (cnt + 1) hd)) := Lib.hid (by rw [hW3]; exact HS2.out.setN (cnt + 1) hd)
        have HK3 : Hid (Keep w W3 (fun k => k = sc ∨ k = tb ∨ k = en ∨ k = nx)) := Lib.hid (by rw [hW3]; exact HK2.out.setCell (a := ⟨nx, cnt + 1, none⟩) (.inl (.inr (.inr (.inr rfl)))) _)
        rw [← hW3]
        clear hW3 g2 ge gf
        have i0 := cell_of HS3.out.S 0 (u := .slice (some ⟨tb, 0, none⟩) sz sz) rfl
        have ie := (HS3.out.rt.get t (by rw [HS3.out.lt]; exact htl)).1
        have jf := (HS3.out.rt.get t (by rw [HS3.out.lt]; exact htl)).2
        go_upto_region 12 with fail
        obtain ⟨W4, hW4⟩ : ∃ W4, W4 = W3.setCell ⟨tb, t, none⟩ (.int .i64 ((cnt : Int) + 1)) := ⟨_, rfl⟩
        have HS4 : Hid (Scan W4 sc tb en nx sz m mk (cnt + 1) (T.set t (cnt + 1)) (E.set (cnt + 1) p) (N.set (cnt + 1) hd)) := Lib.hid (by rw [hW4]; exact HS3.out.setT t (cnt + 1))
        have HK4 : Hid (Keep w W4 (fun k => k = sc ∨ k = tb ∨ k = en ∨ k = nx)) := Lib.hid (by rw [hW4]; exact HK3.out.setCell (a := ⟨tb, t, none⟩) (.inl (.inr (.inl rfl))) _)
        rw [← hW4]
        clear hW4 i0 ie jf
        have HG4 : Hid (Good (T.set t (cnt + 1)) (N.set (cnt + 1) hd) (cnt + 1)) := Lib.hid (HGr.out.push t hd HHd.out)
        cases gk with
        | zero =>
          have hp0 : p = 0 := by have := HP.out; omega
          subst hp0
          go_wp2_with fail
          go_end0
          exact ⟨rfl, cnt + 1, _, _, _, HS4.out, HG4.out, by have := HC.out; omega, HK4.out⟩
        | succ gg =>
          have hp0 : 16 ≤ p := by have := HP.out; omega
          go_wp2_with fail
          go_roundg gg
          case measure => omega
          case rel => exact ⟨_, p - 16, cnt + 1, _, _, _, rfl, by (congr 1; omega), ⟨by have := HP.out; omega⟩, ⟨by have := HC.out; omega⟩, ⟨HS4.out⟩, ⟨HG4.out⟩, ⟨HK4.out⟩⟩
end Go.Proofs.YtkknoionjppegaaDoor.Delta
