/- A bytes.Buffer: WriteByte, Write of whatever, Bytes, Len, Reset, Grow. -/
import Derived.Test.YtkknoionjppegaaDoorDD
namespace Go.Proofs.YtkknoionjppegaaDoor.Delta
open Go.RowKit Go.Proofs.YtkknoionjppegaaDoorW.PrintWords Go.Proofs.YtkknoionjppegaaDoorW.PrintLast Go.Proofs.YtkknoionjppegaaDoorW.PrintMore

theorem take_set_snoc {α : Type} (xs : List α) (i : Nat) (x : α) (h : i < xs.length) : (xs.set i x).take (i + 1) = xs.take i ++ [x] := by
  rw [List.take_succ_eq_append_getElem (by simpa using h), List.take_set_of_le (Nat.le_refl i)]
  simp
/-- One byte is put to the place that is ready. -/
theorem Ready.poked {w W1 : World} {b r : Nat} {l : List Int} {N cap2 : Nat} {cells : Array Value} {lr : Int} (c : Int) (hN : N = r ∨ w.heap.size ≤ N) (hNb : N ≠ b) (hc : l.length + 1 ≤ cap2) (hcm : cap2 ≤ maxLen) (hsz : cells.size = cap2) (htk : cells.toList.take l.length = nums .u8 l) (hrow : W1.heap[N]? = some (.cells cells 5 (0, 0))) (hb : W1.heap[b]? = some (.cells #[.slice (some ⟨N, 0, none⟩) (l.length + 1) cap2, .int .i64 0, .int .i8 lr] 50 (0, 0))) (hk : Keep w W1 (fun k => k = b)) :
    ∃ r', (r' = r ∨ w.heap.size ≤ r') ∧ Bf (W1.setCell ⟨N, l.length, none⟩ (.int .u8 c)) b r' (l ++ [c]) ∧ Keep w (W1.setCell ⟨N, l.length, none⟩ (.int .u8 c)) (fun k => k = b ∨ k = r) := by
  have e : cells.toList.length = cap2 := by simpa using hsz
  have hrow2 := Lib.heap_setCell_same (i := l.length) hrow (.int .u8 c)
  refine ⟨N, hN, ⟨_, lr, (Below.heap_setCell W1 ⟨N, l.length, none⟩ _ b (fun e => hNb e.symm)).trans hb, .inr ⟨cap2, _, by simp, hNb, hrow2, by simpa using hc, hcm, by simpa using hsz, ?_⟩⟩, Keep.setCell (F := fun k => k = b ∨ k = r) (a := ⟨N, l.length, none⟩) (hk.mono (fun _ h => Or.inl h)) (hN.elim (fun e => Or.inl (Or.inr e)) Or.inr) _⟩
  rw [nums_append', ← htk, List.length_append, List.length_singleton]
  simp only [Array.toList_setIfInBounds]
  rw [take_set_snoc _ _ _ (by omega)]
  rfl

set_option maxHeartbeats 6400000 in
set_option maxRecDepth 100000 in
theorem writeByte_calls (b r : Nat) (l : List Int) (c : Int) (w : World) (h : Bf w b r l) (hlim : l.length + 1 ≤ 140737488355328) :
    Calls Tryd.prog 24 #[.pointer (some ⟨b, 0, none⟩), .int .u8 c] w fun e w' => e = .returned .nilIface ∧ ∃ r', (r' = r ∨ w.heap.size ≤ r') ∧ Bf w' b r' (l ++ [c]) ∧ Keep w w' (fun k => k = b ∨ k = r) := by
  obtain ⟨⟨lr, c2⟩, fr⟩ := h.c2
  have f2 := fr 2
  clear fr
  have hbl := h.lt
  have HK := Lib.hid ((Keep.refl w (fun k => k = b)).setCell (a := ⟨b, 2, none⟩) (.inl rfl) (.int .i8 0))
  have H2 := Lib.hid (h.set2 0)
  have HF := Lib.hid (⟨hlim, hbl⟩ : l.length + 1 ≤ 140737488355328 ∧ b < w.heap.size)
  have hlL : l.length ≤ 140737488355328 := by omega
  obtain ⟨L, hL⟩ : ∃ L, L = l.length := ⟨_, rfl⟩
  have hLb : L ≤ 140737488355328 := by omega
  have HL := Lib.hid hL
  have fin : ∀ W1 : World, Ready w W1 b r 1 l → ∃ (N cap2 : Nat) (u : Value), W1.cell? ⟨b, 0, none⟩ = some (.slice (some ⟨N, 0, none⟩) (L + 1) cap2) ∧ W1.cell? ⟨N, L, none⟩ = some u ∧ W1.frozen? ⟨N, L, none⟩ = false ∧ Hid (∃ r', (r' = r ∨ w.heap.size ≤ r') ∧ Bf (W1.setCell ⟨N, L, none⟩ (.int .u8 c)) b r' (l ++ [c]) ∧ Keep w (W1.setCell ⟨N, L, none⟩ (.int .u8 c)) (fun k => k = b ∨ k = r)) := by
    rintro W1 ⟨N, cap2, cells, lr1, hN, hNb, hc, hcm, hsz, htk, hrow, hb1, hk1⟩
    subst hL
    have hlt : l.length < cells.size := by omega
    exact ⟨N, cap2, cells[l.length], cell_of hb1 0 rfl, cell_of hrow _ (Array.getElem?_eq_getElem hlt), frozen_of hrow _, Lib.hid (Ready.poked c hN hNb hc hcm hsz htk hrow hb1 hk1)⟩
  have FIN := Lib.hid fin
  have hh := (h.set2 0).head
  clear fin hlim hbl
  by_cases hroom : ∃ cap, (w.setCell ⟨b, 2, none⟩ (.int .i8 0)).cell? ⟨b, 0, none⟩ = some (.slice (some ⟨r, 0, none⟩) l.length cap) ∧ 1 ≤ cap - l.length
  · obtain ⟨cap, g0, hle⟩ := hroom
    have HT := Lib.hid (room_calls b r 1 l _ cap H2.out g0 hle)
    rw [← hL] at HT
    clear g0 hle hh h hL
    go_enter Tryd.func24, Tryd.ntmps24
    go_wp2_with (go_at_call 35; refine HT.out.mono ?_; rintro e W1 ⟨rfl, hrd⟩; obtain ⟨N, cap2, u, d0, d1, d2, HE⟩ := FIN.out W1 (by obtain ⟨N, cap2, cells, lr1, hN, hNb, hc, hcm, hsz, htk, hrow, hb1, hk1⟩ := hrd; exact ⟨N, cap2, cells, lr1, hN.elim Or.inl (fun h => Or.inr (Nat.le_trans HK.out.size h)), hNb, hc, hcm, hsz, htk, hrow, hb1, HK.out.trans hk1 (fun _ _ h => h)⟩); clear hrd)
    go_ret
    exact ⟨rfl, HE.out⟩
  · obtain ⟨ao, len, cap, g0, hno⟩ : ∃ ao len cap, (w.setCell ⟨b, 2, none⟩ (.int .i8 0)).cell? ⟨b, 0, none⟩ = some (.slice ao len cap) ∧ cap - len < 1 := by
      rcases hh with ⟨g0, h2, _⟩ | ⟨cap, g0, _⟩
      · exact ⟨none, 0, 0, g0, by omega⟩
      · exact ⟨_, _, cap, g0, Nat.lt_of_not_le fun hh => hroom ⟨cap, g0, hh⟩⟩
    have HT := Lib.hid (none_calls b r 1 l _ ao len cap H2.out g0 hno)
    have HG := Lib.hid (grow_calls b r 1 l _ ao len cap H2.out g0 hno HF.out.1)
    rw [← hL] at HG
    clear g0 hno hh h hL hroom
    go_enter Tryd.func24, Tryd.ntmps24
    go_wp2_with (first
      | (go_at_call 35; refine HT.out.mono ?_; rintro e W1 ⟨rfl, rfl⟩)
      | (go_at_call 36; refine HG.out.mono ?_; rintro e W1 ⟨rfl, lr1, hgr⟩; obtain ⟨N, cap2, u, d0, d1, d2, HE⟩ := FIN.out W1 (Grown.ready (by rw [← HL.out]; exact hgr) HK.out HF.out.2); clear hgr))
    go_ret
    exact ⟨rfl, HE.out⟩

/-- What is read. -/
abbrev Rd (w : World) (A : Option Addr) (n : Nat) (xs : List Int) : Prop := Kd.C (Kd.int .u8) w A n xs
theorem Rd.mk {w : World} {A : Addr} {n : Nat} {xs : List Int} (hn : xs.length = n) (hlim : n ≤ 9223372036854775807) (h : ∀ j v, (nums .u8 xs)[j]? = some v → w.cell? (A.add j) = some v) : Rd w (some A) n xs :=
  ⟨hn, hlim, fun _ => ⟨A, rfl, fun j p hp => ⟨[.int .u8 p], rfl, rfl, fun i u hu => by
    have hi : i = 0 := by
      have := (List.getElem?_eq_some_iff.1 hu).1
      simpa using this
    subst hi
    have hu2 : Value.int .u8 p = u := by simpa using hu
    rw [← hu2]
    show w.cell? (A.add (j * 1 + 0)) = _
    rw [Nat.mul_one, Nat.add_zero]
    exact h j _ (by simp [nums, hp])⟩⟩⟩
theorem Rd.nil (w : World) (A : Option Addr) : Rd w A 0 [] := ⟨rfl, by omega, fun h => by omega⟩
theorem Rd.cells {w : World} {A : Option Addr} {n : Nat} {xs : List Int} (h : Rd w A n xs) (hn : 0 < n) : ∃ a, A = some a ∧ ∀ j v, (nums .u8 xs)[j]? = some v → w.cell? (a.add j) = some v := by
  obtain ⟨a, rfl, hc⟩ := h.2.2 hn
  refine ⟨a, rfl, fun j v hj => ?_⟩
  obtain ⟨p, hp, rfl⟩ : ∃ p, xs[j]? = some p ∧ Value.int .u8 p = v := by
    unfold nums at hj
    rw [List.getElem?_map] at hj
    cases hx : xs[j]? with
    | none => rw [hx] at hj; cases hj
    | some p => rw [hx] at hj; exact ⟨p, rfl, by simpa using hj⟩
  obtain ⟨c, hcl, hK, hcc⟩ := hc j p hp
  have := hcc 0 (.int .u8 p) (by rw [hK]; rfl)
  simpa [show (Kd.int .u8).sz = 1 from rfl] using this
theorem Rd.keep {w w' : World} {A : Option Addr} {n : Nat} {xs : List Int} {F : Nat → Prop} (h : Rd w A n xs) (k : Keep w w' F) (hA : ∀ a, A = some a → ¬ F a.block) : Rd w' A n xs := by
  rcases Nat.eq_zero_or_pos n with rfl | hn
  · obtain ⟨h1, _⟩ := h
    have : xs = [] := List.eq_nil_of_length_eq_zero h1
    subst this
    exact Rd.nil _ _
  · obtain ⟨a, rfl, hc⟩ := h.cells hn
    exact Rd.mk h.1 h.2.1 (fun j v hj => k.cell (hc j v hj) (by rw [add_block]; exact hA a rfl))

theorem write_calls (b r : Nat) (l cs : List Int) (A : Option Addr) (n c : Nat) (w : World) (h : Bf w b r l) (hC : Rd w A n cs) (hab : ∀ a, A = some a → a.block ≠ b) (hlim : l.length + n ≤ 140737488355328) :
    Calls Tryd.prog 20 #[.pointer (some ⟨b, 0, none⟩), .slice A n c] w fun e w' => e = .returned (.tuple #[.int .i64 n, .nilIface]) ∧ ∃ r', (r' = r ∨ w.heap.size ≤ r') ∧ Bf w' b r' (l ++ cs) ∧ Keep w w' (fun k => k = b ∨ k = r) := by
  rcases Nat.eq_zero_or_pos n with rfl | hn
  · have : cs = [] := List.eq_nil_of_length_eq_zero hC.1
    subst this
    exact (write_none b r l A c w h).mono fun e w' ⟨h1, h2, h3⟩ => ⟨h1, r, .inl rfl, by rw [List.append_nil]; exact h2, h3.mono (fun _ h => .inl h)⟩
  · obtain ⟨a, rfl, hc⟩ := hC.cells hn
    exact write_some b r l cs a n c w h hn hC.1 (hab a rfl) hc hlim

theorem Bf.is {w : World} {b r : Nat} {l : List Int} (h : Bf w b r l) : Lib.IsBuffer 50 5 0 b (nums .u8 l) w := by
  obtain ⟨v, lr, hbk, ⟨rfl, rfl, rfl⟩ | ⟨cap, cur, rfl, hrb, hr, hlc, hcm, hcs, htk⟩⟩ := h
  · exact ⟨Nat.zero_le _, _, lr, hbk, World.ownsRow_nil _ _ _ _, by simp [Value.ownBlock]⟩
  · exact ⟨Nat.zero_le _, _, lr, hbk, ⟨by rw [nums_length, Nat.mul_one], .inr ⟨r, cap, cur, by rw [nums_length], Nat.zero_le _, hr, by rw [nums_length]; exact hlc, hcm, by omega, by rw [nums_length, Nat.mul_one]; exact htk⟩⟩, by simp [Value.ownBlock]; exact hrb⟩
theorem len_calls (b r : Nat) (l : List Int) (w : World) (h : Bf w b r l) : Calls Tryd.prog 42 #[.pointer (some ⟨b, 0, none⟩)] w fun e w' => e = .returned (.int .i64 l.length) ∧ ∃ n, w' = w.drewN n :=
  (Tryd.Buffer_Len 0 b _ w h.is).mono fun e w' ⟨h1, h2⟩ => ⟨by rw [h1, nums_length], h2⟩

theorem Bf.reads {w : World} {b r : Nat} {l : List Int} (h : Bf w b r l) : ∃ A cap, w.cell? ⟨b, 0, none⟩ = some (.slice A l.length cap) ∧ l.length ≤ cap ∧ cap ≤ 9223372036854775807 ∧ Rd w A l.length l ∧ (∀ a, A = some a → a = ⟨r, 0, none⟩ ∧ r ≠ b) ∧ (A = none → cap = 0) := by
  obtain ⟨v, lr, hbk, ⟨rfl, rfl, rfl⟩ | ⟨cap, cur, rfl, hrb, hr, hlc, hcm, hcs, htk⟩⟩ := h
  · exact ⟨none, 0, cell_of hbk 0 rfl, Nat.le_refl _, by omega, Rd.nil _ _, by simp, fun _ => rfl⟩
  · unfold maxLen at hcm
    refine ⟨_, cap, cell_of hbk 0 rfl, hlc, hcm, Rd.mk rfl (by omega) (fun j v hj => ?_), fun a ha => ⟨(Option.some.inj ha).symm, hrb⟩, fun h => by cases h⟩
    have e : (⟨r, 0, none⟩ : Addr).add j = ⟨r, j, none⟩ := by unfold Addr.add; split <;> simp_all
    rw [e]
    refine cell_of hr j ?_
    rw [← htk, List.getElem?_take] at hj
    split at hj
    · simpa using hj
    · cases hj
set_option maxHeartbeats 1600000 in
set_option maxRecDepth 100000 in
theorem bytes_calls (b r : Nat) (l : List Int) (w : World) (h : Bf w b r l) :
    Calls Tryd.prog 17 #[.pointer (some ⟨b, 0, none⟩)] w fun e w' => (∃ A cap, e = .returned (.slice A l.length cap) ∧ l.length ≤ cap ∧ Rd w A l.length l ∧ ∀ a, A = some a → a = ⟨r, 0, none⟩ ∧ r ≠ b) ∧ ∃ n, w' = w.drewN n := by
  obtain ⟨A, cap, c0, hlc, hcm, hR, hA, hnone⟩ := h.reads
  have c1 : w.cell? ⟨b, 1, none⟩ = some (.int .i64 0) := by
    obtain ⟨v, lr, hbk, _⟩ := h
    exact cell_of hbk 1 rfl
  have HA := Lib.hid hA
  have HR := Lib.hid hR
  have hlen : l.length ≤ 9223372036854775807 := by omega
  obtain ⟨L, hL⟩ : ∃ L, L = l.length := ⟨_, rfl⟩
  have HL := Lib.hid hL
  rw [← hL] at c0 hlc hlen
  clear hL hR h hA
  rcases A with _ | a
  · have HN := Lib.hid (hnone rfl)
    clear hnone
    go_enter Tryd.func17, Tryd.ntmps17
    go_wp2_with fail
    go_quiet (fail)
    go_wp2
    go_ret
    exact ⟨⟨none, cap, by rw [HL.out]; simp, by have := HL.out; omega, HR.out, by simp⟩, _, rfl⟩
  · obtain ⟨rfl, hrb⟩ := HA.out a rfl
    clear hnone
    go_enter Tryd.func17, Tryd.ntmps17
    go_wp2_with fail
    go_quiet (fail)
    go_wp2
    go_ret
    exact ⟨⟨some ⟨r, 0, none⟩, cap, by rw [HL.out]; simp, by have := HL.out; omega, HR.out, fun a ha => ⟨by cases ha; rfl, hrb⟩⟩, _, rfl⟩
set_option maxHeartbeats 1600000 in
set_option maxRecDepth 100000 in
theorem reset_calls (b r : Nat) (l : List Int) (w : World) (h : Bf w b r l) :
    Calls Tryd.prog 43 #[.pointer (some ⟨b, 0, none⟩)] w fun e w' => e = .returned (.tuple #[]) ∧ Bf w' b r [] ∧ Keep w w' (fun k => k = b) := by
  obtain ⟨v, lr, hbk, hv⟩ := h
  have c0 := cell_of hbk 0 (u := v) rfl
  have c1 := cell_of hbk 1 (u := .int .i64 0) rfl
  have c2 := cell_of hbk 2 (u := .int .i8 lr) rfl
  have f0 := frozen_of hbk 0
  have f1 := frozen_of hbk 1
  have f2 := frozen_of hbk 2
  have HB := Lib.hid hbk
  clear hbk
  have HK : ∀ v0, Hid (Keep w (((w.setCell ⟨b, 0, none⟩ v0).setCell ⟨b, 1, none⟩ (.int .i64 0)).setCell ⟨b, 2, none⟩ (.int .i8 0)) (fun k => k = b)) := fun v0 => Lib.hid ((((Keep.refl w (fun k => k = b)).setCell (a := ⟨b, 0, none⟩) (.inl rfl) _).setCell (a := ⟨b, 1, none⟩) (.inl rfl) _).setCell (a := ⟨b, 2, none⟩) (.inl rfl) _)
  rcases hv with ⟨rfl, rfl, rfl⟩ | ⟨cap, cur, rfl, hrb, hr, hlc, hcm, hcs, htk⟩
  · go_enter Tryd.func43, Tryd.ntmps43
    go_wp2
    go_end0
    exact ⟨rfl, ⟨_, 0, Lib.heap_setCell_same (i := 2) (Lib.heap_setCell_same (i := 1) (Lib.heap_setCell_same (i := 0) HB.out _) _) _, .inl ⟨rfl, rfl, rfl⟩⟩, (HK _).out⟩
  · have HR := Lib.hid hr
    have HS := Lib.hid hcs
    have hlen := hlc
    have hcm' := hcm
    unfold maxLen at hcm'
    clear hr hcs htk
    go_enter Tryd.func43, Tryd.ntmps43
    go_wp2
    go_end0
    exact ⟨rfl, ⟨_, 0, Lib.heap_setCell_same (i := 2) (Lib.heap_setCell_same (i := 1) (Lib.heap_setCell_same (i := 0) HB.out _) _) _, .inr ⟨cap, cur, rfl, hrb, by rw [Below.heap_setCell _ _ _ _ hrb, Below.heap_setCell _ _ _ _ hrb, Below.heap_setCell _ _ _ _ hrb]; exact HR.out, Nat.zero_le _, hcm, HS.out, rfl⟩⟩, (HK _).out⟩
set_option maxHeartbeats 1600000 in
set_option maxRecDepth 100000 in
/-- Grow, of a buffer that is new. -/
theorem growPublic_calls (b n : Nat) (w : World) (h : w.heap[b]? = some (.cells #[.slice none 0 0, .int .i64 0, .int .i8 0] 50 (0, 0))) (hn : 1 ≤ n) (hlim : n ≤ 140737488355328) :
    Calls Tryd.prog 28 #[.pointer (some ⟨b, 0, none⟩), .int .i64 n] w fun e w' => e = .returned (.tuple #[]) ∧ ∃ r', w.heap.size ≤ r' ∧ Bf w' b r' [] ∧ Keep w w' (fun k => k = b) := by
  have hB : Bf w b b [] := ⟨_, 0, h, .inl ⟨rfl, rfl, rfl⟩⟩
  have HG := Lib.hid (grow_calls b b n [] w none 0 0 hB (cell_of h 0 rfl) (by omega) (by simpa using hlim))
  clear h hB
  go_enter Tryd.func28, Tryd.ntmps28
  go_wp2_with (go_at_call 36; refine HG.out.mono ?_; rintro e W1 ⟨rfl, lr1, N, cap2, cells, h1, h2, h3, h4, h5, h6, h7, h8⟩; have d0 := cell_of h7 0 (u := .slice (some ⟨N, 0, none⟩) (0 + n) cap2) rfl; have f0 := frozen_of h7 0; have H7 := Lib.hid h7; have H6 := Lib.hid h6; have H8 := Lib.hid h8; have H4 := Lib.hid h4; have hcm' := h3; unfold maxLen at hcm'; clear h7 h6 h8 h4 h5)
  go_end0
  have hNb : N ≠ b := by
    intro e
    subst e
    rw [H6.out] at H7
    have := H7.out
    cases this
  exact ⟨rfl, N, h1, ⟨_, lr1, Lib.heap_setCell_same (i := 0) H7.out _, .inr ⟨cap2, cells, rfl, hNb, by rw [Below.heap_setCell _ _ _ _ hNb]; exact H6.out, Nat.zero_le _, h3, H4.out, rfl⟩⟩, H8.out.setCell (a := ⟨b, 0, none⟩) (.inl rfl) _⟩
end Go.Proofs.YtkknoionjppegaaDoor.Delta
