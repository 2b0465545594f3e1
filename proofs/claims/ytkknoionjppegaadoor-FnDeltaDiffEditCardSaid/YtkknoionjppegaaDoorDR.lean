/- The search for a delta: up to its loop. -/
import Derived.Test.YtkknoionjppegaaDoorDQ
import Derived.Defers
import Derived.Recover
namespace Go.Proofs.YtkknoionjppegaaDoor.Delta
open Go.RowKit Go.Proofs.YtkknoionjppegaaDoorW.PrintWords Go.Proofs.YtkknoionjppegaaDoorW.PrintLast Go.Proofs.YtkknoionjppegaaDoorW.PrintMore Go.Proofs.YtkknoionjppegaaDoor.PFnDeltaDiffRead

/-- What the search is given. -/
structure Given (w : World) (ix cs ct : Nat) (As At T0 : Addr) (src tgt : List Int) : Prop where
  hs : Rd w (some As) src.length src
  ht : Rd w (some At) tgt.length tgt
  hcs : src.length ≤ cs
  hct : tgt.length ≤ ct
  ls : src.length ≤ 1000000
  lt : tgt.length ≤ 1000000
  xs : ∀ x ∈ src, 0 ≤ x ∧ x < 256
  xt : ∀ x ∈ tgt, 0 ≤ x ∧ x < 256
  T : Tab w T0
  L : LTab w
  bs : As.block < w.heap.size
  bt : At.block < w.heap.size
  b0 : T0.block < w.heap.size
  ne : As.block ≠ ix ∧ At.block ≠ ix ∧ T0.block ≠ ix ∧ 6 ≠ ix ∧ 7 ≠ ix
theorem Given.keep {w w' : World} {ix cs ct : Nat} {As At T0 : Addr} {src tgt : List Int} {F : Nat → Prop} (h : Given w ix cs ct As At T0 src tgt) (k : Keep w w' F) (hF : ∀ j, j < w.heap.size → F j → j = ix) : Given w' ix cs ct As At T0 src tgt := by
  have h6 : 6 < w.heap.size := by
    obtain ⟨c, h, _⟩ := h.T
    exact World.block_lt_of_cell? w _ h
  have h7 : 7 < w.heap.size := by
    obtain ⟨v, h, _⟩ := h.L 0 (by omega)
    exact World.block_lt_of_cell? w _ h
  exact ⟨h.hs.keep k (fun a ha hf => by cases ha; exact h.ne.1 (hF _ h.bs hf)), h.ht.keep k (fun a ha hf => by cases ha; exact h.ne.2.1 (hF _ h.bt hf)), h.hcs, h.hct, h.ls, h.lt, h.xs, h.xt, h.T.keep k (fun hf => h.ne.2.2.2.1 (hF _ h6 hf)) (fun hf => h.ne.2.2.1 (hF _ h.b0 hf)), h.L.keep k (fun hf => h.ne.2.2.2.2 (hF _ h7 hf)), Nat.lt_of_lt_of_le h.bs k.size, Nat.lt_of_lt_of_le h.bt k.size, Nat.lt_of_lt_of_le h.b0 k.size, h.ne⟩
theorem Given.up {w w' : World} {ix cs ct b : Nat} {As At T0 : Addr} {src tgt : List Int} {F : Nat → Prop} (h : Given w ix cs ct As At T0 src tgt) (k : Keep w w' F) (hF : ∀ j, F j → b ≤ j) (hb : As.block < b ∧ At.block < b ∧ T0.block < b ∧ 6 < b ∧ 7 < b) : Given w' ix cs ct As At T0 src tgt :=
  ⟨h.hs.keep k (fun a ha hf => by cases ha; have := hF _ hf; omega), h.ht.keep k (fun a ha hf => by cases ha; have := hF _ hf; omega), h.hcs, h.hct, h.ls, h.lt, h.xs, h.xt, h.T.keep k (fun hf => by have := hF _ hf; omega) (fun hf => by have := hF _ hf; omega), h.L.keep k (fun hf => by have := hF _ hf; omega), Nat.lt_of_lt_of_le h.bs k.size, Nat.lt_of_lt_of_le h.bt k.size, Nat.lt_of_lt_of_le h.b0 k.size, h.ne⟩
theorem DiffAt.below {wb w w' : World} {b1 r10 b2 i : Nat} {H src tgt : List Int} (h : DiffAt wb w b1 r10 b2 H src tgt i) (k : Below w.heap.size w w') : DiffAt wb w' b1 r10 b2 H src tgt i := by
  obtain ⟨r1, r2, ops, ib, h1, h2, h3, h4, h5⟩ := h
  exact ⟨r1, r2, ops, ib, h1.below k, h2, h3, h4, h5.below k⟩
theorem DiffAt.keep {wb w : World} {b1 r10 b2 i : Nat} {H src tgt : List Int} (h : DiffAt wb w b1 r10 b2 H src tgt i) : Keep wb w (fun k => k = b1 ∨ k = b2 ∨ k = r10) := by
  obtain ⟨r1, r2, ops, ib, h1, h2, h3, h4, h5⟩ := h
  exact h5.2.2
theorem below_drewN (w : World) (k : Nat) : Below w.heap.size w (w.drewN k) := ⟨rfl, rfl, rfl, Nat.le_refl _, fun _ _ => rfl⟩
def heads (src tgt : List Int) : List Int := size7 4 src.length ++ size7 4 tgt.length
theorem heads_len (src tgt : List Int) : (heads src tgt).length ≤ 10 := by
  have := size7_len 4 src.length
  have := size7_len 4 tgt.length
  unfold heads
  rw [List.length_append]
  omega
/-- What is written of the delta in the end. -/
def IsDelta (src tgt d : List Int) : Prop := ∃ ops, Goods src ops ∧ makes src ops = tgt ∧ d = heads src tgt ++ encs ops ∧ 127 * (encs ops).length ≤ 128 * tgt.length + 126
theorem i64_eq {a b : Int} (h : a = b) : Value.int .i64 a = Value.int .i64 b := by rw [h]
theorem put_idle (v : Value) (w : World) : CallsD Tryd.prog 19 #[v] .returning w fun e u' w' => e = .returned (.tuple #[]) ∧ u' = .returning ∧ w' = w := by
  refine callsD_of_wpS Tryd.func19 rfl fun c₀ cs hu => ?_
  refine wpS_of_wp (wp_skip ?_)
  cases c₀
  simp_all [bodyPostS, results, Tryd.results19]
theorem empty_R {base : Nat} (w : World) (hb : base ≤ w.heap.size) : (Kd.int .u8).R 5 (w.alloc (.cells #[] 5)) base (fun k => w.heap.size ≤ k) (.slice (some ⟨w.heap.size, 0, none⟩) 0 0) [] :=
  Kd.R_of_own (World.ownsRow_made w #[] 0 hb (by decide) rfl) (fun k hk => by
    have : k = w.heap.size := by simpa [Value.ownBlock] using hk.symm
    omega)
/-- A copy is through. -/
theorem mid_done {wb w : World} {b1 r10 b2 i oo j : Nat} {H src tgt : List Int} (hsame : (src.drop oo).take j = (tgt.drop i).take j) (h : ∃ r1 r2 ops, Two w b1 r1 b2 r2 (H ++ encs ops) [] ∧ Goods src ops ∧ makes src ops = tgt.take i ++ (src.drop oo).take j ∧ 127 * (encs ops).length ≤ 128 * (makes src ops).length ∧ Rows2 wb w b1 r10 b2 r1 r2) : DiffAt wb w b1 r10 b2 H src tgt (i + j) := by
  obtain ⟨r1, r2, ops, h1, h2, h3, h4, h5⟩ := h
  exact ⟨r1, r2, ops, [], h1, h2, by rw [h3, hsame, List.append_nil, ← List.take_add], h4, h5⟩
set_option maxHeartbeats 8000000 in
set_option maxRecDepth 200000 in
theorem diff_calls (ix cs ct : Nat) (As At T0 : Addr) (src tgt : List Int) (w : World) (hG : Given w ix cs ct As At T0 src tgt) (hix : w.heap[ix]? = some (.cells #[.slice none 0 0, .slice none 0 0, .int .i64 0] 45 (0, 0))) :
    Calls Tryd.prog 15 #[.pointer (some ⟨ix, 0, none⟩), .slice (some As) src.length cs, .slice (some At) tgt.length ct] w fun e w' => ∃ v d, e = .returned v ∧ IsDelta src tgt d ∧ Kd.R (Kd.int .u8) 5 w' w.heap.size (fun _ => True) v d ∧ Keep w w' (fun k => k = ix) := by
  have HG := Lib.hid hG
  have HX := Lib.hid hix
  have hixl := lt_of_block hix
  obtain ⟨n, hn⟩ : ∃ n, n = src.length := ⟨_, rfl⟩
  obtain ⟨m, hm⟩ : ∃ m, m = tgt.length := ⟨_, rfl⟩
  have hnb : n ≤ 1000000 := by rw [hn]; exact hG.ls
  have hmb : m ≤ 1000000 := by rw [hm]; exact hG.lt
  have HN := Lib.hid (⟨hn, hm⟩ : n = src.length ∧ m = tgt.length)
  rw [← hn, ← hm]
  clear hG hix hn hm
  have HE1 : Hid (∀ W : World, Calls Tryd.prog 21 #[.int .i64 (n : Nat)] W _) := Lib.hid fun W => packfile_deltaEncodeSize.calls 5 n (size7 4 n) W (encodeSize n (by omega))
  have HE2 : Hid (∀ W : World, Calls Tryd.prog 21 #[.int .i64 (m : Nat)] W _) := Lib.hid fun W => packfile_deltaEncodeSize.calls 5 m (size7 4 m) W (encodeSize m (by omega))
  go_enter_defers Tryd.func15, Tryd.ntmps15
  go_wp2_with (go_at_call 18; refine (get_calls _).mono ?_; rintro e w1 ⟨rfl, hw1⟩; have HW1 := Lib.hid hw1; clear hw1; refine Hid.out ?_)
  obtain ⟨b1, hb1⟩ : ∃ b1, b1 = w.heap.size := ⟨_, rfl⟩
  have HB1 : Hid (Bf w1 b1 b1 []) := Lib.hid (by rw [HW1.out, hb1]; exact Bf.fresh w)
  have HK1 : Hid (Below w.heap.size w w1) := Lib.hid (by rw [HW1.out]; exact below_alloc (Below.refl _ _) _)
  have Hb1 : Hid (b1 = w.heap.size) := Lib.hid hb1
  rw [← hb1]
  clear hb1 HW1
  refine Lib.hid ?_
  go_wp2_with (go_at_call 21; refine (HE1.out _).mono ?_; rintro e w2 ⟨v2, rfl, hR2, hb2⟩; obtain ⟨A2, c2, rfl, hl2, hr2, ha2⟩ := R_rd hR2; have HR2 := Lib.hid (⟨hr2, ha2, hb2⟩ : Rd w2 A2 (size7 4 n).length (size7 4 n) ∧ (∀ a, A2 = some a → w1.heap.size ≤ a.block) ∧ Below w1.heap.size w1 w2); clear hR2 hl2 hr2 ha2 hb2; refine Hid.out ?_)
  have HB2 : Hid (Bf w2 b1 b1 []) := Lib.hid (HB1.out.keep (Keep.of_below HR2.out.2.2 (fun _ => False)) (fun h => h) (fun h => h))
  have HWr1 := Lib.hid (write_calls b1 b1 [] (size7 4 n) A2 (size7 4 n).length c2 w2 HB2.out HR2.out.1 (fun a ha => by have := HR2.out.2.1 a ha; have := HB1.out.lt; omega) (by have := size7_len 4 n; simp; omega))
  refine Lib.hid ?_
  go_wp2_with (go_at_call 20; refine HWr1.out.mono ?_; rintro e w3 ⟨rfl, r3, hr3, hB3, hk3⟩; have HR3 := Lib.hid (⟨hr3, hB3, hk3⟩ : (r3 = b1 ∨ w2.heap.size ≤ r3) ∧ Bf w3 b1 r3 ([] ++ size7 4 n) ∧ Keep w2 w3 (fun k => k = b1 ∨ k = b1)); clear hr3 hB3 hk3; refine Hid.out ?_)
  have HK3 : Hid (Below w.heap.size w w3) := Lib.hid (by
    have h1 := HK1.out
    have h2 := HR2.out.2.2
    have h3 := HR3.out.2.2
    have hb := Hb1.out
    exact (h1.trans (h2.mono h1.size)).trans (h3.below (by rintro k (rfl | rfl) <;> omega) (Nat.le_trans h1.size h2.size)))
  have Hr3 : Hid (r3 = b1 ∨ w1.heap.size ≤ r3) := Lib.hid (by have h := HR3.out.1; have := HR2.out.2.2.size; omega)
  refine Lib.hid ?_
  go_wp2_with (go_at_call 21; refine (HE2.out _).mono ?_; rintro e w4 ⟨v4, rfl, hR4, hb4⟩; obtain ⟨A4, c4, rfl, hl4, hr4, ha4⟩ := R_rd hR4; have HR4 := Lib.hid (⟨hr4, ha4, hb4⟩ : Rd w4 A4 (size7 4 m).length (size7 4 m) ∧ (∀ a, A4 = some a → w3.heap.size ≤ a.block) ∧ Below w3.heap.size w3 w4); clear hR4 hl4 hr4 ha4 hb4; refine Hid.out ?_)
  have HB4 : Hid (Bf w4 b1 r3 ([] ++ size7 4 n)) := Lib.hid (HR3.out.2.1.keep (Keep.of_below HR4.out.2.2 (fun _ => False)) (fun h => h) (fun h => h))
  have HWr2 := Lib.hid (write_calls b1 r3 _ (size7 4 m) A4 (size7 4 m).length c4 w4 HB4.out HR4.out.1 (fun a ha => by have := HR4.out.2.1 a ha; have := HR3.out.2.1.lt; omega) (by have := size7_len 4 n; have := size7_len 4 m; simp; omega))
  refine Lib.hid ?_
  go_wp2_with (go_at_call 20; refine HWr2.out.mono ?_; rintro e w5 ⟨rfl, r5, hr5, hB5, hk5⟩; have HR5 := Lib.hid (⟨hr5, hB5, hk5⟩ : (r5 = r3 ∨ w4.heap.size ≤ r5) ∧ Bf w5 b1 r5 ([] ++ size7 4 n ++ size7 4 m) ∧ Keep w4 w5 (fun k => k = b1 ∨ k = r3)); clear hr5 hB5 hk5; refine Hid.out ?_)
  have HK5 : Hid (Below w.heap.size w w5) := Lib.hid (by
    have h1 := HK3.out
    have h0 := HK1.out.size
    have h2 := HR4.out.2.2
    have h3 := HR5.out.2.2
    have hb := Hb1.out
    have hr := Hr3.out
    exact (h1.trans (h2.mono h1.size)).trans (h3.below (by rintro k (rfl | rfl) <;> omega) (Nat.le_trans h1.size h2.size)))
  have HG5 : Hid (Given w5 ix cs ct As At T0 src tgt) := Lib.hid (HG.out.keep (Keep.of_below HK5.out (fun _ => False)) (fun _ _ h => h.elim))
  have HX5 : Hid (w5.heap[ix]? = some (.cells #[.slice none 0 0, .slice none 0 0, .int .i64 0] 45 (0, 0))) := Lib.hid ((HK5.out.block ix hixl).trans HX.out)
  have x1 := cell_of HX5.out 1 (u := .slice none 0 0) rfl
  have HIn := Lib.hid (init_any As T0 n cs ix src w5 HX5.out (by rw [HN.out.1]; exact HG.out.hcs) hnb (by rw [HN.out.1]; exact HG5.out.hs) HG.out.xs HG5.out.T HG5.out.L HG5.out.bs HG5.out.b0)
  refine Lib.hid ?_
  go_wp2_with (go_at_call 22; refine HIn.out.mono ?_; rintro e w6 ⟨rfl, hk6, hi6⟩; have HR6 := Lib.hid (⟨hk6, hi6⟩ : Keep w5 w6 (fun k => k = ix) ∧ (16 ≤ n → ∃ tb ie sz mk C T IE, IdxAt w6 ix tb ie sz mk C T IE ∧ w5.heap.size ≤ tb ∧ w5.heap.size ≤ ie)); clear hk6 hi6; refine Hid.out ?_)
  refine Lib.hid ?_
  go_wp2_with (go_at_call 18; refine (get_calls _).mono ?_; rintro e wb ⟨rfl, hwb⟩; have HWb := Lib.hid hwb; clear hwb; refine Hid.out ?_)
  obtain ⟨b2, hb2⟩ : ∃ b2, b2 = w6.heap.size := ⟨_, rfl⟩
  have HK6b : Hid (Keep w5 wb (fun k => k = ix) ∧ Keep w6 wb (fun _ => False)) := Lib.hid (by rw [HWb.out]; exact ⟨HR6.out.1.alloc _, (Keep.refl w6 _).alloc _⟩)
  have HBb : Hid (Bf wb b2 b2 []) := Lib.hid (by rw [HWb.out, hb2]; exact Bf.fresh w6)
  have HFar : Hid (As.block < b1 ∧ At.block < b1 ∧ T0.block < b1 ∧ 6 < b1 ∧ 7 < b1 ∧ ix < b1 ∧ b1 < b2 ∧ b1 ≤ r5 ∧ r5 < b2) := Lib.hid (by
    have h1 := Hb1.out
    have h2 := HG.out.bs
    have h3 := HG.out.bt
    have h4 := HG.out.b0
    have h6 : 6 < w.heap.size := by
      obtain ⟨c, h, _⟩ := HG.out.T
      exact World.block_lt_of_cell? w _ h
    have h7 : 7 < w.heap.size := by
      obtain ⟨v, h, _⟩ := HG.out.L 0 (by omega)
      exact World.block_lt_of_cell? w _ h
    have h8 := HR5.out.2.1.lt
    have h9 := HR5.out.2.1.row_lt
    have h10 := HR6.out.1.size
    have h11 := Hr3.out
    have h12 := HR5.out.1
    have h13 := HK1.out.size
    have h14 := HR4.out.2.2.size
    have h15 := HK3.out.size
    omega)
  have HD0 : Hid (DiffAt wb wb b1 r5 b2 (heads src tgt) src tgt 0) := Lib.hid (by
    have hf := HFar.out
    have hB1 : Bf wb b1 r5 (heads src tgt ++ encs []) := by
      have := HR5.out.2.1.keep HK6b.out.1 (fun e => by omega) (fun e => by omega)
      rw [HN.out.1, HN.out.2] at this
      simpa [heads, encs] using this
    exact ⟨r5, b2, [], [], ⟨hB1, HBb.out, by omega, by omega, by omega, by omega⟩, (fun _ h => by simp at h), by simp [makes], by simp [encs], .inl rfl, .inl rfl, Keep.refl _ _⟩)
  have HGb : Hid (Given wb ix cs ct As At T0 src tgt) := Lib.hid (HG5.out.keep HK6b.out.1 (fun _ _ h => h))
  have HBlt : Hid (b2 < wb.heap.size) := Lib.hid HBb.out.lt
  have HF : Hid (∀ j, (j = b1 ∨ j = b2 ∨ j = r5) → b1 ≤ j) := Lib.hid (by have := HFar.out; rintro j (rfl | rfl | rfl) <;> omega)
  have HGu : Hid (∀ W : World, Keep wb W (fun k => k = b1 ∨ k = b2 ∨ k = r5) → Given W ix cs ct As At T0 src tgt) := Lib.hid fun W k => HGb.out.up k HF.out ⟨HFar.out.1, HFar.out.2.1, HFar.out.2.2.1, HFar.out.2.2.2.1, HFar.out.2.2.2.2.1⟩
  have HFM : Hid (∀ (W : World) (i : Nat), Keep wb W (fun k => k = b1 ∨ k = b2 ∨ k = r5) → i < m → Calls Tryd.prog 23 #[.pointer (some ⟨ix, 0, none⟩), .slice (some As) n cs, .slice (some At) m ct, .int .i64 i] W fun e w' => (∃ o l : Int, e = .returned (.tuple #[.int .i64 o, .int .i64 l]) ∧ Found src tgt i o l) ∧ ∃ k, w' = W.drewN k) := Lib.hid fun W i k hi => by
    have g := HGu.out W k
    have := findMatch_calls ix i cs ct As At T0 src tgt W g.hs g.hcs g.ht g.hct g.ls g.lt (by have := HN.out.2; omega) g.xt g.T (fun h16 => by
      obtain ⟨tb, ie, sz, mk, C, T, IE, h1, h2, h3⟩ := HR6.out.2 (by have := HN.out.1; omega)
      have hf := HFar.out
      have h5 := HR5.out.2.1.lt
      have h6 := HR5.out.2.1.row_lt
      have h7 := lt_of_block h1.rt
      have h8 := lt_of_block h1.ri
      refine ⟨tb, ie, sz, mk, C, T, IE, (h1.keep HK6b.out.2 (fun h => h) (fun h => h) (fun h => h)).keep k ?_ ?_ ?_⟩ <;> omega)
    rw [← HN.out.1, ← HN.out.2] at this
    exact this
  have HKw : Hid (Keep w wb (fun k => k = ix)) := Lib.hid ((Keep.of_below HK5.out (fun k => k = ix)).trans HK6b.out.1 (fun _ _ h => h))
  rw [← hb2]
  clear hb2 HWb HK6b HBb x1 HIn HWr2 HWr1 HE1 HE2 HB1 HB2 HB4 HG5 HX5 HR2 HR3 HR4 HR5 HR6 HK1 HK3 Hr3
  refine Lib.hid ?_
  go_wp2_with fail
  go_loopg [9] m (fun gq v9 w' => ∃ i : Nat, v9 = .int .i64 i ∧ Aside0 (gq = m - i ∧ i ≤ m + 1) ∧ Aside0 (DiffAt wb w' b1 r5 b2 (heads src tgt) src tgt i))
  case atStart => exact ⟨0, rfl, ⟨by omega⟩, ⟨HD0.out⟩⟩
  case round =>
    clear HD0
    obtain ⟨i, rfl, HA, HD⟩ := hrel
    obtain ⟨wo, rfl⟩ : ∃ wo : World, wo = wr := ⟨_, rfl⟩
    have hib : i ≤ 1000001 := by have := HA.out.2; omega
    by_cases him : i < m
    · have hlt : decide (i < m) = true := by simpa using him
      have HFm := Lib.hid (HFM.out wo i HD.out.keep him)
      go_wp2_with (go_at_call 23; refine HFm.out.mono ?_; rintro e w2 ⟨⟨o, l, rfl, hfo⟩, k2, hw2⟩; have HFo := Lib.hid hfo; have HD2 : Hid (DiffAt wb w2 b1 r5 b2 (heads src tgt) src tgt i) := Lib.hid (by rw [hw2]; exact HD.out.below (below_drewN _ _)); clear hw2 hfo; refine Hid.out ?_)
      have HCell : Hid (∀ (W : World) (p : Nat), DiffAt wb W b1 r5 b2 (heads src tgt) src tgt p → ∀ hp : p < tgt.length, W.cell? (At.add p) = some (.int .u8 tgt[p])) := Lib.hid fun W p hd hp => by
        obtain ⟨a, ha, hc⟩ := (HGu.out W hd.keep).ht.cells (by omega)
        cases ha
        exact hc p _ (by simp [nums, hp])
      have himt : i < tgt.length := by have := HN.out.2; omega
      refine Lib.hid ?_
      rcases HFo.out with rfl | ⟨j, rfl, j0, j16, hj⟩ | rfl | ⟨oo, j, rfl, rfl, j16, ho, hj, hsame⟩
      · have ct := HCell.out w2 i HD2.out himt
        have HP := Lib.hid (HD2.out.push himt HG.out.lt)
        obtain ⟨x, hx⟩ : ∃ x, x = tgt[i] := ⟨_, rfl⟩
        rw [← hx] at ct HP
        clear hx
        go_wp2_with (go_at_call 24; refine HP.out.mono ?_; rintro e w3 ⟨rfl, hd3⟩; have HD3 := Lib.hid hd3; clear hd3)
        go_roundg (m - (i + 1))
        case measure => have := HA.out; omega
        case rel => exact ⟨i + 1, by go_num, ⟨by omega⟩, ⟨HD3.out⟩⟩
      · have z1 : ((j : Int) == 0) = false := by rw [beq_eq_false_iff_ne]; omega
        have z2 : decide (j = 0) = false := by simp; omega
        have z3 : decide ((j : Int) < 16) = true := decide_eq_true (by omega)
        have z4 : decide ((j : Int) < 0) = false := decide_eq_false (by omega)
        have z5 : ¬ ((j : Int) < 0) := by omega
        go_wp2_with fail
        go_loopg [12] j (fun gq v12 w' => ∃ p : Nat, v12 = .int .i64 p ∧ Aside0 (p + gq = i + j) ∧ Aside0 (DiffAt wb w' b1 r5 b2 (heads src tgt) src tgt p))
        case atStart => exact ⟨i, rfl, ⟨rfl⟩, ⟨HD2.out⟩⟩
        case round =>
          obtain ⟨p, rfl, HP, HDp⟩ := hrel
          have hpb : p ≤ 1000000 := by have := HP.out; have := HN.out.2; omega
          by_cases hpj : p = i + j
          · have y1 : decide ((p : Int) < (i : Int) + (j : Int)) = false := decide_eq_false (by omega)
            have y2 : ¬ (p : Int) < (i : Int) + (j : Int) := by omega
            have HQ : Hid (DiffAt wb wr b1 r5 b2 (heads src tgt) src tgt (i + j)) := Lib.hid (by rw [← hpj]; exact HDp.out)
            clear hpj
            go_wp2_with fail
            go_roundg (m - (i + j))
            case measure => have := HA.out; omega
            case rel => exact ⟨i + j, by (congr 1; omega), ⟨by have := HN.out.2; omega⟩, ⟨HQ.out⟩⟩
          · have y1 : decide ((p : Int) < (i : Int) + (j : Int)) = true := decide_eq_true (by have := HP.out; omega)
            have y2 : (p : Int) < (i : Int) + (j : Int) := by have := HP.out; omega
            have hpt : p < tgt.length := by have := HP.out; omega
            have hpm : p < m := by have := HN.out.2; omega
            have ct := HCell.out wr p HDp.out hpt
            have HPu := Lib.hid (HDp.out.push hpt HG.out.lt)
            obtain ⟨x, hx⟩ : ∃ x, x = tgt[p] := ⟨_, rfl⟩
            rw [← hx] at ct HPu
            have HPn : Hid (p ≠ i + j) := Lib.hid hpj
            clear hx hpj hpt
            go_wp2_with (go_at_call 24; refine HPu.out.mono ?_; rintro e w3 ⟨rfl, hd3⟩; have HD3 := Lib.hid hd3; clear hd3)
            go_roundg (gk - 1)
            case measure => have := HP.out; have := HPn.out; omega
            case rel => exact ⟨p + 1, by go_num, ⟨by have := HP.out; have := HPn.out; omega⟩, ⟨HD3.out⟩⟩
      · go_wp2_with fail
        go_loopg [9] m (fun gq v9 w' => ∃ p : Nat, v9 = .int .i64 p ∧ Aside0 (p + gq = m + i ∧ p ≤ m) ∧ Aside0 (DiffAt wb w' b1 r5 b2 (heads src tgt) src tgt p))
        case atStart => exact ⟨i, rfl, ⟨by omega, by omega⟩, ⟨HD2.out⟩⟩
        case round =>
          obtain ⟨p, rfl, HP, HDp⟩ := hrel
          have hpb : p ≤ 1000000 := by have := HP.out.2; omega
          by_cases hpm : p = m
          · have HQ : Hid (DiffAt wb wr b1 r5 b2 (heads src tgt) src tgt (m + 1)) := Lib.hid (by
              obtain ⟨r1, r2, ops, ib, h1, h2, h3, h4, h5⟩ := HDp.out
              refine ⟨r1, r2, ops, ib, h1, h2, ?_, h4, h5⟩
              rw [h3, List.take_of_length_le (by have := HN.out.2; omega), List.take_of_length_le (by have := HN.out.2; omega)])
            subst hpm
            have y1 : decide (p < p) = false := by simp
            go_wp2_with fail
            go_roundg 0
            case measure => have := HA.out; omega
            case rel => exact ⟨p + 1, by go_num, ⟨by omega⟩, ⟨HQ.out⟩⟩
          · have hpl : p < m := by have := HP.out.2; omega
            have y1 : decide (p < m) = true := by simpa using hpl
            have hpt : p < tgt.length := by have := HN.out.2; omega
            have ct := HCell.out wr p HDp.out hpt
            have HPu := Lib.hid (HDp.out.push hpt HG.out.lt)
            obtain ⟨x, hx⟩ : ∃ x, x = tgt[p] := ⟨_, rfl⟩
            rw [← hx] at ct HPu
            clear hx hpm hpt
            go_wp2_with (go_at_call 24; refine HPu.out.mono ?_; rintro e w3 ⟨rfl, hd3⟩; have HD3 := Lib.hid hd3; clear hd3)
            go_roundg (gk - 1)
            case measure => have := HP.out; omega
            case rel => exact ⟨p + 1, by go_num, ⟨by have := HP.out; omega⟩, ⟨HD3.out⟩⟩
      · have z1 : ((j : Int) == 0) = false := by rw [beq_eq_false_iff_ne]; omega
        have z2 : decide (j = 0) = false := by simp; omega
        have z3 : decide ((j : Int) < 16) = false := decide_eq_false (by omega)
        have z4 : decide ((j : Int) < 0) = false := decide_eq_false (by omega)
        have z5 : ¬ ((j : Int) < 0) := by omega
        have hjb : j ≤ 1000000 := by have := HN.out.2; omega
        have hoob : oo ≤ 1000000 := by have := HN.out.1; omega
        have HFl := Lib.hid (HD2.out.flush HG.out.lt (by have := heads_len src tgt; omega) HBlt.out oo)
        have HS := Lib.hid (⟨ho, hj, hsame, j16⟩ : oo + j ≤ src.length ∧ i + j ≤ tgt.length ∧ (src.drop oo).take j = (tgt.drop i).take j ∧ 16 ≤ j)
        clear ho hj hsame
        go_wp2_with (go_at_call 25; refine HFl.out.mono ?_; rintro e w3 ⟨rfl, hm3⟩; have HM3 := Lib.hid hm3; clear hm3)
        go_loopg [13, 14] j (fun gq v13 v14 w' => ∃ t : Nat, v13 = .int .i64 (gq : Nat) ∧ v14 = .int .i64 ((oo + t : Nat) : Int) ∧ Aside0 (t + gq = j) ∧ Aside0 (MidAt wb w' b1 r5 b2 (heads src tgt) src tgt i oo t))
        case atStart => exact ⟨0, rfl, rfl, ⟨by omega⟩, ⟨HM3.out⟩⟩
        case round =>
          obtain ⟨t, rfl, rfl, HT, HM⟩ := hrel
          obtain ⟨a, ha⟩ : ∃ a, a = oo + t := ⟨_, rfl⟩
          have HAe := Lib.hid ha
          have hab : a ≤ 3000000 := by have := HT.out; omega
          rw [← ha]
          clear ha
          have hgb : gk ≤ 1000000 := by have := HT.out; omega
          by_cases hg0 : gk = 0
          · have HQ : Hid (DiffAt wb wr b1 r5 b2 (heads src tgt) src tgt (i + j)) := Lib.hid (mid_done HS.out.2.2.1 (by
              obtain ⟨r1, r2, ops, h1, h2, h3, h4, h5⟩ := HM.out
              have e : t = j := by have := HT.out; omega
              rw [e] at h3 h4
              refine ⟨r1, r2, ops, h1, h2, h3, ?_, h5⟩
              rcases h4 with ⟨h, _⟩ | ⟨_, h⟩
              · have := HS.out.2.2.2; omega
              · omega))
            subst hg0
            go_wp2_with fail
            go_roundg (m - (i + j))
            case measure => have := HA.out; omega
            case rel => exact ⟨i + j, by (congr 1; omega), ⟨by have := HN.out.2; have := HS.out; omega⟩, ⟨HQ.out⟩⟩
          · have y0 : decide (0 < gk) = true := by simp; omega
            have y0' : 0 < gk := by omega
            by_cases hsm : gk < 65536
            · have y1 : decide ((gk : Int) < 65536) = true := decide_eq_true (by omega)
              have HEn := Lib.hid (packfile_encodeCopyOperation.calls 9 a gk (copyBytes a gk) wr (encodeCopy a gk (by omega) (by omega)))
              clear hg0
              go_wp2_with (go_at_call 26; refine HEn.out.mono ?_; rintro e w4 ⟨v4, rfl, hR4, hb4⟩; obtain ⟨A4, c4, rfl, hl4, hr4, ha4⟩ := R_rd hR4; have HR4 := Lib.hid (⟨hr4, ha4, hb4⟩ : Rd w4 A4 (copyBytes a gk).length (copyBytes a gk) ∧ (∀ x, A4 = some x → wr.heap.size ≤ x.block) ∧ Below wr.heap.size wr w4); clear hR4 hl4 hr4 ha4 hb4; refine Hid.out ?_)
              have HCo := Lib.hid ((HM.out.below HR4.out.2.2).copy gk c4 A4 (by rw [← HAe.out]; exact HR4.out.1) (fun x hx => by
                have h1 := HR4.out.2.1 x hx
                obtain ⟨r1, r2, ops, h2, _⟩ := HM.out
                have := h2.B1.lt
                omega) (by omega) (by omega) (by have := HT.out; have := HS.out.1; omega) HG.out.lt HG.out.ls (by have := heads_len src tgt; omega) (.inr (by have := HT.out; have := HS.out.2.2.2; omega)))
              rw [← HAe.out] at HCo
              refine Lib.hid ?_
              go_wp2_with (go_at_call 20; refine HCo.out.mono ?_; rintro e w5' ⟨rfl, hc5⟩; have HQ : Hid (DiffAt wb w5' b1 r5 b2 (heads src tgt) src tgt (i + j)) := Lib.hid (mid_done HS.out.2.2.1 (by obtain ⟨r1, r2, ops, h1, h2, h3, h4, h5, h6⟩ := hc5; rw [HT.out] at h3; exact ⟨r1, r2, ops, h1, h2, h3, h4, h6⟩)); clear hc5)
              go_roundg (m - (i + j))
              case measure => have := HA.out; omega
              case rel => exact ⟨i + j, i64_eq (by omega), ⟨by have := HN.out.2; have := HS.out; omega⟩, ⟨HQ.out⟩⟩
            · have y1 : decide ((gk : Int) < 65536) = false := decide_eq_false (by omega)
              have HEn := Lib.hid (packfile_encodeCopyOperation.calls 9 a 65536 (copyBytes a 65536) wr (encodeCopy a 65536 (by omega) (by omega)))
              have hbig : 65536 ≤ gk := by omega
              clear hg0 hsm
              go_wp2_with (go_at_call 26; refine HEn.out.mono ?_; rintro e w4 ⟨v4, rfl, hR4, hb4⟩; obtain ⟨A4, c4, rfl, hl4, hr4, ha4⟩ := R_rd hR4; have HR4 := Lib.hid (⟨hr4, ha4, hb4⟩ : Rd w4 A4 (copyBytes a 65536).length (copyBytes a 65536) ∧ (∀ x, A4 = some x → wr.heap.size ≤ x.block) ∧ Below wr.heap.size wr w4); clear hR4 hl4 hr4 ha4 hb4; refine Hid.out ?_)
              have HCo := Lib.hid ((HM.out.below HR4.out.2.2).copy 65536 c4 A4 (by rw [← HAe.out]; exact HR4.out.1) (fun x hx => by
                have h1 := HR4.out.2.1 x hx
                obtain ⟨r1, r2, ops, h2, _⟩ := HM.out
                have := h2.B1.lt
                omega) (by omega) (by omega) (by have := HT.out; have := HS.out.1; omega) HG.out.lt HG.out.ls (by have := heads_len src tgt; omega) (.inl (by omega)))
              rw [← HAe.out] at HCo
              refine Lib.hid ?_
              go_wp2_with (go_at_call 20; refine HCo.out.mono ?_; rintro e w5' ⟨rfl, hc5⟩; have HQ : Hid (MidAt wb w5' b1 r5 b2 (heads src tgt) src tgt i oo (t + 65536)) := Lib.hid (by obtain ⟨r1, r2, ops, h1, h2, h3, h4, h5, h6⟩ := hc5; exact ⟨r1, r2, ops, h1, h2, h3, .inr ⟨by omega, h5 (by omega)⟩, h6⟩); clear hc5)
              go_roundg (gk - 65536)
              case measure => omega
              case rel => exact ⟨t + 65536, i64_eq (by omega), i64_eq (by have := HAe.out; omega), ⟨by have := HT.out; omega⟩, ⟨HQ.out⟩⟩
    · have him2 : decide (i < m) = false := by simpa using him
      have HFl := Lib.hid (HD.out.flush HG.out.lt (by have := heads_len src tgt; omega) HBlt.out 0)
      have Hi : Hid (m ≤ i) := Lib.hid (by omega)
      clear him
      go_wp2_with (go_at_call 25; refine HFl.out.mono ?_; rintro e w3 ⟨rfl, hm3⟩; have HM3 := Lib.hid hm3; clear hm3; refine Hid.out ?_)
      obtain ⟨r1, r2, ops, hT, hg, hmk, hp, hr⟩ := HM3.out
      obtain ⟨D, hD⟩ : ∃ D, D = heads src tgt ++ encs ops := ⟨_, rfl⟩
      rw [← hD] at hT
      have HDel : Hid (IsDelta src tgt D ∧ D.length ≤ 10000000) := Lib.hid (by
        have e1 : makes src ops = tgt := by
          rw [hmk, List.take_of_length_le (by have := HN.out.2; have := Hi.out; omega)]
          simp
        have e2 : 127 * (encs ops).length ≤ 128 * tgt.length + 126 := by
          rw [e1] at hp
          omega
        refine ⟨⟨ops, hg, e1, hD, e2⟩, ?_⟩
        have := heads_len src tgt
        have := HG.out.lt
        rw [hD, List.length_append]
        omega)
      have HBy := Lib.hid (bytes_calls b1 r1 D (w3.alloc (.cells #[] 5)) (hT.B1.keep ((Keep.refl w3 (fun _ => False)).alloc _) (fun h => h) (fun h => h)))
      have HR3 := Lib.hid hr
      clear hT hg hmk hp hr hD
      refine Lib.hid ?_
      go_wp2_with (first
        | (go_at_call 17; refine HBy.out.mono ?_; rintro e w4 ⟨⟨A, cap, rfl, hlc, hR, hA⟩, k, hw4⟩; have HB4 : Hid (Below (w3.alloc (.cells #[] 5)).heap.size (w3.alloc (.cells #[] 5)) w4) := Lib.hid (by rw [hw4]; exact below_drewN _ _); have HO4 : Hid ((Kd.int .u8).R 5 w4 w3.heap.size (fun k => w3.heap.size ≤ k) (.slice (some ⟨w3.heap.size, 0, none⟩) 0 0) []) := Lib.hid (Kd.R_below (empty_R w3 (Nat.le_refl _)) HB4.out); have HC4 : Hid (Kd.C (Kd.int .u8) w4 A D.length D) := Lib.hid (by rw [hw4]; exact hR); have HBe : Hid (Below w3.heap.size w3 w4) := Lib.hid ((below_alloc (Below.refl _ _) _).trans (HB4.out.mono (by rw [alloc_size]; omega))); have HF4 : Hid (∀ k, w4.heap.size ≤ k → w3.heap.size ≤ k) := Lib.hid (fun k hk => Nat.le_trans HBe.out.size hk); have HL4 : Hid (D.length ≤ 10000000) := Lib.hid HDel.out.2; clear hlc hR hA hw4)
        | (at_builtin; refine Kd.R_append_rows (Kd.int .u8) (w0 := w3) w3.heap.size rfl (.tmp 123) (.tmp 125) 22 5 (.int .u8 0) 1 rfl Tryd.underlying22 PFnDeltaDiffRead.info5 rfl (by decide) (by omega) (.slice (some ⟨w3.heap.size, 0, none⟩) 0 0) [] D _ _ _ (fun k => w3.heap.size ≤ k) (fun _ => False) rfl rfl ?aO ?aR (fun _ _ h => h) (fun _ h => h.elim) ?aF ?aB ?aS ?aL ?_; (case aR => exact HC4.out); (case aO => exact HO4.out); (case aF => exact HF4.out); (case aB => exact HBe.out); (case aS => exact HBe.out.size); (case aL => have := HL4.out; simp; omega); rintro v5 w5' hr5 hb5 hg5 -; have HR5 := Lib.hid hr5; have HB5 := Lib.hid hb5; clear hr5 hb5 hg5))
      refine leaves_cons (f := 19) (args := #[.pointer (some ⟨b2, 0, none⟩)]) (by simp) (by simp [go_sem]) ?_
      refine (put_idle _ _).mono ?_
      rintro e u' w6' ⟨rfl, rfl, rfl⟩
      refine leaves_cons (f := 19) (args := #[.pointer (some ⟨b1, 0, none⟩)]) (by simp [settle]) (by simp [go_sem]) ?_
      refine (put_idle _ _).mono ?_
      rintro e u' w7' ⟨rfl, rfl, rfl⟩
      refine ⟨_, results_tmp rfl _ _ _, ?_⟩
      refine ⟨_, D, rfl, HDel.out.1, ?_, ?_⟩
      · have h1 := HR5.out
        rw [List.nil_append] at h1
        have h2 := HR3.out.2.2.size
        have h3 := HKw.out.size
        exact Kd.R_mono (Kd.R_lower h1 (by omega)) (fun _ _ => trivial)
      · have h1 := HF.out
        have h2 := Hb1.out
        exact (HKw.out.trans HR3.out.2.2 (fun k hk h => by have := h1 k h; omega)).trans (Keep.of_below HB5.out (fun k => k = ix)) (fun _ _ h => h)
end Go.Proofs.YtkknoionjppegaaDoor.Delta
