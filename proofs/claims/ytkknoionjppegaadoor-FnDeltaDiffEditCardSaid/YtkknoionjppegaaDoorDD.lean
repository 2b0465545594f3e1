/- A bytes.Buffer is written: its own block and its own row turn, nothing else. -/
import Derived.Test.YtkknoionjppegaaDoorDC
import Derived.Tactics2
import Derived.Laws.CopyRow
import Derived.Laws.IdiomCopy
namespace Go.Proofs.YtkknoionjppegaaDoor.Delta
open Go.RowKit Go.Proofs.YtkknoionjppegaaDoorW.PrintWords Go.Proofs.YtkknoionjppegaaDoorW.PrintLast Go.Proofs.YtkknoionjppegaaDoorW.PrintMore

theorem add_block (A : Addr) (k : Nat) : (A.add k).block = A.block := by unfold Addr.add; split <;> rfl
theorem Keep.cell {w w' : World} {F : Nat → Prop} (h : Keep w w' F) {a : Addr} {v : Value} (hc : w.cell? a = some v) (hF : ¬ F a.block) : w'.cell? a = some v :=
  (World.cell?_of_block (h.block a.block (World.block_lt_of_cell? w a hc) hF)).trans hc
theorem nums_one (k : IntKind) (xs : List Int) : ∀ v ∈ nums k xs, v.oneCell' = true := by
  intro v hv
  obtain ⟨x, -, rfl⟩ := List.mem_map.1 hv
  rfl
/-- The buffer at block b holds the bytes l, in row r (in none: r is b). -/
def Bf (w : World) (b r : Nat) (l : List Int) : Prop :=
  ∃ v lr, w.heap[b]? = some (.cells #[v, .int .i64 0, .int .i8 lr] 50 (0, 0)) ∧
    ((v = .slice none 0 0 ∧ l = [] ∧ r = b) ∨ ∃ cap cur, v = .slice (some ⟨r, 0, none⟩) l.length cap ∧ r ≠ b ∧ w.heap[r]? = some (.cells cur 5 (0, 0)) ∧ l.length ≤ cap ∧ cap ≤ maxLen ∧ cur.size = cap ∧ cur.toList.take l.length = nums .u8 l)
theorem Bf.lt {w : World} {b r : Nat} {l : List Int} (h : Bf w b r l) : b < w.heap.size := by
  obtain ⟨v, lr, hb, _⟩ := h
  exact lt_of_block hb
theorem Bf.row_lt {w : World} {b r : Nat} {l : List Int} (h : Bf w b r l) : r < w.heap.size := by
  obtain ⟨v, lr, hb, ⟨_, _, rfl⟩ | ⟨cap, cur, _, _, hr, _⟩⟩ := h
  · exact lt_of_block hb
  · exact lt_of_block hr
theorem Bf.keep {w w' : World} {b r : Nat} {l : List Int} {F : Nat → Prop} (h : Bf w b r l) (k : Keep w w' F) (hb : ¬ F b) (hr : ¬ F r) : Bf w' b r l := by
  have hl := h.lt
  have hrl := h.row_lt
  obtain ⟨v, lr, hbk, ⟨h1, h2, h3⟩ | ⟨cap, cur, h1, h2, h3, h4⟩⟩ := h
  · exact ⟨v, lr, (k.block b hl hb).trans hbk, .inl ⟨h1, h2, h3⟩⟩
  · exact ⟨v, lr, (k.block b hl hb).trans hbk, .inr ⟨cap, cur, h1, h2, (k.block r hrl hr).trans h3, h4⟩⟩
theorem Bf.fresh (w : World) : Bf (w.alloc (.cells #[.slice none 0 0, .int .i64 0, .int .i8 0] 50)) w.heap.size w.heap.size [] := ⟨_, 0, heap_alloc_new w _, .inl ⟨rfl, rfl, rfl⟩⟩

/-- There is a place for n more. -/
def Ready (w W1 : World) (b r n : Nat) (l : List Int) : Prop :=
  ∃ N cap2 cells lr, (N = r ∨ w.heap.size ≤ N) ∧ N ≠ b ∧ l.length + n ≤ cap2 ∧ cap2 ≤ maxLen ∧ cells.size = cap2 ∧ cells.toList.take l.length = nums .u8 l ∧ W1.heap[N]? = some (.cells cells 5 (0, 0)) ∧ W1.heap[b]? = some (.cells #[.slice (some ⟨N, 0, none⟩) (l.length + n) cap2, .int .i64 0, .int .i8 lr] 50 (0, 0)) ∧ Keep w W1 (fun k => k = b)
theorem Grown.ready {w w1 W : World} {b r n : Nat} {lr : Int} {l : List Int} (h : Grown w1 W b l.length n lr (nums .u8 l)) (hk : Keep w w1 (fun k => k = b)) (hb : b < w.heap.size) : Ready w W b r n l := by
  obtain ⟨N, cap2, cells, h1, h2, h3, h4, h5, h6, h7, h8⟩ := h
  have := hk.size
  exact ⟨N, cap2, cells, lr, .inr (by omega), by omega, h2, h3, h4, h5, h6, h7, hk.trans h8 (fun _ _ h => h)⟩
theorem nums_length (k : IntKind) (xs : List Int) : (nums k xs).length = xs.length := by simp [nums]
theorem nums_append' (k : IntKind) (xs ys : List Int) : nums k (xs ++ ys) = nums k xs ++ nums k ys := by simp [nums]

/-- grow, at a buffer that has no room. -/
theorem grow_calls (b r n : Nat) (l : List Int) (w : World) (ao : Option Addr) (len cap : Nat) (h : Bf w b r l) (c0 : w.cell? ⟨b, 0, none⟩ = some (.slice ao len cap)) (hno : cap - len < n) (hlim : l.length + n ≤ 140737488355328) :
    Calls Tryd.prog 36 #[.pointer (some ⟨b, 0, none⟩), .int .i64 n] w fun e w' => e = .returned (.int .i64 l.length) ∧ ∃ lr, Grown w w' b l.length n lr (nums .u8 l) := by
  obtain ⟨v, lr, hbk, ⟨rfl, rfl, rfl⟩ | ⟨cap', cur, rfl, hrb, hr, hlc, hcm, hcs, htk⟩⟩ := h
  · by_cases h64 : n ≤ 64
    · exact (grow_small r n lr w hbk (by omega) h64).mono fun e w' ⟨he, hg⟩ => ⟨he, lr, hg⟩
    · exact (grow_big r n lr w hbk (by omega) (by simpa using hlim)).mono fun e w' ⟨he, hg⟩ => ⟨he, lr, hg⟩
  · have e0 := cell_of hbk 0 (u := .slice (some ⟨r, 0, none⟩) l.length cap') rfl
    rw [e0] at c0
    cases c0
    by_cases hl : l = []
    · subst hl
      exact (grow_row0 b r _ n lr cur w hbk hr hcm hcs hrb (by simp at hno ⊢; omega) (by simpa using hno) (by simpa using hlim)).mono fun e w' ⟨he, hg⟩ => ⟨he, lr, hg⟩
    · have hl0 : 0 < l.length := List.length_pos_iff.2 hl
      have := grow_row b r l.length _ n lr cur w hl0 hbk hr hlc hcm hcs hrb (by rw [htk]; exact nums_one _ _) (by omega) hno hlim
      rw [htk] at this
      exact this.mono fun e w' ⟨he, hg⟩ => ⟨he, lr, hg⟩
theorem room_calls (b r n : Nat) (l : List Int) (w : World) (cap : Nat) (h : Bf w b r l) (c0 : w.cell? ⟨b, 0, none⟩ = some (.slice (some ⟨r, 0, none⟩) l.length cap)) (hn : n ≤ cap - l.length) :
    Calls Tryd.prog 35 #[.pointer (some ⟨b, 0, none⟩), .int .i64 n] w fun e w' => e = .returned (.tuple #[.int .i64 l.length, .bool true]) ∧ Ready w w' b r n l := by
  obtain ⟨v, lr, hbk, ⟨rfl, rfl, rfl⟩ | ⟨cap', cur, rfl, hrb, hr, hlc, hcm, hcs, htk⟩⟩ := h
  · have e0 := cell_of hbk 0 (u := .slice none 0 0) rfl
    rw [e0] at c0
    cases c0
  · have e0 := cell_of hbk 0 (u := .slice (some ⟨r, 0, none⟩) l.length cap') rfl
    rw [e0] at c0
    cases c0
    refine (Tryd.Buffer_tryGrow_room b _ l.length cap n w e0 (frozen_of hbk 0) hlc hcm hn).mono ?_
    rintro e w' ⟨rfl, rfl⟩
    refine ⟨rfl, r, cap, cur, lr, .inl rfl, hrb, by omega, hcm, hcs, htk, ?_, Lib.heap_setCell_same (i := 0) hbk _, (Keep.refl w (fun k => k = b)).setCell (a := ⟨b, 0, none⟩) (.inl rfl) _⟩
    rw [Below.heap_setCell _ _ _ _ hrb]
    exact hr
theorem none_calls (b r n : Nat) (l : List Int) (w : World) (ao : Option Addr) (len cap : Nat) (h : Bf w b r l) (c0 : w.cell? ⟨b, 0, none⟩ = some (.slice ao len cap)) (hno : cap - len < n) :
    Calls Tryd.prog 35 #[.pointer (some ⟨b, 0, none⟩), .int .i64 n] w fun e w' => e = .returned (.tuple #[.int .i64 0, .bool false]) ∧ w = w' := by
  have hb : len ≤ cap ∧ cap ≤ maxLen := by
    obtain ⟨v, lr, hbk, ⟨rfl, rfl, rfl⟩ | ⟨cap', cur, rfl, hrb, hr, hlc, hcm, hcs, htk⟩⟩ := h
    · have e0 := cell_of hbk 0 (u := .slice none 0 0) rfl
      rw [e0] at c0
      cases c0
      exact ⟨Nat.le_refl _, Nat.zero_le _⟩
    · have e0 := cell_of hbk 0 (u := .slice (some ⟨r, 0, none⟩) l.length cap') rfl
      rw [e0] at c0
      cases c0
      exact ⟨hlc, hcm⟩
  exact (Tryd.Buffer_tryGrow_none b ao len cap n w c0 hb.1 hb.2 hno).mono fun e w' ⟨h1, h2⟩ => ⟨h1, h2.symm⟩
theorem Bf.set2 {w : World} {b r : Nat} {l : List Int} (h : Bf w b r l) (x : Int) : Bf (w.setCell ⟨b, 2, none⟩ (.int .i8 x)) b r l := by
  obtain ⟨v, lr, hbk, ⟨h1, h2, h3⟩ | ⟨cap, cur, h1, h2, h3, h4⟩⟩ := h
  · exact ⟨v, x, Lib.heap_setCell_same (i := 2) hbk _, .inl ⟨h1, h2, h3⟩⟩
  · exact ⟨v, x, Lib.heap_setCell_same (i := 2) hbk _, .inr ⟨cap, cur, h1, h2, by rw [Below.heap_setCell _ _ _ _ h2]; exact h3, h4⟩⟩
theorem Bf.c2 {w : World} {b r : Nat} {l : List Int} (h : Bf w b r l) : (∃ lr, w.cell? ⟨b, 2, none⟩ = some (.int .i8 lr)) ∧ ∀ i, w.frozen? ⟨b, i, none⟩ = false := by
  obtain ⟨v, lr, hbk, _⟩ := h
  exact ⟨⟨lr, cell_of hbk 2 rfl⟩, frozen_of hbk⟩
theorem Bf.head {w : World} {b r : Nat} {l : List Int} (h : Bf w b r l) : (w.cell? ⟨b, 0, none⟩ = some (.slice none 0 0) ∧ l = [] ∧ r = b) ∨ ∃ cap, w.cell? ⟨b, 0, none⟩ = some (.slice (some ⟨r, 0, none⟩) l.length cap) ∧ r ≠ b ∧ l.length ≤ cap ∧ cap ≤ maxLen := by
  obtain ⟨v, lr, hbk, ⟨rfl, h2, h3⟩ | ⟨cap, cur, rfl, h2, h3, h4, h5, _⟩⟩ := h
  · exact .inl ⟨cell_of hbk 0 rfl, h2, h3⟩
  · exact .inr ⟨cap, cell_of hbk 0 rfl, h2, h4, h5⟩

/-- The bytes cs are copied to the place that is ready. -/
theorem Ready.copied {w W1 : World} {b r n : Nat} {l cs : List Int} {N cap2 : Nat} {cells : Array Value} {lr : Int} (hN : N = r ∨ w.heap.size ≤ N) (hNb : N ≠ b) (hc : l.length + n ≤ cap2) (hcm : cap2 ≤ maxLen) (hsz : cells.size = cap2) (htk : cells.toList.take l.length = nums .u8 l) (hrow : W1.heap[N]? = some (.cells cells 5 (0, 0))) (hb : W1.heap[b]? = some (.cells #[.slice (some ⟨N, 0, none⟩) (l.length + n) cap2, .int .i64 0, .int .i8 lr] 50 (0, 0))) (hk : Keep w W1 (fun k => k = b)) (hn : cs.length = n) :
    ∃ r', (r' = r ∨ w.heap.size ≤ r') ∧ Bf (W1.setRow N (cells.toList.take l.length ++ nums .u8 cs ++ cells.toList.drop (l.length + n)).toArray) b r' (l ++ cs) ∧ Keep w (W1.setRow N (cells.toList.take l.length ++ nums .u8 cs ++ cells.toList.drop (l.length + n)).toArray) (fun k => k = b ∨ k = r) := by
  have hlen : (cells.toList.take l.length ++ nums .u8 cs ++ cells.toList.drop (l.length + n)).length = cap2 := by
    have e : cells.toList.length = cap2 := by simpa using hsz
    rw [List.length_append, List.length_append, nums_length, hn, List.length_take, List.length_drop, e]
    omega
  refine ⟨N, hN, ⟨_, lr, (setRow_other W1 N b _ (fun e => hNb e.symm)).trans hb, .inr ⟨cap2, _, ?_, hNb, setRow_heap _ N _ _ 5 (0, 0) hrow, ?_, hcm, ?_, ?_⟩⟩, Keep.setRow (F := fun k => k = b ∨ k = r) (hk.mono (fun _ h => Or.inl h)) (hN.elim (fun e => Or.inl (Or.inr e)) Or.inr) _⟩
  · rw [List.length_append, hn]
  · rw [List.length_append, hn]; exact hc
  · simpa using hlen
  · rw [htk, ← nums_append', List.length_append, hn]
    exact List.take_left' (by rw [nums_length, List.length_append, hn])

theorem size5 : (Tryd.prog.info? 5).map (·.size) = some 1 := by kernel_rfl
set_option maxHeartbeats 6400000 in
set_option maxRecDepth 100000 in
/-- Write at no byte. -/
theorem write_none (b r : Nat) (l : List Int) (ao : Option Addr) (c : Nat) (w : World) (h : Bf w b r l) :
    Calls Tryd.prog 20 #[.pointer (some ⟨b, 0, none⟩), .slice ao 0 c] w fun e w' => e = .returned (.tuple #[.int .i64 0, .nilIface]) ∧ Bf w' b r l ∧ Keep w w' (fun k => k = b) := by
  obtain ⟨⟨lr, c2⟩, fr⟩ := h.c2
  have f2 := fr 2
  clear fr
  have H0 := Lib.hid h
  have H2 := Lib.hid (h.set2 0)
  have HK := Lib.hid ((Keep.refl w (fun k => k = b)).setCell (a := ⟨b, 2, none⟩) (.inl rfl) (.int .i8 0))
  have hce : ∀ d dLen dCap W, (Builtin.copy_ #[22, 22] 3 #[.slice d dLen dCap, .slice ao 0 c]).run Tryd.prog W = .ok (goInt 0) W := fun d dLen dCap W => run_copy_none W 22 22 3 5 d ao dLen dCap 0 c Tryd.underlying22 size5 (by simp)
  obtain ⟨v, lr0, hbk, hv⟩ := h.set2 0
  have g0 := cell_of hbk 0 (u := v) rfl
  have gf := frozen_of hbk 0
  have HB := Lib.hid hbk
  clear h hbk
  rcases hv with ⟨rfl, rfl, rfl⟩ | ⟨cap, cur, rfl, hrb, hr, hlc, hcm, hcs, htk⟩
  · have HT := Lib.hid (Tryd.Buffer_tryGrow_room r none 0 0 0 _ g0 gf (Nat.le_refl _) (Nat.zero_le _) (Nat.le_refl _))
    clear g0 gf
    go_enter Tryd.func20, Tryd.ntmps20
    go_wp2_with (go_at_call 35; refine HT.out.mono ?_; rintro e w1 ⟨rfl, hw1⟩; have HW1 := Lib.hid hw1; have d0 : w1.cell? ⟨r, 0, none⟩ = some (.slice none 0 0) := (by rw [hw1]; exact cell_of (Lib.heap_setCell_same (i := 0) HB.out (.slice none (0 + 0) 0)) 0 rfl); clear hw1)
    go_ret2
    refine ⟨rfl, ?_, ?_⟩
    · rw [HW1.out]
      exact ⟨_, lr0, Lib.heap_setCell_same (i := 0) HB.out _, .inl ⟨rfl, rfl, rfl⟩⟩
    · rw [HW1.out]
      exact HK.out.setCell (a := ⟨r, 0, none⟩) (.inl rfl) _
  · have HT := Lib.hid (Tryd.Buffer_tryGrow_room b _ l.length cap 0 _ g0 gf hlc hcm (Nat.zero_le _))
    have HR := Lib.hid hr
    have HS := Lib.hid (And.intro hcs htk)
    have hcm' := hcm
    unfold maxLen at hcm'
    clear g0 gf hr hcs htk
    go_enter Tryd.func20, Tryd.ntmps20
    go_wp2_with (go_at_call 35; refine HT.out.mono ?_; rintro e w1 ⟨rfl, hw1⟩; have HW1 := Lib.hid hw1; have d0 : w1.cell? ⟨b, 0, none⟩ = some (.slice (some ⟨r, 0, none⟩) l.length cap) := (by rw [hw1]; exact cell_of (Lib.heap_setCell_same (i := 0) HB.out (.slice (some ⟨r, 0, none⟩) (l.length + 0) cap)) 0 rfl); clear hw1)
    all_goals
      go_ret2
      refine ⟨rfl, ?_, ?_⟩
      · rw [HW1.out]
        exact ⟨_, lr0, Lib.heap_setCell_same (i := 0) HB.out _, .inr ⟨cap, cur, rfl, hrb, by rw [Below.heap_setCell _ _ _ _ hrb]; exact HR.out, hlc, hcm, HS.out⟩⟩
      · rw [HW1.out]
        exact HK.out.setCell (a := ⟨b, 0, none⟩) (.inl rfl) _

set_option maxHeartbeats 6400000 in
set_option maxRecDepth 100000 in
/-- Write at one byte or more. -/
theorem write_some (b r : Nat) (l cs : List Int) (A : Addr) (n c : Nat) (w : World) (h : Bf w b r l) (hn0 : 0 < n) (hn : cs.length = n) (hab : A.block ≠ b) (hsrc : ∀ j v, (nums .u8 cs)[j]? = some v → w.cell? (A.add j) = some v) (hlim : l.length + n ≤ 140737488355328) :
    Calls Tryd.prog 20 #[.pointer (some ⟨b, 0, none⟩), .slice (some A) n c] w fun e w' => e = .returned (.tuple #[.int .i64 n, .nilIface]) ∧ ∃ r', (r' = r ∨ w.heap.size ≤ r') ∧ Bf w' b r' (l ++ cs) ∧ Keep w w' (fun k => k = b ∨ k = r) := by
  obtain ⟨⟨lr, c2⟩, fr⟩ := h.c2
  have f2 := fr 2
  clear fr
  have hbl := h.lt
  have HK := Lib.hid ((Keep.refl w (fun k => k = b)).setCell (a := ⟨b, 2, none⟩) (.inl rfl) (.int .i8 0))
  have H2 := Lib.hid (h.set2 0)
  have HF := Lib.hid (⟨hn, hab, hsrc, hlim, hbl⟩ : cs.length = n ∧ A.block ≠ b ∧ (∀ j v, (nums .u8 cs)[j]? = some v → w.cell? (A.add j) = some v) ∧ l.length + n ≤ 140737488355328 ∧ b < w.heap.size)
  have hn1 : n ≤ 140737488355328 := by omega
  have hlL : l.length ≤ 140737488355328 := by omega
  obtain ⟨L, hL⟩ : ∃ L, L = l.length := ⟨_, rfl⟩
  have HL := Lib.hid hL
  have fin : ∀ W1 : World, Ready w W1 b r n l → ∃ (N cap2 : Nat) (C : Array Value), W1.cell? ⟨b, 0, none⟩ = some (.slice (some ⟨N, 0, none⟩) (L + n) cap2) ∧ L + n ≤ cap2 ∧ cap2 ≤ 9223372036854775807 ∧ (Builtin.copy_ #[22, 22] 3 #[.slice (some ⟨N, L, none⟩) n (cap2 - L), .slice (some A) n c]).run Tryd.prog W1 = .ok (goInt n) (W1.setRow N C) ∧ Hid (∃ r', (r' = r ∨ w.heap.size ≤ r') ∧ Bf (W1.setRow N C) b r' (l ++ cs) ∧ Keep w (W1.setRow N C) (fun k => k = b ∨ k = r)) := by
    rintro W1 ⟨N, cap2, cells, lr1, hN, hNb, hc, hcm, hsz, htk, hrow, hb1, hk1⟩
    have hcp := run_copy_row (P := Tryd.prog) W1 22 22 3 5 N l.length n (cap2 - l.length) A n c cells 5 (nums .u8 cs) Tryd.underlying22 size5 hrow (by rw [nums_length, hn]; exact (Nat.min_self n).symm) (fun j v hj => hk1.cell (hsrc j v hj) (by rw [add_block]; exact hab)) (by rw [nums_length, hn]; omega) (nums_one _ _)
    rw [nums_length, hn] at hcp
    have hcm' := hcm
    unfold maxLen at hcm'
    subst hL
    exact ⟨N, cap2, _, cell_of hb1 0 rfl, hc, hcm', hcp, Lib.hid (Ready.copied hN hNb hc hcm hsz htk hrow hb1 hk1 hn)⟩
  have FIN := Lib.hid fin
  have hh := (h.set2 0).head
  clear fin hn hab hsrc hlim hbl
  by_cases hroom : ∃ cap, (w.setCell ⟨b, 2, none⟩ (.int .i8 0)).cell? ⟨b, 0, none⟩ = some (.slice (some ⟨r, 0, none⟩) l.length cap) ∧ n ≤ cap - l.length
  · obtain ⟨cap, g0, hle⟩ := hroom
    have HT := Lib.hid (room_calls b r n l _ cap H2.out g0 hle)
    rw [← hL] at HT
    clear g0 hle hh h hL
    go_enter Tryd.func20, Tryd.ntmps20
    go_wp2_with (go_at_call 35; refine HT.out.mono ?_; rintro e W1 ⟨rfl, hrd⟩; obtain ⟨N, cap2, C, d0, hc1, hc2, hcp, HE⟩ := FIN.out W1 (by obtain ⟨N, cap2, cells, lr1, hN, hNb, hc, hcm, hsz, htk, hrow, hb1, hk1⟩ := hrd; exact ⟨N, cap2, cells, lr1, hN.elim Or.inl (fun h => Or.inr (Nat.le_trans HK.out.size h)), hNb, hc, hcm, hsz, htk, hrow, hb1, HK.out.trans hk1 (fun _ _ h => h)⟩); have hne : ¬ cap2 = L := (by omega); clear hrd)
    go_ret2
    exact ⟨rfl, HE.out⟩
  · obtain ⟨ao, len, cap, g0, hno⟩ : ∃ ao len cap, (w.setCell ⟨b, 2, none⟩ (.int .i8 0)).cell? ⟨b, 0, none⟩ = some (.slice ao len cap) ∧ cap - len < n := by
      rcases hh with ⟨g0, h2, _⟩ | ⟨cap, g0, _⟩
      · exact ⟨none, 0, 0, g0, by omega⟩
      · exact ⟨_, _, cap, g0, Nat.lt_of_not_le fun hh => hroom ⟨cap, g0, hh⟩⟩
    have HT := Lib.hid (none_calls b r n l _ ao len cap H2.out g0 hno)
    have HG := Lib.hid (grow_calls b r n l _ ao len cap H2.out g0 hno HF.out.2.2.2.1)
    rw [← hL] at HG
    clear g0 hno hh h hL hroom
    go_enter Tryd.func20, Tryd.ntmps20
    go_wp2_with (first
      | (go_at_call 35; refine HT.out.mono ?_; rintro e W1 ⟨rfl, rfl⟩)
      | (go_at_call 36; refine HG.out.mono ?_; rintro e W1 ⟨rfl, lr1, hgr⟩; obtain ⟨N, cap2, C, d0, hc1, hc2, hcp, HE⟩ := FIN.out W1 (Grown.ready (by rw [← HL.out]; exact hgr) HK.out HF.out.2.2.2.2); have hne : ¬ cap2 = L := (by omega); clear hgr))
    go_ret2
    exact ⟨rfl, HE.out⟩
end Go.Proofs.YtkknoionjppegaaDoor.Delta
