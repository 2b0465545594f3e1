/- SHA-1: the sum. -/
import Derived.Test.YtllikhbafaohgaaGreatDoorIB
import Derived.Deep.RegionHeld3
namespace Go.Proofs.YtllikhbafaohgaaGreatDoor.Idx
open Go.RowKit Go.Proofs.YtllikhbafaohgaaGreatDoorW.PrintWords Go.Proofs.YtllikhbafaohgaaGreatDoorW.PrintLast Go.Proofs.YtllikhbafaohgaaGreatDoorW.PrintMore Go.Proofs.YtllikhbafaohgaaGreatDoor.PFnIdxSum
set_option linter.unusedVariables false
set_option linter.unusedSimpArgs false

theorem empty_R {base : Nat} (w : World) (hb : base ≤ w.heap.size) : (Kd.int .u8).R 5 (w.alloc (.cells #[] 5)) base (fun _ => True) (.slice (some ⟨w.heap.size, 0, none⟩) 0 0) [] :=
  Kd.R_of_own (World.ownsRow_made w #[] 0 hb (by decide) rfl) (fun _ _ => trivial)
theorem size_le_alloc (w : World) (o : Obj) : w.heap.size ≤ (w.alloc o).heap.size := by show w.heap.size ≤ (w.heap.push o).size; simp
theorem q_C {w : World} {base n c : Nat} {A : Option Addr} {xs : List Int} (h : QRow w base 5 1 (.slice A n c) n (nums .u8 xs)) (hn : xs.length = n) (hl : n ≤ 1000000000) : Kd.C (Kd.int .u8) w A n xs := by
  refine ⟨hn, by omega, fun hp => ?_⟩
  obtain ⟨ad, hA, hc⟩ := q_cells h hp
  refine ⟨ad, hA, fun j x hx => ⟨[.int .u8 x], rfl, rfl, fun i u hu => ?_⟩⟩
  have hi : i = 0 := by
    have := (List.getElem?_eq_some_iff.1 hu).1
    simpa using this
  subst hi
  obtain rfl : u = .int .u8 x := by simpa using hu.symm
  have e : j * (Kd.int .u8).sz + 0 = j := by show j * 1 + 0 = j; omega
  rw [e]
  exact hc j _ (by unfold nums; rw [List.getElem?_map, hx]; rfl)
theorem push_byte {ops : Array Oper} {rest : List Oper} {o : Oper} {a : Act} {Q' : Exit → Act → World → Prop} {W : World} (hgd : o.guard = none) (s x : Operand) (base : Nat)
    (ho : o.op = .call { callee := .builtin .append, args := #[s, x], argTypes := #[24, 24] }) (v : Value) (xs : List Int) (b : Int) (hs : a.eval s = v) (hx : a.eval x = .slice (some ⟨W.heap.size, 0, none⟩) 1 1)
    (HO : QRow W base 5 1 v xs.length (nums .u8 xs)) (hbase : base ≤ W.heap.size) (hl : xs.length ≤ 140737488355327)
    (h : ∀ A1 c1 n1 w1, n1 = (xs ++ [b]).length → QRow w1 base 5 1 (.slice A1 n1 c1) n1 (nums .u8 (xs ++ [b])) → W.grownBy w1 v.ownBlock → wpList Tryz.prog ops Q' rest (a.put o.dst (.slice A1 n1 c1)) w1) :
    wpList Tryz.prog ops Q' (o :: rest) a (W.alloc (.cells #[.int .u8 b] 5)) := by
  refine append_bytes hgd s x base ho v xs [b] ⟨W.heap.size, 0, none⟩ 1 1 hs hx (q_move HO (fun k hk => Below.heap_alloc W _ k (q_lt HO k hk))) (fun j u hu => ?_) rfl (by omega) (Nat.le_trans hbase (size_le_alloc _ _)) (by omega) ?_
  · rw [add_off, Nat.zero_add]
    have hj : j = 0 := by
      have := (List.getElem?_eq_some_iff.1 hu).1
      simpa [nums] using this
    subst hj
    exact cell_of (heap_alloc_new W _) 0 hu
  · intro v1 w1 h1 h2 _
    obtain ⟨A1, c1, hv, _⟩ := q_slice h1
    subst hv
    exact h A1 c1 _ w1 rfl h1 (World.grownBy.trans (World.grownBy_alloc W _ _) h2)
theorem push4 {ops : Array Oper} {rest : List Oper} {o : Oper} {a : Act} {Q' : Exit → Act → World → Prop} {W : World} (hgd : o.guard = none) (s x : Operand) (base : Nat)
    (ho : o.op = .call { callee := .builtin .append, args := #[s, x], argTypes := #[24, 24] }) (v : Value) (xs : List Int) (b0 b1 b2 b3 : Int) (hs : a.eval s = v) (hx : a.eval x = .slice (some ⟨W.heap.size, 0, none⟩) 4 4)
    (HO : QRow W base 5 1 v xs.length (nums .u8 xs)) (hbase : base ≤ W.heap.size) (hl : xs.length ≤ 140737488355300)
    (h : ∀ A1 c1 n1 w1, n1 = (xs ++ [b0, b1, b2, b3]).length → QRow w1 base 5 1 (.slice A1 n1 c1) n1 (nums .u8 (xs ++ [b0, b1, b2, b3])) → W.grownBy w1 v.ownBlock → wpList Tryz.prog ops Q' rest (a.put o.dst (.slice A1 n1 c1)) w1) :
    wpList Tryz.prog ops Q' (o :: rest) a (W.alloc (.cells #[.int .u8 b0, .int .u8 b1, .int .u8 b2, .int .u8 b3] 5)) := by
  refine append_bytes hgd s x base ho v xs [b0, b1, b2, b3] ⟨W.heap.size, 0, none⟩ 4 4 hs hx (q_move HO (fun k hk => Below.heap_alloc W _ k (q_lt HO k hk))) (fun j u hu => ?_) rfl (by omega) (Nat.le_trans hbase (size_le_alloc _ _)) (by omega) ?_
  · rw [add_off, Nat.zero_add]
    exact cell_of (heap_alloc_new W _) j (by rw [List.getElem?_toArray]; exact hu)
  · intro v1 w1 h1 h2 _
    obtain ⟨A1, c1, hv, _⟩ := q_slice h1
    subst hv
    exact h A1 c1 _ w1 rfl h1 (World.grownBy.trans (World.grownBy_alloc W _ _) h2)
theorem q_nil (w : World) (base : Nat) : QRow w base 5 1 (.slice none 0 0) 0 (nums .u8 []) := ⟨rfl, .inl ⟨rfl, none, rfl, fun a h => by cases h⟩⟩
/-- The sum's own hash at block E, under way. -/
structure EndAt (w0 w : World) (E : Nat) (s : S5) (v lv : Value) (L : List Int) : Prop where
  blk : shaB w E s v lv
  row : QRow w w0.heap.size 5 1 v L.length (nums .u8 L)
  below : Below w0.heap.size w0 w
  le : w0.heap.size ≤ E
theorem EndAt.ne {w0 w : World} {E : Nat} {s : S5} {v lv : Value} {L : List Int} (h : EndAt w0 w E s v lv L) : ∀ k, v.ownBlock = some k → k ≠ E := fun k hk e => by
  obtain ⟨_, c, hc⟩ := q_typed h.row k hk
  subst e
  have := h.blk
  unfold shaB at this
  rw [hc] at this
  cases this
theorem EndAt.set {w0 w w1 : World} {E : Nat} {s : S5} {v v1 lv : Value} {L L1 : List Int} (h : EndAt w0 w E s v lv L) (hg : w.grownBy w1 v.ownBlock) (hr : QRow w1 w0.heap.size 5 1 v1 L1.length (nums .u8 L1)) : EndAt w0 (w1.setCell ⟨E, 5, none⟩ v1) E s v1 lv L1 := by
  have hb : shaB w1 E s v lv := (hg.block E (lt_of_block h.blk) (fun e => h.ne E e.symm rfl)).trans h.blk
  have hne : ∀ k, v1.ownBlock = some k → k ≠ E := fun k hk e => by
    obtain ⟨_, c, hc⟩ := q_typed hr k hk
    subst e
    unfold shaB at hb
    rw [hc] at hb
    cases hb
  refine ⟨set_block hb 5 v1, q_move hr (fun k hk => Below.heap_setCell w1 ⟨E, 5, none⟩ v1 k (hne k hk)), ?_, h.le⟩
  have hb2 : Below w0.heap.size w0 w1 := h.below.grown hg (Nat.le_of_lt (Nat.lt_of_le_of_lt h.le (lt_of_block h.blk))) (fun k hk => (q_typed h.row k hk).1)
  exact ⟨hb2.os, hb2.tape, hb2.output, by simpa [World.setCell] using hb2.size, fun k hk => (Below.heap_setCell w1 ⟨E, 5, none⟩ v1 k (by show k ≠ E; have := h.le; omega)).trans (hb2.block k hk)⟩
theorem EndAt.stepped {w0 w w4 : World} {E : Nat} {s s' : S5} {v lv : Value} {L : List Int} (h : EndAt w0 w E s v lv L) (hb : shaB w4 E s' v lv) (hk : Keep w w4 (fun k => k = E)) : EndAt w0 w4 E s' v lv L :=
  ⟨hb, q_move h.row (fun k hk2 => hk.block k (q_lt h.row k hk2) (h.ne k hk2)), ⟨hk.os.trans h.below.os, hk.tape.trans h.below.tape, hk.output.trans h.below.output, Nat.le_trans h.below.size hk.size, fun k hk2 => (hk.block k (Nat.lt_of_lt_of_le hk2 h.below.size) (by have := h.le; omega)).trans (h.below.block k hk2)⟩, h.le⟩
theorem grown_refl (w : World) (r : Option Nat) : w.grownBy w r := ⟨rfl, rfl, rfl, Nat.le_refl _, fun _ _ _ => rfl⟩
/-- The five words, in four bytes each. -/
def be4 (x : Int) : List Int := [x / 16777216 % 256, x / 65536 % 256, x / 256 % 256, x % 256]
def digestOf (s : S5) : List Int := be4 s.a ++ be4 s.b ++ be4 s.c ++ be4 s.d ++ be4 s.e
def len8 (bits : Int) : List Int := [bits / 72057594037927936, bits / 281474976710656, bits / 1099511627776, bits / 4294967296, bits / 16777216 % 256, bits / 65536 % 256, bits / 256 % 256, bits % 256]
/-- The last blocks: what is left, the mark, zeros, the length in bits. -/
def padOf (R : List Int) (n : Nat) : List Int := (R ++ [128]) ++ List.replicate ((120 - (R ++ [128]).length % 64) % 64) 0 ++ len8 ((n : Int) * 8)
theorem five_at0 (a b c d e : Int) (W : World) : (Instr.index 59 (.agg #[.int .u32 a, .int .u32 b, .int .u32 c, .int .u32 d, .int .u32 e]) (.int .i64 0)).run Tryz.prog W = .ok (.int .u32 a) W := by kernel_rfl
theorem five_at1 (a b c d e : Int) (W : World) : (Instr.index 59 (.agg #[.int .u32 a, .int .u32 b, .int .u32 c, .int .u32 d, .int .u32 e]) (.int .i64 1)).run Tryz.prog W = .ok (.int .u32 b) W := by kernel_rfl
theorem five_at2 (a b c d e : Int) (W : World) : (Instr.index 59 (.agg #[.int .u32 a, .int .u32 b, .int .u32 c, .int .u32 d, .int .u32 e]) (.int .i64 2)).run Tryz.prog W = .ok (.int .u32 c) W := by kernel_rfl
theorem five_at3 (a b c d e : Int) (W : World) : (Instr.index 59 (.agg #[.int .u32 a, .int .u32 b, .int .u32 c, .int .u32 d, .int .u32 e]) (.int .i64 3)).run Tryz.prog W = .ok (.int .u32 d) W := by kernel_rfl
theorem five_at4 (a b c d e : Int) (W : World) : (Instr.index 59 (.agg #[.int .u32 a, .int .u32 b, .int .u32 c, .int .u32 d, .int .u32 e]) (.int .i64 4)).run Tryz.prog W = .ok (.int .u32 e) W := by kernel_rfl
set_option maxHeartbeats 8000000 in
set_option maxRecDepth 100000 in
theorem hashSum_calls {w : World} {N h : Nat} {A : Option Addr} {n c : Nat} {D : List Int} (hH : HashAt w N h (.slice A n c) D) (hl : D.length ≤ 1000000000) :
    Calls Tryz.prog 150 #[.pointer (some ⟨h, 0, none⟩), .slice none 0 0] w fun e w' => ∃ v, e = .returned v ∧ QRow w' w.heap.size 5 1 v 20 (nums .u8 (digestOf (shaRun ((padOf (restOf D) D.length).length / 64) (shaOf D) (padOf (restOf D) D.length)))) ∧ Below w.heap.size w w' := by
  have HH := Aside0.mk hH
  obtain ⟨s, hs⟩ : ∃ s, s = shaOf D := ⟨_, rfl⟩
  have hblk := hH.blk
  rw [← hs] at hblk
  have c0 : w.cell? ⟨h, 0, none⟩ = some (.int .u32 s.a) := cell_of hblk 0 rfl
  have c1 : w.cell? ⟨h, 1, none⟩ = some (.int .u32 s.b) := cell_of hblk 1 rfl
  have c2 : w.cell? ⟨h, 2, none⟩ = some (.int .u32 s.c) := cell_of hblk 2 rfl
  have c3 : w.cell? ⟨h, 3, none⟩ = some (.int .u32 s.d) := cell_of hblk 3 rfl
  have c4 : w.cell? ⟨h, 4, none⟩ = some (.int .u32 s.e) := cell_of hblk 4 rfl
  have c5 : w.cell? ⟨h, 5, none⟩ = some (.slice A n c) := cell_of hblk 5 rfl
  have c6 : w.cell? ⟨h, 6, none⟩ = some (.int .u64 D.length) := cell_of hblk 6 rfl
  have hn : n = (restOf D).length := by obtain ⟨_, _, e, _⟩ := q_slice hH.row; cases e; rfl
  have hnl : n ≤ 1000000000 := by rw [hn]; unfold restOf; rw [List.length_drop]; omega
  have HN := Aside0.mk hn
  have HO1 : Aside0 (Kd.R (Kd.int .u8) 5 (w.alloc (.cells #[] 5)).drew w.heap.size (fun _ => True) (.slice (some ⟨w.heap.size, 0, none⟩) 0 0) []) := ⟨Kd.R_drew (empty_R w (Nat.le_refl _))⟩
  have HB1 : Aside0 (Below w.heap.size w (w.alloc (.cells #[] 5)).drew) := ⟨(below_alloc (Below.refl _ _) _).drew⟩
  have HC1 : Aside0 (Kd.C (Kd.int .u8) (w.alloc (.cells #[] 5)).drew A n (restOf D)) := ⟨Kd.C_below (q_C (by rw [hn]; rw [hn] at hH; exact hH.row) hn.symm hnl) HB1.out⟩
  have HL : Aside0 ((([] : List Int).length + n) * 1 ≤ 140737488355328) := ⟨by simp; omega⟩
  have HKp : Aside0 (∀ W, Below w.heap.size w W → (W.cell? ⟨h, 0, none⟩ = some (.int .u32 s.a) ∧ W.cell? ⟨h, 1, none⟩ = some (.int .u32 s.b) ∧ W.cell? ⟨h, 2, none⟩ = some (.int .u32 s.c) ∧ W.cell? ⟨h, 3, none⟩ = some (.int .u32 s.d) ∧ W.cell? ⟨h, 4, none⟩ = some (.int .u32 s.e) ∧ W.cell? ⟨h, 5, none⟩ = some (.slice A n c) ∧ W.cell? ⟨h, 6, none⟩ = some (.int .u64 D.length))) := ⟨fun W hB => by
    have g : ∀ {a : Addr} {v : Value}, w.cell? a = some v → W.cell? a = some v := fun hc => (hB.cell (World.block_lt_of_cell? w _ hc)).trans hc
    exact ⟨g c0, g c1, g c2, g c3, g c4, g c5, g c6⟩⟩
  have HSs := Aside0.mk hs
  clear hH hblk hs hn
  go_enter Tryz.func150, Tryz.ntmps150
  go_wp2_with fail
  go_region_held3 (fun w' => w'.cell? ⟨h, 0, none⟩ = some (.int .u32 s.a) ∧ w'.cell? ⟨h, 1, none⟩ = some (.int .u32 s.b) ∧ w'.cell? ⟨h, 2, none⟩ = some (.int .u32 s.c) ∧ w'.cell? ⟨h, 3, none⟩ = some (.int .u32 s.d) ∧ w'.cell? ⟨h, 4, none⟩ = some (.int .u32 s.e) ∧ w'.cell? ⟨h, 5, none⟩ = some (.slice A n c) ∧ w'.cell? ⟨h, 6, none⟩ = some (.int .u64 D.length)) (first | (exact HKp.out _ (Below.refl _ _)) | (exact HKp.out _ HB1.out) | (exact HKp.out _ HB2.out) | (exact HKp.out _ (below_alloc HB2.out _)) | (exact HKp.out _ ((below_alloc HB2.out _).drew)) | go_keep) ((refine Kd.R_append_rows_step (Kd.int .u8) (w0 := w) w.heap.size ?hw (.tmp 14) (.tmp 18) 24 5 (.int .u8 0) 1 ?ho Tryz.underlying24 info5 ?hz ?h0 ?hb0 (.slice (some ⟨w.heap.size, 0, none⟩) 0 0) [] (restOf D) A n c (fun _ => True) (fun _ => False) ?hs ?hx ?aO ?aR (fun _ _ h => h) (fun _ h => h.elim) (fun _ _ => trivial) ?aB ?aS ?aL ?_; (case hw => rfl); (case ho => rfl); (case hz => rfl); (case h0 => decide); (case hb0 => omega); (case hs => rfl); (case hx => rfl); (case aO => exact HO1.out); (case aR => exact HC1.out); (case aB => exact HB1.out); (case aS => exact HB1.out.size); (case aL => exact HL.out); rintro v2 w2 hr2 hb2 - -; obtain ⟨A2, cc2, hv2⟩ := Kd.R_slice hr2; rw [List.nil_append, ← HN.out] at hv2; subst hv2; rw [List.nil_append] at hr2; have HR2 := Aside0.mk hr2; have HB2 := Aside0.mk hb2; clear hr2 hb2))
  obtain ⟨E, hE⟩ : ∃ E, E = w2.heap.size := ⟨_, rfl⟩
  obtain ⟨W3, hW3⟩ : ∃ W3, W3 = w2.alloc (.cells #[.int .u32 s.a, .int .u32 s.b, .int .u32 s.c, .int .u32 s.d, .int .u32 s.e, .slice A2 n cc2, .int .u64 D.length] 93) := ⟨_, rfl⟩
  rw [← hW3, ← hE]
  have HE3 : Aside0 (EndAt w W3 E s (.slice A2 n cc2) (.int .u64 D.length) (restOf D)) := ⟨by
    rw [hW3, hE]
    refine ⟨heap_alloc_new w2 _, ?_, below_alloc HB2.out _, HB2.out.size⟩
    have := q_of_own (Kd.own_of_R HR2.out)
    exact q_move this (fun k hk => Below.heap_alloc w2 _ k (q_lt this k hk))⟩
  have HKp3 : Aside0 (∀ W, Below w.heap.size w W → W.cell? ⟨h, 6, none⟩ = some (.int .u64 D.length)) := ⟨fun W hB => (HKp.out W hB).2.2.2.2.2.2⟩
  have l6 : W3.cell? ⟨h, 6, none⟩ = some (.int .u64 D.length) := HKp3.out _ HE3.out.below
  have l5 : W3.cell? ⟨E, 5, none⟩ = some (.slice A2 n cc2) := cell_of HE3.out.blk 5 rfl
  have g5 : W3.frozen? ⟨E, 5, none⟩ = false := frozen_of HE3.out.blk 5
  clear hE hW3 c0 c1 c2 c3 c4 c5 c6 HO1 HB1 HC1 HL HR2 HB2 HKp
  go_wp2_with (at_builtin; refine Aside0.out ?_)
  refine Aside0.mk ?_
  obtain ⟨X, hX⟩ : ∃ X, X = restOf D ++ [128] := ⟨_, rfl⟩
  have HX := Aside0.mk hX
  have hXl : X.length ≤ 1000000001 := by rw [hX, List.length_append, ← HN.out]; simp; omega
  refine push_byte rfl (.tmp 35) (.tmp 36) w.heap.size rfl (.slice A2 n cc2) (restOf D) 128 rfl rfl HE3.out.row HE3.out.below.size (by rw [← HN.out]; omega) ?_
  intro A4 c4 n4 w4 hn4 hr4 hg4
  rw [← hX] at hn4 hr4
  have HE4 : Aside0 (EndAt w (w4.setCell ⟨E, 5, none⟩ (.slice A4 n4 c4)) E s (.slice A4 n4 c4) (.int .u64 D.length) X) := ⟨HE3.out.set hg4 (by rw [← hn4]; exact hr4)⟩
  have k5 : w4.cell? ⟨E, 5, none⟩ = some (.slice A2 n cc2) := (cell_of ((hg4.block E (lt_of_block HE3.out.blk) (fun e => HE3.out.ne E e.symm rfl)).trans HE3.out.blk) 5 rfl)
  have q5 : w4.frozen? ⟨E, 5, none⟩ = false := frozen_of ((hg4.block E (lt_of_block HE3.out.blk) (fun e => HE3.out.ne E e.symm rfl)).trans HE3.out.blk) 5
  have HN4 := Aside0.mk hn4
  clear hX hn4 hr4 hg4 l5 l6 g5
  go_wp2_with fail
  obtain ⟨W4, hW4⟩ : ∃ W4, W4 = w4.setCell ⟨E, 5, none⟩ (.slice A4 n4 c4) := ⟨_, rfl⟩
  rw [← hW4] at HE4 ⊢
  clear hW4 k5 q5
  obtain ⟨zp, hzp⟩ : ∃ zp, zp = (120 - X.length % 64) % 64 := ⟨_, rfl⟩
  have HZ := Aside0.mk hzp
  clear hzp
  go_loopg [] zp (fun kq w' => ∃ (z : Nat) (A' : Option Addr) (n' c' : Nat), kq + z = zp ∧ n' = X.length + z ∧ Aside0 (EndAt w w' E s (.slice A' n' c') (.int .u64 D.length) (X ++ List.replicate z 0)))
  case atStart => exact ⟨0, A4, n4, c4, rfl, HN4.out, ⟨by simpa using HE4.out⟩⟩
  case round =>
    obtain ⟨z, A', n', c', hgz, hn', HE'⟩ := hrel
    have HN' := Aside0.mk hn'
    have cc5 : wr.cell? ⟨E, 5, none⟩ = some (.slice A' n' c') := cell_of HE'.out.blk 5 rfl
    have ff5 : wr.frozen? ⟨E, 5, none⟩ = false := frozen_of HE'.out.blk 5
    have hn'l : n' ≤ 1000000065 := by have := HZ.out; omega
    rcases Nat.lt_or_ge z zp with hz | hz
    · have d1 : ((n' : Int) % 64 != 56) = true := by rw [bne_iff_ne]; have := HZ.out; omega
      clear hn'
      go_wp2_with (at_builtin; refine Aside0.out ?_)
      refine Aside0.mk ?_
      refine push_byte rfl (.tmp 51) (.tmp 52) w.heap.size rfl (.slice A' n' c') (X ++ List.replicate z 0) 0 rfl rfl HE'.out.row HE'.out.below.size (by rw [List.length_append, List.length_replicate]; have := HN'.out; omega) ?_
      intro A5 c5 n5 w5 hn5 hr5 hg5
      have hXz : X ++ List.replicate z 0 ++ [0] = X ++ List.replicate (z + 1) (0 : Int) := by rw [List.append_assoc, List.replicate_succ']
      rw [hXz] at hn5 hr5
      have HE5 : Aside0 (EndAt w (w5.setCell ⟨E, 5, none⟩ (.slice A5 n5 c5)) E s (.slice A5 n5 c5) (.int .u64 D.length) (X ++ List.replicate (z + 1) 0)) := ⟨HE'.out.set hg5 (by rw [← hn5]; exact hr5)⟩
      have hb5 := (hg5.block E (lt_of_block HE'.out.blk) (fun e => HE'.out.ne E e.symm rfl)).trans HE'.out.blk
      have k5 : w5.cell? ⟨E, 5, none⟩ = some (.slice A' n' c') := cell_of hb5 5 rfl
      have q5 : w5.frozen? ⟨E, 5, none⟩ = false := frozen_of hb5 5
      have HN5 := Aside0.mk hn5
      clear hn5 hr5 hg5 cc5 ff5 hXz hb5
      go_wp2_with fail
      go_roundg (gk - 1)
      case measure => omega
      case rel => exact ⟨z + 1, A5, n5, c5, by omega, by have := HN5.out; rw [List.length_append, List.length_replicate] at this; omega, HE5⟩
    · obtain rfl : z = zp := by omega
      have d1 : ((n' : Int) % 64 != 56) = false := by rw [bne_eq_false_iff_eq]; have := HZ.out; omega
      obtain ⟨Y, hY⟩ : ∃ Y, Y = X ++ List.replicate z 0 := ⟨_, rfl⟩
      have HY := Aside0.mk hY
      rw [← hY] at HE'
      have HYb : Aside0 (Y.length ≤ 1000000065) := ⟨by rw [hY, List.length_append, List.length_replicate]; have := HZ.out; omega⟩
      have HYl : Aside0 (n' = Y.length) := ⟨by rw [hY, List.length_append, List.length_replicate]; exact hn'⟩
      obtain ⟨bits, hbits⟩ : ∃ b : Int, b = (D.length : Int) * 8 := ⟨_, rfl⟩
      rw [← hbits]
      have hb0 : 0 ≤ bits := by omega
      have hb1 : bits ≤ 8000000000 := by omega
      have HBits := Aside0.mk hbits
      clear hn' hY hbits
      go_wp2_with fail
      go_loopg [7] 8 (fun kq v7 w' => ∃ (j : Nat) (A' : Option Addr) (n' c' : Nat), kq + j = 8 ∧ v7 = .int .i64 (56 - 8 * (j : Int)) ∧ n' = Y.length + j ∧ Aside0 (EndAt w w' E s (.slice A' n' c') (.int .u64 D.length) (Y ++ (len8 bits).take j)))
      case atStart => exact ⟨0, A', n', c', rfl, rfl, HYl.out, ⟨by simpa using HE'.out⟩⟩
      case round =>
        clear HE' HYl cc5 ff5 hgz HN'
        obtain ⟨j, A', n', c', hgz, rfl, hn', HE'⟩ := hrel
        have cc5 : wr.cell? ⟨E, 5, none⟩ = some (.slice A' n' c') := cell_of HE'.out.blk 5 rfl
        have ff5 : wr.frozen? ⟨E, 5, none⟩ = false := frozen_of HE'.out.blk 5
        have HN' := Aside0.mk hn'
        clear hn'
        obtain rfl | rfl | rfl | rfl | rfl | rfl | rfl | rfl | rfl : j = 0 ∨ j = 1 ∨ j = 2 ∨ j = 3 ∨ j = 4 ∨ j = 5 ∨ j = 6 ∨ j = 7 ∨ j = 8 := by omega
        · go_wp2_with (at_builtin; refine Aside0.out ?_)
          refine Aside0.mk ?_
          refine push_byte rfl (.tmp 64) (.tmp 70) w.heap.size rfl (.slice A' n' c') (Y ++ (len8 bits).take 0) (bits / 72057594037927936) rfl rfl HE'.out.row HE'.out.below.size (by rw [List.length_append, List.length_take]; have := HN'.out; have := HYb.out; omega) ?_
          intro A5 c5 n5 w5 hn5 hr5 hg5
          have hXz : Y ++ (len8 bits).take 0 ++ [bits / 72057594037927936] = Y ++ (len8 bits).take 1 := by rw [List.append_assoc]; rfl
          rw [hXz] at hn5 hr5
          have HE5 : Aside0 (EndAt w (w5.setCell ⟨E, 5, none⟩ (.slice A5 n5 c5)) E s (.slice A5 n5 c5) (.int .u64 D.length) (Y ++ (len8 bits).take 1)) := ⟨HE'.out.set hg5 (by rw [← hn5]; exact hr5)⟩
          have hb5 := (hg5.block E (lt_of_block HE'.out.blk) (fun e => HE'.out.ne E e.symm rfl)).trans HE'.out.blk
          have k5 : w5.cell? ⟨E, 5, none⟩ = some (.slice A' n' c') := cell_of hb5 5 rfl
          have q5 : w5.frozen? ⟨E, 5, none⟩ = false := frozen_of hb5 5
          have HN5 := Aside0.mk hn5
          clear hn5 hr5 hg5 cc5 ff5 hXz hb5
          go_wp2_with fail
          go_roundg 7
          case measure => omega
          case rel => exact ⟨1, A5, n5, c5, by omega, by first | rfl | go_num, by rw [HN5.out, List.length_append]; rfl, HE5⟩
        · go_wp2_with (at_builtin; refine Aside0.out ?_)
          refine Aside0.mk ?_
          refine push_byte rfl (.tmp 64) (.tmp 70) w.heap.size rfl (.slice A' n' c') (Y ++ (len8 bits).take 1) (bits / 281474976710656) rfl rfl HE'.out.row HE'.out.below.size (by rw [List.length_append, List.length_take]; have := HN'.out; have := HYb.out; omega) ?_
          intro A5 c5 n5 w5 hn5 hr5 hg5
          have hXz : Y ++ (len8 bits).take 1 ++ [bits / 281474976710656] = Y ++ (len8 bits).take 2 := by rw [List.append_assoc]; rfl
          rw [hXz] at hn5 hr5
          have HE5 : Aside0 (EndAt w (w5.setCell ⟨E, 5, none⟩ (.slice A5 n5 c5)) E s (.slice A5 n5 c5) (.int .u64 D.length) (Y ++ (len8 bits).take 2)) := ⟨HE'.out.set hg5 (by rw [← hn5]; exact hr5)⟩
          have hb5 := (hg5.block E (lt_of_block HE'.out.blk) (fun e => HE'.out.ne E e.symm rfl)).trans HE'.out.blk
          have k5 : w5.cell? ⟨E, 5, none⟩ = some (.slice A' n' c') := cell_of hb5 5 rfl
          have q5 : w5.frozen? ⟨E, 5, none⟩ = false := frozen_of hb5 5
          have HN5 := Aside0.mk hn5
          clear hn5 hr5 hg5 cc5 ff5 hXz hb5
          go_wp2_with fail
          go_roundg 6
          case measure => omega
          case rel => exact ⟨2, A5, n5, c5, by omega, by first | rfl | go_num, by rw [HN5.out, List.length_append]; rfl, HE5⟩
        · go_wp2_with (at_builtin; refine Aside0.out ?_)
          refine Aside0.mk ?_
          refine push_byte rfl (.tmp 64) (.tmp 70) w.heap.size rfl (.slice A' n' c') (Y ++ (len8 bits).take 2) (bits / 1099511627776) rfl rfl HE'.out.row HE'.out.below.size (by rw [List.length_append, List.length_take]; have := HN'.out; have := HYb.out; omega) ?_
          intro A5 c5 n5 w5 hn5 hr5 hg5
          have hXz : Y ++ (len8 bits).take 2 ++ [bits / 1099511627776] = Y ++ (len8 bits).take 3 := by rw [List.append_assoc]; rfl
          rw [hXz] at hn5 hr5
          have HE5 : Aside0 (EndAt w (w5.setCell ⟨E, 5, none⟩ (.slice A5 n5 c5)) E s (.slice A5 n5 c5) (.int .u64 D.length) (Y ++ (len8 bits).take 3)) := ⟨HE'.out.set hg5 (by rw [← hn5]; exact hr5)⟩
          have hb5 := (hg5.block E (lt_of_block HE'.out.blk) (fun e => HE'.out.ne E e.symm rfl)).trans HE'.out.blk
          have k5 : w5.cell? ⟨E, 5, none⟩ = some (.slice A' n' c') := cell_of hb5 5 rfl
          have q5 : w5.frozen? ⟨E, 5, none⟩ = false := frozen_of hb5 5
          have HN5 := Aside0.mk hn5
          clear hn5 hr5 hg5 cc5 ff5 hXz hb5
          go_wp2_with fail
          go_roundg 5
          case measure => omega
          case rel => exact ⟨3, A5, n5, c5, by omega, by first | rfl | go_num, by rw [HN5.out, List.length_append]; rfl, HE5⟩
        · go_wp2_with (at_builtin; refine Aside0.out ?_)
          refine Aside0.mk ?_
          refine push_byte rfl (.tmp 64) (.tmp 70) w.heap.size rfl (.slice A' n' c') (Y ++ (len8 bits).take 3) (bits / 4294967296) rfl rfl HE'.out.row HE'.out.below.size (by rw [List.length_append, List.length_take]; have := HN'.out; have := HYb.out; omega) ?_
          intro A5 c5 n5 w5 hn5 hr5 hg5
          have hXz : Y ++ (len8 bits).take 3 ++ [bits / 4294967296] = Y ++ (len8 bits).take 4 := by rw [List.append_assoc]; rfl
          rw [hXz] at hn5 hr5
          have HE5 : Aside0 (EndAt w (w5.setCell ⟨E, 5, none⟩ (.slice A5 n5 c5)) E s (.slice A5 n5 c5) (.int .u64 D.length) (Y ++ (len8 bits).take 4)) := ⟨HE'.out.set hg5 (by rw [← hn5]; exact hr5)⟩
          have hb5 := (hg5.block E (lt_of_block HE'.out.blk) (fun e => HE'.out.ne E e.symm rfl)).trans HE'.out.blk
          have k5 : w5.cell? ⟨E, 5, none⟩ = some (.slice A' n' c') := cell_of hb5 5 rfl
          have q5 : w5.frozen? ⟨E, 5, none⟩ = false := frozen_of hb5 5
          have HN5 := Aside0.mk hn5
          clear hn5 hr5 hg5 cc5 ff5 hXz hb5
          go_wp2_with fail
          go_roundg 4
          case measure => omega
          case rel => exact ⟨4, A5, n5, c5, by omega, by first | rfl | go_num, by rw [HN5.out, List.length_append]; rfl, HE5⟩
        · go_wp2_with (at_builtin; refine Aside0.out ?_)
          refine Aside0.mk ?_
          refine push_byte rfl (.tmp 64) (.tmp 70) w.heap.size rfl (.slice A' n' c') (Y ++ (len8 bits).take 4) (bits / 16777216 % 256) rfl rfl HE'.out.row HE'.out.below.size (by rw [List.length_append, List.length_take]; have := HN'.out; have := HYb.out; omega) ?_
          intro A5 c5 n5 w5 hn5 hr5 hg5
          have hXz : Y ++ (len8 bits).take 4 ++ [bits / 16777216 % 256] = Y ++ (len8 bits).take 5 := by rw [List.append_assoc]; rfl
          rw [hXz] at hn5 hr5
          have HE5 : Aside0 (EndAt w (w5.setCell ⟨E, 5, none⟩ (.slice A5 n5 c5)) E s (.slice A5 n5 c5) (.int .u64 D.length) (Y ++ (len8 bits).take 5)) := ⟨HE'.out.set hg5 (by rw [← hn5]; exact hr5)⟩
          have hb5 := (hg5.block E (lt_of_block HE'.out.blk) (fun e => HE'.out.ne E e.symm rfl)).trans HE'.out.blk
          have k5 : w5.cell? ⟨E, 5, none⟩ = some (.slice A' n' c') := cell_of hb5 5 rfl
          have q5 : w5.frozen? ⟨E, 5, none⟩ = false := frozen_of hb5 5
          have HN5 := Aside0.mk hn5
          clear hn5 hr5 hg5 cc5 ff5 hXz hb5
          go_wp2_with fail
          go_roundg 3
          case measure => omega
          case rel => exact ⟨5, A5, n5, c5, by omega, by first | rfl | go_num, by rw [HN5.out, List.length_append]; rfl, HE5⟩
        · go_wp2_with (at_builtin; refine Aside0.out ?_)
          refine Aside0.mk ?_
          refine push_byte rfl (.tmp 64) (.tmp 70) w.heap.size rfl (.slice A' n' c') (Y ++ (len8 bits).take 5) (bits / 65536 % 256) rfl rfl HE'.out.row HE'.out.below.size (by rw [List.length_append, List.length_take]; have := HN'.out; have := HYb.out; omega) ?_
          intro A5 c5 n5 w5 hn5 hr5 hg5
          have hXz : Y ++ (len8 bits).take 5 ++ [bits / 65536 % 256] = Y ++ (len8 bits).take 6 := by rw [List.append_assoc]; rfl
          rw [hXz] at hn5 hr5
          have HE5 : Aside0 (EndAt w (w5.setCell ⟨E, 5, none⟩ (.slice A5 n5 c5)) E s (.slice A5 n5 c5) (.int .u64 D.length) (Y ++ (len8 bits).take 6)) := ⟨HE'.out.set hg5 (by rw [← hn5]; exact hr5)⟩
          have hb5 := (hg5.block E (lt_of_block HE'.out.blk) (fun e => HE'.out.ne E e.symm rfl)).trans HE'.out.blk
          have k5 : w5.cell? ⟨E, 5, none⟩ = some (.slice A' n' c') := cell_of hb5 5 rfl
          have q5 : w5.frozen? ⟨E, 5, none⟩ = false := frozen_of hb5 5
          have HN5 := Aside0.mk hn5
          clear hn5 hr5 hg5 cc5 ff5 hXz hb5
          go_wp2_with fail
          go_roundg 2
          case measure => omega
          case rel => exact ⟨6, A5, n5, c5, by omega, by first | rfl | go_num, by rw [HN5.out, List.length_append]; rfl, HE5⟩
        · go_wp2_with (at_builtin; refine Aside0.out ?_)
          refine Aside0.mk ?_
          refine push_byte rfl (.tmp 64) (.tmp 70) w.heap.size rfl (.slice A' n' c') (Y ++ (len8 bits).take 6) (bits / 256 % 256) rfl rfl HE'.out.row HE'.out.below.size (by rw [List.length_append, List.length_take]; have := HN'.out; have := HYb.out; omega) ?_
          intro A5 c5 n5 w5 hn5 hr5 hg5
          have hXz : Y ++ (len8 bits).take 6 ++ [bits / 256 % 256] = Y ++ (len8 bits).take 7 := by rw [List.append_assoc]; rfl
          rw [hXz] at hn5 hr5
          have HE5 : Aside0 (EndAt w (w5.setCell ⟨E, 5, none⟩ (.slice A5 n5 c5)) E s (.slice A5 n5 c5) (.int .u64 D.length) (Y ++ (len8 bits).take 7)) := ⟨HE'.out.set hg5 (by rw [← hn5]; exact hr5)⟩
          have hb5 := (hg5.block E (lt_of_block HE'.out.blk) (fun e => HE'.out.ne E e.symm rfl)).trans HE'.out.blk
          have k5 : w5.cell? ⟨E, 5, none⟩ = some (.slice A' n' c') := cell_of hb5 5 rfl
          have q5 : w5.frozen? ⟨E, 5, none⟩ = false := frozen_of hb5 5
          have HN5 := Aside0.mk hn5
          clear hn5 hr5 hg5 cc5 ff5 hXz hb5
          go_wp2_with fail
          go_roundg 1
          case measure => omega
          case rel => exact ⟨7, A5, n5, c5, by omega, by first | rfl | go_num, by rw [HN5.out, List.length_append]; rfl, HE5⟩
        · go_wp2_with (at_builtin; refine Aside0.out ?_)
          refine Aside0.mk ?_
          refine push_byte rfl (.tmp 64) (.tmp 70) w.heap.size rfl (.slice A' n' c') (Y ++ (len8 bits).take 7) (bits % 256) rfl rfl HE'.out.row HE'.out.below.size (by rw [List.length_append, List.length_take]; have := HN'.out; have := HYb.out; omega) ?_
          intro A5 c5 n5 w5 hn5 hr5 hg5
          have hXz : Y ++ (len8 bits).take 7 ++ [bits % 256] = Y ++ (len8 bits).take 8 := by rw [List.append_assoc]; rfl
          rw [hXz] at hn5 hr5
          have HE5 : Aside0 (EndAt w (w5.setCell ⟨E, 5, none⟩ (.slice A5 n5 c5)) E s (.slice A5 n5 c5) (.int .u64 D.length) (Y ++ (len8 bits).take 8)) := ⟨HE'.out.set hg5 (by rw [← hn5]; exact hr5)⟩
          have hb5 := (hg5.block E (lt_of_block HE'.out.blk) (fun e => HE'.out.ne E e.symm rfl)).trans HE'.out.blk
          have k5 : w5.cell? ⟨E, 5, none⟩ = some (.slice A' n' c') := cell_of hb5 5 rfl
          have q5 : w5.frozen? ⟨E, 5, none⟩ = false := frozen_of hb5 5
          have HN5 := Aside0.mk hn5
          clear hn5 hr5 hg5 cc5 ff5 hXz hb5
          go_wp2_with fail
          go_roundg 0
          case measure => omega
          case rel => exact ⟨8, A5, n5, c5, by omega, by first | rfl | go_num, by rw [HN5.out, List.length_append]; rfl, HE5⟩
        · obtain ⟨P, hP⟩ : ∃ P, P = Y ++ len8 bits := ⟨_, rfl⟩
          have HP : Aside0 (P = padOf (restOf D) D.length) := ⟨by rw [hP, HY.out, HX.out, HBits.out]; unfold padOf; rw [← HX.out, ← HZ.out]⟩
          have HE8 : Aside0 (EndAt w wr E s (.slice A' n' c') (.int .u64 D.length) P) := ⟨by rw [hP]; exact HE'.out⟩
          have HP0 := Aside0.mk hP
          clear hP HE'
          have HPl : Aside0 (P.length % 64 = 0 ∧ P.length ≤ 1000000100 ∧ n' = P.length) := ⟨by
            have h1 := HZ.out
            have h2 := HN'.out
            have h3 : P.length = Y.length + 8 := by rw [HP0.out, List.length_append]; rfl
            have h4 : Y.length = X.length + z := by rw [HY.out, List.length_append, List.length_replicate]
            have h5 := HYb.out
            refine ⟨by omega, by omega, by omega⟩⟩
          have hP64 : P.length / 64 * 64 = P.length := by have := HPl.out.1; omega
          clear HN'
          go_wp2_with fail
          go_loopg [] (P.length / 64) (fun kq w' => ∃ (k : Nat) (A' : Option Addr) (n' c' : Nat), kq + k = P.length / 64 ∧ n' + 64 * k = P.length ∧ Aside0 (EndAt w w' E (shaRun k s P) (.slice A' n' c') (.int .u64 D.length) (P.drop (64 * k))))
          case atStart => exact ⟨0, A', n', c', rfl, by have := HPl.out.2.2; omega, HE8⟩
          case round =>
            clear HE8 cc5 ff5
            obtain ⟨k, A', n', c', hgk, hn', HE'⟩ := hrel
            have cc5 : wr.cell? ⟨E, 5, none⟩ = some (.slice A' n' c') := cell_of HE'.out.blk 5 rfl
            have ff5 : wr.frozen? ⟨E, 5, none⟩ = false := frozen_of HE'.out.blk 5
            have hnl' : n' ≤ 1000000100 := by have := HPl.out.2.1; omega
            have hrow : QRow wr w.heap.size 5 1 (.slice A' n' c') n' (nums .u8 (P.drop (64 * k))) := by
              have := HE'.out.row
              rwa [List.length_drop, show P.length - 64 * k = n' by omega] at this
            have HRow := Aside0.mk hrow
            rcases Nat.lt_or_ge n' 64 with h64 | h64
            · have d1 : decide (64 ≤ n') = false := decide_eq_false (by omega)
              have d1' : decide ((64 : Int) ≤ (n' : Int)) = false := decide_eq_false (by omega)
              have hk : k = P.length / 64 := by omega
              obtain ⟨t, ht⟩ : ∃ t, t = shaRun k s P := ⟨_, rfl⟩
              rw [← ht] at HE'
              have HTt : Aside0 (t = shaRun (P.length / 64) s P) := ⟨by rw [ht, hk]⟩
              have x0 : wr.cell? ⟨E, 0, none⟩ = some (.int .u32 t.a) := cell_of HE'.out.blk 0 rfl
              have x1 : wr.cell? ⟨E, 1, none⟩ = some (.int .u32 t.b) := cell_of HE'.out.blk 1 rfl
              have x2 : wr.cell? ⟨E, 2, none⟩ = some (.int .u32 t.c) := cell_of HE'.out.blk 2 rfl
              have x3 : wr.cell? ⟨E, 3, none⟩ = some (.int .u32 t.d) := cell_of HE'.out.blk 3 rfl
              have x4 : wr.cell? ⟨E, 4, none⟩ = some (.int .u32 t.e) := cell_of HE'.out.blk 4 rfl
              clear hrow hk ht hgk hn'
              have ix0 := five_at0 t.a t.b t.c t.d t.e
              have ix1 := five_at1 t.a t.b t.c t.d t.e
              have ix2 := five_at2 t.a t.b t.c t.d t.e
              have ix3 := five_at3 t.a t.b t.c t.d t.e
              have ix4 := five_at4 t.a t.b t.c t.d t.e
              have HBe : Aside0 (Below w.heap.size w wr) := ⟨HE'.out.below⟩
              clear HRow HE'
              go_wp2_with fail
              go_loopg [1, 9, 99] 5 (fun kq v1 v9 v99 w' => ∃ (j : Nat) (A1 : Option Addr) (n1 c1 : Nat), kq + j = 5 ∧ v99 = .int .i64 j ∧ v1 = .slice A1 n1 c1 ∧ n1 = 4 * j ∧ Aside0 (QRow w' w.heap.size 5 1 (.slice A1 n1 c1) ((digestOf t).take (4 * j)).length (nums .u8 ((digestOf t).take (4 * j)))) ∧ Aside0 (Below w.heap.size w w'))
              case atStart => exact ⟨0, none, 0, 0, rfl, rfl, rfl, rfl, ⟨q_nil _ _⟩, HBe⟩
              case round =>
                clear HBe x0 x1 x2 x3 x4
                obtain ⟨j, A1, n1, c1, hgj, rfl, rfl, hn1, HQ, HB⟩ := hrel
                have HN1 := Aside0.mk hn1
                clear hn1
                obtain rfl | rfl | rfl | rfl | rfl | rfl : j = 0 ∨ j = 1 ∨ j = 2 ∨ j = 3 ∨ j = 4 ∨ j = 5 := by omega
                · go_wp2_with (at_builtin; refine Aside0.out ?_)
                  refine Aside0.mk ?_
                  refine push4 rfl (.tmp 102) (.tmp 114) w.heap.size rfl (.slice A1 n1 c1) ((digestOf t).take (4 * 0)) (t.a / 16777216 % 256) (t.a / 65536 % 256) (t.a / 256 % 256) (t.a % 256) rfl rfl HQ.out HB.out.size (by rw [List.length_take]; omega) ?_
                  intro A5 c5 n5 w5 hn5 hr5 hg5
                  have HQ5 : Aside0 (QRow w5 w.heap.size 5 1 (.slice A5 n5 c5) ((digestOf t).take (4 * 1)).length (nums .u8 ((digestOf t).take (4 * 1)))) := ⟨by rw [hn5] at hr5 ⊢; exact hr5⟩
                  have HB5 : Aside0 (Below w.heap.size w w5) := ⟨HB.out.grown hg5 HB.out.size (fun k hk => (q_typed HQ.out k hk).1)⟩
                  have HN5 : Aside0 (n5 = 4 * 1) := ⟨hn5⟩
                  clear hn5 hr5 hg5
                  go_wp2_with fail
                  go_roundg 4
                  case measure => omega
                  case rel => exact ⟨1, A5, n5, c5, by omega, by first | rfl | go_num, rfl, HN5.out, HQ5, HB5⟩
                · go_wp2_with (at_builtin; refine Aside0.out ?_)
                  refine Aside0.mk ?_
                  refine push4 rfl (.tmp 102) (.tmp 114) w.heap.size rfl (.slice A1 n1 c1) ((digestOf t).take (4 * 1)) (t.b / 16777216 % 256) (t.b / 65536 % 256) (t.b / 256 % 256) (t.b % 256) rfl rfl HQ.out HB.out.size (by rw [List.length_take]; omega) ?_
                  intro A5 c5 n5 w5 hn5 hr5 hg5
                  have HQ5 : Aside0 (QRow w5 w.heap.size 5 1 (.slice A5 n5 c5) ((digestOf t).take (4 * 2)).length (nums .u8 ((digestOf t).take (4 * 2)))) := ⟨by rw [hn5] at hr5 ⊢; exact hr5⟩
                  have HB5 : Aside0 (Below w.heap.size w w5) := ⟨HB.out.grown hg5 HB.out.size (fun k hk => (q_typed HQ.out k hk).1)⟩
                  have HN5 : Aside0 (n5 = 4 * 2) := ⟨hn5⟩
                  clear hn5 hr5 hg5
                  go_wp2_with fail
                  go_roundg 3
                  case measure => omega
                  case rel => exact ⟨2, A5, n5, c5, by omega, by first | rfl | go_num, rfl, HN5.out, HQ5, HB5⟩
                · go_wp2_with (at_builtin; refine Aside0.out ?_)
                  refine Aside0.mk ?_
                  refine push4 rfl (.tmp 102) (.tmp 114) w.heap.size rfl (.slice A1 n1 c1) ((digestOf t).take (4 * 2)) (t.c / 16777216 % 256) (t.c / 65536 % 256) (t.c / 256 % 256) (t.c % 256) rfl rfl HQ.out HB.out.size (by rw [List.length_take]; omega) ?_
                  intro A5 c5 n5 w5 hn5 hr5 hg5
                  have HQ5 : Aside0 (QRow w5 w.heap.size 5 1 (.slice A5 n5 c5) ((digestOf t).take (4 * 3)).length (nums .u8 ((digestOf t).take (4 * 3)))) := ⟨by rw [hn5] at hr5 ⊢; exact hr5⟩
                  have HB5 : Aside0 (Below w.heap.size w w5) := ⟨HB.out.grown hg5 HB.out.size (fun k hk => (q_typed HQ.out k hk).1)⟩
                  have HN5 : Aside0 (n5 = 4 * 3) := ⟨hn5⟩
                  clear hn5 hr5 hg5
                  go_wp2_with fail
                  go_roundg 2
                  case measure => omega
                  case rel => exact ⟨3, A5, n5, c5, by omega, by first | rfl | go_num, rfl, HN5.out, HQ5, HB5⟩
                · go_wp2_with (at_builtin; refine Aside0.out ?_)
                  refine Aside0.mk ?_
                  refine push4 rfl (.tmp 102) (.tmp 114) w.heap.size rfl (.slice A1 n1 c1) ((digestOf t).take (4 * 3)) (t.d / 16777216 % 256) (t.d / 65536 % 256) (t.d / 256 % 256) (t.d % 256) rfl rfl HQ.out HB.out.size (by rw [List.length_take]; omega) ?_
                  intro A5 c5 n5 w5 hn5 hr5 hg5
                  have HQ5 : Aside0 (QRow w5 w.heap.size 5 1 (.slice A5 n5 c5) ((digestOf t).take (4 * 4)).length (nums .u8 ((digestOf t).take (4 * 4)))) := ⟨by rw [hn5] at hr5 ⊢; exact hr5⟩
                  have HB5 : Aside0 (Below w.heap.size w w5) := ⟨HB.out.grown hg5 HB.out.size (fun k hk => (q_typed HQ.out k hk).1)⟩
                  have HN5 : Aside0 (n5 = 4 * 4) := ⟨hn5⟩
                  clear hn5 hr5 hg5
                  go_wp2_with fail
                  go_roundg 1
                  case measure => omega
                  case rel => exact ⟨4, A5, n5, c5, by omega, by first | rfl | go_num, rfl, HN5.out, HQ5, HB5⟩
                · go_wp2_with (at_builtin; refine Aside0.out ?_)
                  refine Aside0.mk ?_
                  refine push4 rfl (.tmp 102) (.tmp 114) w.heap.size rfl (.slice A1 n1 c1) ((digestOf t).take (4 * 4)) (t.e / 16777216 % 256) (t.e / 65536 % 256) (t.e / 256 % 256) (t.e % 256) rfl rfl HQ.out HB.out.size (by rw [List.length_take]; omega) ?_
                  intro A5 c5 n5 w5 hn5 hr5 hg5
                  have HQ5 : Aside0 (QRow w5 w.heap.size 5 1 (.slice A5 n5 c5) ((digestOf t).take (4 * 5)).length (nums .u8 ((digestOf t).take (4 * 5)))) := ⟨by rw [hn5] at hr5 ⊢; exact hr5⟩
                  have HB5 : Aside0 (Below w.heap.size w w5) := ⟨HB.out.grown hg5 HB.out.size (fun k hk => (q_typed HQ.out k hk).1)⟩
                  have HN5 : Aside0 (n5 = 4 * 5) := ⟨hn5⟩
                  clear hn5 hr5 hg5
                  go_wp2_with fail
                  go_roundg 0
                  case measure => omega
                  case rel => exact ⟨5, A5, n5, c5, by omega, by first | rfl | go_num, rfl, HN5.out, HQ5, HB5⟩
                · go_wp2_with fail
                  go_ret
                  refine ⟨_, rfl, ?_, HB.out⟩
                  rw [← HP.out, ← HSs.out, ← HTt.out]
                  exact HQ.out
            · obtain ⟨ad, hA, hcell⟩ := q_cells hrow (by omega)
              subst hA
              obtain ⟨g, o, hgo⟩ : ∃ g o, ad = ⟨g, o, none⟩ := by
                rcases hrow.2 with ⟨h0, _⟩ | ⟨g, o, _, _, e, _⟩
                · omega
                · cases e; exact ⟨g, o * 1, rfl⟩
              subst hgo
              have hgw : g < wr.heap.size := q_lt hrow g rfl
              obtain ⟨t, ht⟩ : ∃ t, t = shaRun k s P := ⟨_, rfl⟩
              rw [← ht] at HE'
              have HSt := Aside0.mk (step_calls (w := wr) (h := E) (ab := g) (ao := o) (c := c') (p := (P.drop (64 * k)).take 64) (s0 := t.a) (s1 := t.b) (s2 := t.c) (s3 := t.d) (s4 := t.e) HE'.out.blk (fun j x hx => by
                  have hj := (List.getElem?_eq_some_iff.1 hx).1
                  rw [List.length_take] at hj
                  rw [List.getElem?_take_of_lt (by omega)] at hx
                  have := hcell j (.int .u8 x) (by unfold nums; rw [List.getElem?_map, hx]; rfl)
                  rwa [add_off] at this) (by rw [List.length_take, List.length_drop]; omega) hgw)
              have HSucc : Aside0 (sha1step t ((P.drop (64 * k)).take 64) = shaRun (k + 1) s P) := ⟨by rw [shaRun_succ, ht]⟩
              have d1 : decide (64 ≤ n') = true := decide_eq_true (by omega)
              have d1' : decide ((64 : Int) ≤ (n' : Int)) = true := decide_eq_true (by omega)
              have hnc : n' ≤ c' := by obtain ⟨_, _, e, h⟩ := q_slice hrow; cases e; exact h
              have hcut1 : ∀ W : World, (Instr.slice 24 (.slice (some ⟨g, o, none⟩) n' c') none (some (.int .i64 64)) none).run Tryz.prog W = .ok (.slice (some ⟨g, o, none⟩) 64 c') W := by
                obtain ⟨i0, hi, _, hsz, _⟩ := info_parts PFnIdxSum.info5
                exact cut_to (P := Tryz.prog) 24 5 .i64 Tryz.underlying24 hi (some ⟨g, o, none⟩) n' c' 64 (by omega) (by omega) hnc
              obtain ⟨A2, hA2⟩ : ∃ A2, A2 = (if c' = 64 then (some ⟨g, o, none⟩ : Option Addr) else (some ⟨g, o, none⟩ : Option Addr).map (·.add (64 * 1))) := ⟨_, rfl⟩
              obtain ⟨n2, hn2⟩ : ∃ n2, n2 = n' - 64 := ⟨_, rfl⟩
              obtain ⟨c2, hc2⟩ : ∃ c2, c2 = c' - 64 := ⟨_, rfl⟩
              have hcut2 : ∀ W : World, (Instr.slice 24 (.slice (some ⟨g, o, none⟩) n' c') (some (.int .i64 64)) none none).run Tryz.prog W = .ok (.slice A2 n2 c2) W := by
                obtain ⟨i0, hi, _, hsz, _⟩ := info_parts PFnIdxSum.info5
                rw [hA2, hn2, hc2]
                exact cut_from (P := Tryz.prog) 24 5 .i64 Tryz.underlying24 hi 1 hsz (some ⟨g, o, none⟩) n' c' 64 (by omega) (by omega)
              have HQ2 : Aside0 (∀ W, EndAt w W E (sha1step t ((P.drop (64 * k)).take 64)) (.slice (some ⟨g, o, none⟩) n' c') (.int .u64 D.length) (P.drop (64 * k)) → QRow W w.heap.size 5 1 (.slice A2 n2 c2) (P.drop (64 * (k + 1))).length (nums .u8 (P.drop (64 * (k + 1))))) := ⟨fun W hW => by
                have hr := hW.row
                rw [List.length_drop, show P.length - 64 * k = n' by omega] at hr
                have hq := q_drop (k := 64) hr h64
                rw [← hA2, ← hn2, ← hc2] at hq
                have e : (nums .u8 (P.drop (64 * k))).drop (64 * 1) = nums .u8 (P.drop (64 * (k + 1))) := by
                  unfold nums
                  rw [← List.map_drop, List.drop_drop, show 64 * k + 64 * 1 = 64 * (k + 1) by omega]
                rw [e] at hq
                rw [List.length_drop, show P.length - 64 * (k + 1) = n2 by omega]
                exact hq⟩
              have HEq : Aside0 (k < P.length / 64 ∧ n2 + 64 * (k + 1) = P.length) := ⟨⟨by omega, by omega⟩⟩
              clear hcell ht hA2 hn2 hc2 hrow
              go_wp2_with (go_at_call 152; refine HSt.out.mono ?_; rintro e w4 ⟨rfl, hb4, hk4⟩; have HE4' := Aside0.mk (HE'.out.stepped hb4 hk4); have cf5' : w4.cell? ⟨E, 5, none⟩ = some (.slice (some ⟨g, o, none⟩) n' c') := cell_of hb4 5 rfl; have f5' : w4.frozen? ⟨E, 5, none⟩ = false := frozen_of hb4 5; clear hb4 hk4)
              go_roundg (gk - 1)
              case measure => have := HEq.out.1; omega
              case rel => exact ⟨k + 1, A2, n2, c2, by have := HEq.out.1; omega, HEq.out.2, ⟨by
                  rw [← HSucc.out]
                  exact HE4'.out.set (grown_refl w4 _) (HQ2.out _ HE4'.out)⟩⟩
end Go.Proofs.YtllikhbafaohgaaGreatDoor.Idx
