/- SHA-1: one block. -/
import Derived.Test.YtllikhbafaohgaaGreatDoorPFnIdxSumx0
import Derived.Laws.CopyOwn
import Derived.Deep.Slices
import Derived.IntWalk
import Derived.StillTailTactics
namespace Go.Proofs.YtllikhbafaohgaaGreatDoor.Idx
open Go.RowKit Go.Proofs.YtllikhbafaohgaaGreatDoorW.PrintWords Go.Proofs.YtllikhbafaohgaaGreatDoorW.PrintLast Go.Proofs.YtllikhbafaohgaaGreatDoorW.PrintMore
set_option linter.unusedVariables false
set_option linter.unusedSimpArgs false

/-- Nothing but the blocks of F has turned. -/
structure Keep (w w' : World) (F : Nat → Prop) : Prop where
  os : w'.os = w.os
  tape : w'.tape = w.tape
  output : w'.output = w.output
  size : w.heap.size ≤ w'.heap.size
  block : ∀ k, k < w.heap.size → ¬ F k → w'.heap[k]? = w.heap[k]?
theorem Keep.of_below {w w' : World} (h : Below w.heap.size w w') (F : Nat → Prop) : Keep w w' F := ⟨h.os, h.tape, h.output, h.size, fun k hk _ => h.block k hk⟩
theorem Keep.refl (w : World) (F : Nat → Prop) : Keep w w F := ⟨rfl, rfl, rfl, Nat.le_refl _, fun _ _ _ => rfl⟩
theorem Keep.mono {w w' : World} {F G : Nat → Prop} (h : Keep w w' F) (hFG : ∀ k, F k → G k) : Keep w w' G := ⟨h.os, h.tape, h.output, h.size, fun k hk hn => h.block k hk (fun hf => hn (hFG k hf))⟩
theorem Keep.trans {w w1 w2 : World} {F G : Nat → Prop} (h : Keep w w1 F) (h' : Keep w1 w2 G) (hG : ∀ k, k < w.heap.size → G k → F k) : Keep w w2 F :=
  ⟨h'.os.trans h.os, h'.tape.trans h.tape, h'.output.trans h.output, Nat.le_trans h.size h'.size, fun k hk hn => (h'.block k (Nat.lt_of_lt_of_le hk h.size) (fun hg => hn (hG k hk hg))).trans (h.block k hk hn)⟩
theorem Keep.setCell {w w1 : World} {F : Nat → Prop} (h : Keep w w1 F) {a : Addr} (ha : F a.block ∨ w.heap.size ≤ a.block) (u : Value) : Keep w (w1.setCell a u) F :=
  ⟨h.os, h.tape, h.output, by simpa [World.setCell] using h.size, fun k hk hn => (Below.heap_setCell w1 a u k (by rintro rfl; rcases ha with h | h; exact hn h; omega)).trans (h.block k hk hn)⟩
theorem Keep.setRow {w w1 : World} {F : Nat → Prop} (h : Keep w w1 F) {g : Nat} (ha : F g ∨ w.heap.size ≤ g) (cs : Array Value) : Keep w (w1.setRow g cs) F :=
  ⟨h.os, h.tape, h.output, by simpa [World.setRow] using h.size, fun k hk hn => (setRow_other w1 g k cs (by rintro rfl; rcases ha with h | h; exact hn h; omega)).trans (h.block k hk hn)⟩
theorem Keep.drewN {w w1 : World} {F : Nat → Prop} (h : Keep w w1 F) (n : Nat) : Keep w (w1.drewN n) F := ⟨h.os, h.tape, h.output, h.size, h.block⟩

theorem cell_of {w : World} {g : Nat} {cs : Array Value} {t : TypeId} {fr : Nat × Nat} (h : w.heap[g]? = some (.cells cs t fr)) (i : Nat) {u : Value} (hu : cs[i]? = some u) : w.cell? ⟨g, i, none⟩ = some u := by simp [World.cell?, h, hu]
theorem frozen_of {w : World} {g : Nat} {cs : Array Value} {t : TypeId} (h : w.heap[g]? = some (.cells cs t (0, 0))) (i : Nat) : w.frozen? ⟨g, i, none⟩ = false := by simp [World.frozen?, h]
theorem set_block {w : World} {q : Nat} {cs : Array Value} {t : TypeId} (h : w.heap[q]? = some (.cells cs t (0, 0))) (j : Nat) (v : Value) : (w.setCell ⟨q, j, none⟩ v).heap[q]? = some (.cells (cs.setIfInBounds j v) t (0, 0)) := by
  rw [setCell_eq_setRow w q j cs t (0, 0) v h]
  exact setRow_heap w q cs _ t _ h
theorem set_other {w : World} {q k : Nat} (j : Nat) (v : Value) (hk : k ≠ q) {x : Option Obj} (h : w.heap[k]? = x) : (w.setCell ⟨q, j, none⟩ v).heap[k]? = x := (Below.heap_setCell w ⟨q, j, none⟩ v k hk).trans h
theorem Keep.cell {w w1 : World} {F : Nat → Prop} (h : Keep w w1 F) {a : Addr} {v : Value} (hc : w.cell? a = some v) (hF : ¬ F a.block) : w1.cell? a = some v :=
  (World.cell?_of_block (h.block a.block (World.block_lt_of_cell? w _ hc) hF)).trans hc
theorem add_off (b o j : Nat) : (⟨b, o, none⟩ : Addr).add j = ⟨b, o + j, none⟩ := by unfold Addr.add; split <;> simp_all
def u32s (l : List Int) : List Value := l.map (Value.int .u32)
def word4 (y0 y1 y2 y3 : Int) : Int := Go.bits .or .u32 (Go.bits .or .u32 (Go.bits .or .u32 (IntKind.u32.wrap (IntKind.u32.wrap y0 * 16777216)) (IntKind.u32.wrap (IntKind.u32.wrap y1 * 65536))) (IntKind.u32.wrap (IntKind.u32.wrap y2 * 256))) (IntKind.u32.wrap y3)
def word (p : List Int) (i : Nat) : Int := word4 (p.getD (4 * i) 0) (p.getD (4 * i + 1) 0) (p.getD (4 * i + 2) 0) (p.getD (4 * i + 3) 0)
def xor4 (a b c d : Int) : Int := Go.bits .xor .u32 (Go.bits .xor .u32 (Go.bits .xor .u32 a b) c) d
def rot1 (x : Int) : Int := Go.bits .or .u32 (x * 2 % 4294967296) (x / 2147483648)
def wNext (l : List Int) : Int := rot1 (xor4 (l.getD (l.length - 3) 0) (l.getD (l.length - 8) 0) (l.getD (l.length - 14) 0) (l.getD (l.length - 16) 0))
structure S5 where
  a : Int
  b : Int
  c : Int
  d : Int
  e : Int
def mix0 (b c d : Int) : Int := Go.bits .or .u32 (Go.bits .and .u32 b c) (Go.bits .and .u32 (Go.bits .xor .u32 IntKind.u32.max b) d)
def mix1 (b c d : Int) : Int := Go.bits .xor .u32 (Go.bits .xor .u32 b c) d
def mix2 (b c d : Int) : Int := Go.bits .or .u32 (Go.bits .or .u32 (Go.bits .and .u32 b c) (Go.bits .and .u32 b d)) (Go.bits .and .u32 c d)
def rnd1 (s : S5) (f k x : Int) : S5 := ⟨(Go.bits .or .u32 (s.a * 32 % 4294967296) (s.a / 134217728) + f + s.e + k + x) % 4294967296, s.a, Go.bits .or .u32 (s.b * 1073741824 % 4294967296) (s.b / 4), s.c, s.d⟩
def rnd (s : S5) (i : Nat) (x : Int) : S5 := if i < 20 then rnd1 s (mix0 s.b s.c s.d) 1518500249 x else if i < 40 then rnd1 s (mix1 s.b s.c s.d) 1859775393 x else if i < 60 then rnd1 s (mix2 s.b s.c s.d) 2400959708 x else rnd1 s (mix1 s.b s.c s.d) 3395469782 x
def rounds (ws : List Int) (s : S5) : Nat → S5
  | 0 => s
  | n + 1 => rnd (rounds ws s n) n (ws.getD n 0)
theorem lt_of_block {w : World} {k : Nat} {x : Obj} (h : w.heap[k]? = some x) : k < w.heap.size := (Array.getElem?_eq_some_iff.1 h).1
def wTab (p : List Int) : Nat → List Int
  | 0 => (List.range 16).map (word p)
  | n + 1 => wTab p n ++ [wNext (wTab p n)]
/-- One block more. -/
def sha1step (s : S5) (p : List Int) : S5 :=
  let r := rounds (wTab p 64) s 80
  ⟨(s.a + r.a) % 4294967296, (s.b + r.b) % 4294967296, (s.c + r.c) % 4294967296, (s.d + r.d) % 4294967296, (s.e + r.e) % 4294967296⟩
def shaB (w : World) (h : Nat) (s : S5) (bv lv : Value) : Prop := w.heap[h]? = some (.cells #[.int .u32 s.a, .int .u32 s.b, .int .u32 s.c, .int .u32 s.d, .int .u32 s.e, bv, lv] 93 (0, 0))
/-- The table under way: what is known, and zeros. -/
def Tabl (w : World) (B : Nat) (pre : List Int) : Prop := w.heap[B]? = some (.cells (u32s (pre ++ List.replicate (80 - pre.length) 0)).toArray 60 (0, 0))
theorem Tabl.get {w : World} {B : Nat} {pre : List Int} (h : Tabl w B pre) (i : Nat) (x : Int) (hx : pre[i]? = some x) : w.cell? ⟨B, i, none⟩ = some (.int .u32 x) :=
  cell_of h i (by
    rw [List.getElem?_toArray]
    unfold u32s
    rw [List.getElem?_map, List.getElem?_append_left (List.getElem?_eq_some_iff.1 hx).1, hx]
    rfl)
theorem Tabl.zero {w : World} {B : Nat} {pre : List Int} (h : Tabl w B pre) (hl : pre.length < 80) : w.cell? ⟨B, pre.length, none⟩ = some (.int .u32 0) :=
  cell_of h _ (by
    rw [List.getElem?_toArray]
    unfold u32s
    rw [List.getElem?_map, List.getElem?_append_right (Nat.le_refl _), Nat.sub_self]
    obtain ⟨m, hm⟩ : ∃ m, 80 - pre.length = m + 1 := ⟨79 - pre.length, by omega⟩
    rw [hm]
    rfl)
theorem Tabl.set {w : World} {B : Nat} {pre : List Int} (h : Tabl w B pre) (hl : pre.length < 80) (x : Int) : Tabl (w.setCell ⟨B, pre.length, none⟩ (.int .u32 x)) B (pre ++ [x]) := by
  have := set_block h pre.length (.int .u32 x)
  unfold Tabl
  rw [this]
  congr 2
  apply Array.ext'
  rw [Array.toList_setIfInBounds]
  obtain ⟨m, hm⟩ : ∃ m, 80 - pre.length = m + 1 := ⟨79 - pre.length, by omega⟩
  have hm2 : 80 - (pre ++ [x]).length = m := by rw [List.length_append]; simp; omega
  rw [hm, hm2]
  unfold u32s
  simp [List.set_append, List.replicate_succ]
set_option maxHeartbeats 8000000 in
set_option maxRecDepth 100000 in
theorem step_calls {w : World} {h ab ao : Nat} {c : Nat} {p : List Int} {s0 s1 s2 s3 s4 : Int} {bv lv : Value} (hs : w.heap[h]? = some (.cells #[.int .u32 s0, .int .u32 s1, .int .u32 s2, .int .u32 s3, .int .u32 s4, bv, lv] 93 (0, 0))) (hp : ∀ (j : Nat) (x : Int), p[j]? = some x → w.cell? ⟨ab, ao + j, none⟩ = some (.int .u8 x)) (hl : p.length = 64) (hAw : ab < w.heap.size) :
    Calls Tryz.prog 152 #[.pointer (some ⟨h, 0, none⟩), .slice (some ⟨ab, ao, none⟩) 64 c] w fun e w' => e = .returned (.tuple #[]) ∧ shaB w' h (sha1step ⟨s0, s1, s2, s3, s4⟩ p) bv lv ∧ Keep w w' (fun k => k = h) := by
  have HP := Aside0.mk hp
  have HS := Aside0.mk hs
  have HL := Aside0.mk hl
  have HAw := Aside0.mk hAw
  obtain ⟨B, hB⟩ : ∃ B, B = w.heap.size := ⟨_, rfl⟩
  have HB := Aside0.mk hB
  obtain ⟨W0, hW0⟩ : ∃ W0, W0 = w.alloc (.cells Tryz.zeroCells60 60) := ⟨_, rfl⟩
  have HW0 := Aside0.mk hW0
  have HK0 : Aside0 (Below w.heap.size w W0) := ⟨by rw [hW0]; exact below_alloc (Below.refl _ _) _⟩
  have HT0 : Aside0 (Tabl W0 B []) := ⟨by
    unfold Tabl
    rw [hW0, hB, heap_alloc_new]
    congr 2⟩
  clear hp hl hAw hB hW0 hs
  go_enter Tryz.func152, Tryz.ntmps152
  go_wp2_with fail
  rw [← HW0.out, ← HB.out]
  go_loopg [5] 16 (fun kq v5 w' => ∃ (pre : List Int), kq + pre.length = 16 ∧ v5 = .int .i64 pre.length ∧ Aside0 (pre = (List.range pre.length).map (word p)) ∧ Aside0 (Tabl w' B pre) ∧ Aside0 (Keep w w' (fun _ => False)))
  case atStart => exact ⟨[], rfl, rfl, ⟨rfl⟩, HT0, ⟨Keep.of_below HK0.out _⟩⟩
  case round =>
    obtain ⟨pre, hgi, rfl, HPr, HT, HK⟩ := hrel
    obtain ⟨i, hi0⟩ : ∃ i, i = pre.length := ⟨_, rfl⟩
    rw [← hi0] at hgi ⊢
    have HI := Aside0.mk hi0
    have hiw : pre.length = i := hi0.symm
    rcases Nat.lt_or_ge i 16 with hi | hi
    · obtain ⟨j0, hj0⟩ : ∃ y, y = 4 * i := ⟨_, rfl⟩
      obtain ⟨j1, hj1⟩ : ∃ y, y = j0 + 1 := ⟨_, rfl⟩
      obtain ⟨j2, hj2⟩ : ∃ y, y = j0 + 2 := ⟨_, rfl⟩
      obtain ⟨j3, hj3⟩ : ∃ y, y = j0 + 3 := ⟨_, rfl⟩
      obtain ⟨y0, hy0⟩ : ∃ y, y = p.getD j0 0 := ⟨_, rfl⟩
      obtain ⟨y1, hy1⟩ : ∃ y, y = p.getD j1 0 := ⟨_, rfl⟩
      obtain ⟨y2, hy2⟩ : ∃ y, y = p.getD j2 0 := ⟨_, rfl⟩
      obtain ⟨y3, hy3⟩ : ∃ y, y = p.getD j3 0 := ⟨_, rfl⟩
      have hc : ∀ (W : World), Keep w W (fun _ => False) → ∀ j, j < 64 → W.cell? ⟨ab, ao + j, none⟩ = some (.int .u8 (p.getD j 0)) := fun W hk j hj => by
        refine hk.cell (HP.out j _ ?_) (fun h => h)
        rw [List.getD_eq_getElem?_getD, List.getElem?_eq_getElem (by rw [HL.out]; exact hj)]
        rfl
      have hc0 : wr.cell? ⟨ab, ao + j0, none⟩ = some (.int .u8 y0) := by rw [hy0]; exact hc wr HK.out j0 (by omega)
      have hc1 : wr.cell? ⟨ab, ao + j1, none⟩ = some (.int .u8 y1) := by rw [hy1]; exact hc wr HK.out j1 (by omega)
      have hc2 : wr.cell? ⟨ab, ao + j2, none⟩ = some (.int .u8 y2) := by rw [hy2]; exact hc wr HK.out j2 (by omega)
      have hc3 : wr.cell? ⟨ab, ao + j3, none⟩ = some (.int .u8 y3) := by rw [hy3]; exact hc wr HK.out j3 (by omega)
      have hne : ab ≠ B := by have := HAw.out; have := HB.out; omega
      have HC : Aside0 (∀ v : Value, (wr.setCell ⟨B, i, none⟩ v).drew.cell? ⟨ab, ao + j0, none⟩ = some (.int .u8 y0) ∧ (wr.setCell ⟨B, i, none⟩ v).drew.cell? ⟨ab, ao + j1, none⟩ = some (.int .u8 y1) ∧ (wr.setCell ⟨B, i, none⟩ v).drew.cell? ⟨ab, ao + j2, none⟩ = some (.int .u8 y2) ∧ (wr.setCell ⟨B, i, none⟩ v).drew.cell? ⟨ab, ao + j3, none⟩ = some (.int .u8 y3)) := ⟨fun v => by
        have g : ∀ o, (wr.setCell ⟨B, i, none⟩ v).drew.cell? ⟨ab, o, none⟩ = wr.cell? ⟨ab, o, none⟩ := fun o => by
          show (wr.setCell ⟨B, i, none⟩ v).cell? ⟨ab, o, none⟩ = _
          exact World.cell?_setCell_other _ _ _ _ (fun e => hne (congrArg Addr.block e).symm)
        rw [g, g, g, g]
        exact ⟨hc0, hc1, hc2, hc3⟩⟩
      have HJ := Aside0.mk (⟨hj0, hj1, hj2, hj3, hy0, hy1, hy2, hy3⟩ : j0 = 4 * i ∧ j1 = j0 + 1 ∧ j2 = j0 + 2 ∧ j3 = j0 + 3 ∧ y0 = p.getD j0 0 ∧ y1 = p.getD j1 0 ∧ y2 = p.getD j2 0 ∧ y3 = p.getD j3 0)
      have d1 : decide (i < 16) = true := decide_eq_true hi
      have d1' : decide ((i : Int) < 16) = true := decide_eq_true (by omega)
      have e0 : IntKind.i64.wrap (4 * (i : Int)) = (j0 : Int) := by rw [IntWalk.i64_in _ (by omega)]; omega
      have e1 : IntKind.i64.wrap ((j0 : Int) + 1) = (j1 : Int) := by rw [IntWalk.i64_in _ (by omega)]; omega
      have e2 : IntKind.i64.wrap ((j0 : Int) + 2) = (j2 : Int) := by rw [IntWalk.i64_in _ (by omega)]; omega
      have e3 : IntKind.i64.wrap ((j0 : Int) + 3) = (j3 : Int) := by rw [IntWalk.i64_in _ (by omega)]; omega
      have b0 : (j0 : Int) < 64 := by omega
      have b1 : (j1 : Int) < 64 := by omega
      have b2 : (j2 : Int) < 64 := by omega
      have b3 : (j3 : Int) < 64 := by omega
      have a0 : (0 : Int) ≤ (j0 : Int) := by omega
      have a1 : (0 : Int) ≤ (j1 : Int) := by omega
      have a2 : (0 : Int) ≤ (j2 : Int) := by omega
      have a3 : (0 : Int) ≤ (j3 : Int) := by omega
      have ai : (0 : Int) ≤ (i : Int) := by omega
      have bi : (i : Int) < 80 := by omega
      have hz : wr.cell? ⟨B, i, none⟩ = some (.int .u32 0) := by rw [hi0]; exact HT.out.zero (by omega)
      have fz : wr.frozen? ⟨B, i, none⟩ = false := frozen_of HT.out i
      clear hj0 hj1 hj2 hj3 hy0 hy1 hy2 hy3 hc hi0 hiw hne
      go_wp2_with fail
      go_region_held3 (fun w' => w'.cell? ⟨ab, ao + j0, none⟩ = some (.int .u8 y0) ∧ w'.cell? ⟨ab, ao + j1, none⟩ = some (.int .u8 y1) ∧ w'.cell? ⟨ab, ao + j2, none⟩ = some (.int .u8 y2) ∧ w'.cell? ⟨ab, ao + j3, none⟩ = some (.int .u8 y3)) (first | (exact ⟨hc0, hc1, hc2, hc3⟩) | (exact HC.out _)) ((fail))
      obtain ⟨x, hx⟩ : ∃ x, x = word4 y0 y1 y2 y3 := ⟨_, rfl⟩
      have HX : Aside0 (x = word p i) := ⟨by rw [hx, HJ.out.2.2.2.2.1, HJ.out.2.2.2.2.2.1, HJ.out.2.2.2.2.2.2.1, HJ.out.2.2.2.2.2.2.2, HJ.out.2.2.2.1, HJ.out.2.2.1, HJ.out.2.1, HJ.out.1]; rfl⟩
      obtain ⟨W1, hW1⟩ : ∃ W1, W1 = (wr.setCell ⟨B, i, none⟩ (.int .u32 x)).drew := ⟨_, rfl⟩
      unfold word4 at hx
      rw [← hx, ← hW1]
      have HT1 : Aside0 (Tabl W1 B (pre ++ [x])) := ⟨by rw [hW1, HI.out]; exact Tabl.set HT.out (by have := HI.out; omega) x⟩
      have HK1 : Aside0 (Keep w W1 (fun _ => False)) := ⟨by rw [hW1]; exact (Keep.setCell (a := ⟨B, i, none⟩) HK.out (.inr (by have := HB.out; show w.heap.size ≤ B; omega)) _).drewN 1⟩
      clear hx hW1 hc0 hc1 hc2 hc3 hz fz HC e0 e1 e2 e3
      go_wp2_with fail
      go_roundg (gk - 1)
      case measure => omega
      case rel => exact ⟨pre ++ [x], by rw [List.length_append, ← HI.out]; simp; omega, by rw [List.length_append, ← HI.out]; go_num, ⟨by rw [List.length_append, List.length_singleton, ← HI.out, List.range_succ, List.map_append, List.map_cons, List.map_nil, ← HX.out]; exact congrArg (· ++ [x]) (by rw [HI.out]; exact HPr.out)⟩, HT1, HK1⟩
    · obtain rfl : i = 16 := by omega
      clear hi0 hiw
      go_wp2_with fail
      go_loopg [6, 7] 64 (fun kq v6 v7 w' => ∃ (pre : List Int), kq + pre.length = 80 ∧ v6 = .int .i64 pre.length ∧ Aside0 (16 ≤ pre.length ∧ pre = wTab p (pre.length - 16)) ∧ Aside0 (Tabl w' B pre) ∧ Aside0 (Keep w w' (fun _ => False)))
      case atStart => exact ⟨pre, by rw [← HI.out], by rw [← HI.out]; go_num, ⟨by rw [← HI.out]; omega, by rw [← HI.out]; have := HPr.out; rw [← HI.out] at this; exact this⟩, HT, HK⟩
      case round =>
        clear HPr HT HK HI hgi
        obtain ⟨pre, hgi, rfl, HPr, HT, HK⟩ := hrel
        obtain ⟨i, hi0⟩ : ∃ i, i = pre.length := ⟨_, rfl⟩
        rw [← hi0] at hgi ⊢
        have HI := Aside0.mk hi0
        have h16 : 16 ≤ i := by rw [hi0]; exact HPr.out.1
        rcases Nat.lt_or_ge i 80 with hi | hi
        · obtain ⟨j3, hj3⟩ : ∃ y, y = i - 3 := ⟨_, rfl⟩
          obtain ⟨j8, hj8⟩ : ∃ y, y = i - 8 := ⟨_, rfl⟩
          obtain ⟨j14, hj14⟩ : ∃ y, y = i - 14 := ⟨_, rfl⟩
          obtain ⟨j16, hj16⟩ : ∃ y, y = i - 16 := ⟨_, rfl⟩
          obtain ⟨y3, hy3⟩ : ∃ y, y = pre.getD j3 0 := ⟨_, rfl⟩
          obtain ⟨y8, hy8⟩ : ∃ y, y = pre.getD j8 0 := ⟨_, rfl⟩
          obtain ⟨y14, hy14⟩ : ∃ y, y = pre.getD j14 0 := ⟨_, rfl⟩
          obtain ⟨y16, hy16⟩ : ∃ y, y = pre.getD j16 0 := ⟨_, rfl⟩
          have hc : ∀ j, j < i → wr.cell? ⟨B, j, none⟩ = some (.int .u32 (pre.getD j 0)) := fun j hj => HT.out.get j _ (by
            rw [List.getD_eq_getElem?_getD, List.getElem?_eq_getElem (by rw [← hi0]; exact hj)]
            rfl)
          have hc3 : wr.cell? ⟨B, j3, none⟩ = some (.int .u32 y3) := by rw [hy3]; exact hc j3 (by omega)
          have hc8 : wr.cell? ⟨B, j8, none⟩ = some (.int .u32 y8) := by rw [hy8]; exact hc j8 (by omega)
          have hc14 : wr.cell? ⟨B, j14, none⟩ = some (.int .u32 y14) := by rw [hy14]; exact hc j14 (by omega)
          have hc16 : wr.cell? ⟨B, j16, none⟩ = some (.int .u32 y16) := by rw [hy16]; exact hc j16 (by omega)
          have HJ := Aside0.mk (⟨hj3, hj8, hj14, hj16, hy3, hy8, hy14, hy16⟩ : j3 = i - 3 ∧ j8 = i - 8 ∧ j14 = i - 14 ∧ j16 = i - 16 ∧ y3 = pre.getD j3 0 ∧ y8 = pre.getD j8 0 ∧ y14 = pre.getD j14 0 ∧ y16 = pre.getD j16 0)
          have d1 : decide (i < 80) = true := decide_eq_true hi
          have d1' : decide ((i : Int) < 80) = true := decide_eq_true (by omega)
          have e3 : IntKind.i64.wrap ((i : Int) - 3) = (j3 : Int) := by rw [IntWalk.i64_in _ (by omega)]; omega
          have e8 : IntKind.i64.wrap ((i : Int) - 8) = (j8 : Int) := by rw [IntWalk.i64_in _ (by omega)]; omega
          have e14 : IntKind.i64.wrap ((i : Int) - 14) = (j14 : Int) := by rw [IntWalk.i64_in _ (by omega)]; omega
          have e16 : IntKind.i64.wrap ((i : Int) - 16) = (j16 : Int) := by rw [IntWalk.i64_in _ (by omega)]; omega
          have b3 : (j3 : Int) < 80 := by omega
          have b8 : (j8 : Int) < 80 := by omega
          have b14 : (j14 : Int) < 80 := by omega
          have b16 : (j16 : Int) < 80 := by omega
          have a3 : (0 : Int) ≤ (j3 : Int) := by omega
          have a8 : (0 : Int) ≤ (j8 : Int) := by omega
          have a14 : (0 : Int) ≤ (j14 : Int) := by omega
          have a16 : (0 : Int) ≤ (j16 : Int) := by omega
          have ai : (0 : Int) ≤ (i : Int) := by omega
          have bi : (i : Int) < 80 := by omega
          have hz : wr.cell? ⟨B, i, none⟩ = some (.int .u32 0) := by rw [hi0]; exact HT.out.zero (by omega)
          have fz : wr.frozen? ⟨B, i, none⟩ = false := frozen_of HT.out i
          clear hj3 hj8 hj14 hj16 hy3 hy8 hy14 hy16 hc hi0
          go_wp2_with fail
          go_quiet (fail)
          go_wp2_with fail
          obtain ⟨x, hx⟩ : ∃ x, x = rot1 (xor4 y3 y8 y14 y16) := ⟨_, rfl⟩
          have HX : Aside0 (x = wNext pre) := ⟨by rw [hx, HJ.out.2.2.2.2.1, HJ.out.2.2.2.2.2.1, HJ.out.2.2.2.2.2.2.1, HJ.out.2.2.2.2.2.2.2, HJ.out.2.2.2.1, HJ.out.2.2.1, HJ.out.2.1, HJ.out.1, HI.out]; rfl⟩
          obtain ⟨W1, hW1⟩ : ∃ W1, W1 = (wr.drewN nq).setCell ⟨B, i, none⟩ (.int .u32 x) := ⟨_, rfl⟩
          unfold rot1 xor4 at hx
          rw [← hx, ← hW1]
          have HT1 : Aside0 (Tabl W1 B (pre ++ [x])) := ⟨by rw [hW1, HI.out]; exact Tabl.set (w := wr.drewN nq) HT.out (by have := HI.out; omega) x⟩
          have HK1 : Aside0 (Keep w W1 (fun _ => False)) := ⟨by rw [hW1]; exact (Keep.setCell (a := ⟨B, i, none⟩) (HK.out.drewN nq) (.inr (by have := HB.out; show w.heap.size ≤ B; omega)) _)⟩
          clear hx hW1 hc3 hc8 hc14 hc16 hz fz e3 e8 e14 e16
          go_roundg (gk - 1)
          case measure => omega
          case rel => exact ⟨pre ++ [x], by rw [List.length_append, ← HI.out]; simp; omega, by rw [List.length_append, ← HI.out]; go_num, ⟨by rw [List.length_append, ← HI.out]; omega, by
            rw [List.length_append, List.length_singleton, ← HI.out, HX.out]
            have e : i + 1 - 16 = (i - 16) + 1 := by omega
            have h2 := HPr.out.2
            rw [← HI.out] at h2
            rw [e, wTab, ← h2]⟩, HT1, HK1⟩
        · obtain rfl : i = 80 := by omega
          have HWs : Aside0 (pre = wTab p 64) := ⟨by have h2 := HPr.out.2; rw [← HI.out] at h2; exact h2⟩
          obtain ⟨ws, hws⟩ : ∃ ws, ws = pre := ⟨_, rfl⟩
          rw [← hws] at HWs HT
          have HWl : Aside0 (ws.length = 80) := ⟨by rw [hws]; exact HI.out.symm⟩
          clear hi0 h16 hgi HPr hws
          have hb := (HK.out.block h (lt_of_block HS.out) (fun h => h)).trans HS.out
          have cc0 : wr.cell? ⟨h, 0, none⟩ = some (.int .u32 s0) := cell_of hb 0 rfl
          have cc1 : wr.cell? ⟨h, 1, none⟩ = some (.int .u32 s1) := cell_of hb 1 rfl
          have cc2 : wr.cell? ⟨h, 2, none⟩ = some (.int .u32 s2) := cell_of hb 2 rfl
          have cc3 : wr.cell? ⟨h, 3, none⟩ = some (.int .u32 s3) := cell_of hb 3 rfl
          have cc4 : wr.cell? ⟨h, 4, none⟩ = some (.int .u32 s4) := cell_of hb 4 rfl
          clear hb
          go_wp2_with fail
          go_quiet (fail)
          go_wp2_with fail
          have HT2 : Aside0 (Tabl (wr.drewN nq) B ws) := ⟨HT.out⟩
          have HK2 : Aside0 (Keep w (wr.drewN nq) (fun _ => False)) := ⟨HK.out.drewN nq⟩
          clear cc0 cc1 cc2 cc3 cc4 HT HK HI
          go_loopg [8, 9, 10, 11, 12, 13, 14, 15, 16] 80 (fun kq v8 v9 v10 v11 v12 v13 v14 v15 v16 w' => ∃ (i : Nat) (a b c2 d e : Int), kq + i = 80 ∧ v8 = .int .u32 a ∧ v9 = .int .u32 b ∧ v10 = .int .u32 c2 ∧ v11 = .int .u32 d ∧ v12 = .int .u32 e ∧ v13 = .int .i64 i ∧ Aside0 ((⟨a, b, c2, d, e⟩ : S5) = rounds ws ⟨s0, s1, s2, s3, s4⟩ i) ∧ Aside0 (Tabl w' B ws) ∧ Aside0 (Keep w w' (fun _ => False)))
          case atStart => exact ⟨0, s0, s1, s2, s3, s4, rfl, rfl, rfl, rfl, rfl, rfl, rfl, ⟨rfl⟩, HT2, HK2⟩
          case round =>
            clear HT2 HK2
            obtain ⟨i, a, b, c2, d, e, hgi, rfl, rfl, rfl, rfl, rfl, rfl, HRo, HT, HK⟩ := hrel
            rcases Nat.lt_or_ge i 80 with hi | hi
            · obtain ⟨x, hx⟩ : ∃ x, x = ws.getD i 0 := ⟨_, rfl⟩
              have hcx : wr.cell? ⟨B, i, none⟩ = some (.int .u32 x) := HT.out.get i _ (by
                rw [hx, List.getD_eq_getElem?_getD, List.getElem?_eq_getElem (by rw [HWl.out]; exact hi)]
                rfl)
              have HXi := Aside0.mk hx
              have d80 : decide (i < 80) = true := decide_eq_true hi
              have d80' : decide ((i : Int) < 80) = true := decide_eq_true (by omega)
              have ai : (0 : Int) ≤ (i : Int) := by omega
              have bi : (i : Int) < 80 := by omega
              clear hx
              rcases Nat.lt_or_ge i 20 with h20 | h20
              · have d20 : decide (i < 20) = true := decide_eq_true h20
                have d20' : decide ((i : Int) < 20) = true := decide_eq_true (by omega)
                go_wp2_with fail
                go_roundg (gk - 1)
                case measure => omega
                case rel => exact ⟨i + 1, _, _, _, _, _, by omega, rfl, rfl, rfl, rfl, rfl, by go_num, ⟨by
                  show _ = rnd (rounds ws _ i) i (ws.getD i 0)
                  rw [← HRo.out, ← HXi.out]
                  unfold rnd
                  rw [if_pos h20]
                  first | rfl | (simp only [rnd1, mix0, mix1, mix2, S5.mk.injEq, and_true]; omega)⟩, HT, HK⟩
              · rcases Nat.lt_or_ge i 40 with h40 | h40
                · have d20 : decide (i < 20) = false := decide_eq_false (by omega)
                  have d20' : decide ((i : Int) < 20) = false := decide_eq_false (by omega)
                  have d40 : decide (i < 40) = true := decide_eq_true h40
                  have d40' : decide ((i : Int) < 40) = true := decide_eq_true (by omega)
                  go_wp2_with fail
                  go_roundg (gk - 1)
                  case measure => omega
                  case rel => exact ⟨i + 1, _, _, _, _, _, by omega, rfl, rfl, rfl, rfl, rfl, by go_num, ⟨by
                    show _ = rnd (rounds ws _ i) i (ws.getD i 0)
                    rw [← HRo.out, ← HXi.out]
                    unfold rnd
                    rw [if_neg (by omega), if_pos h40]
                    first | rfl | (simp only [rnd1, mix0, mix1, mix2, S5.mk.injEq, and_true]; omega)⟩, HT, HK⟩
                · rcases Nat.lt_or_ge i 60 with h60 | h60
                  · have d20 : decide (i < 20) = false := decide_eq_false (by omega)
                    have d20' : decide ((i : Int) < 20) = false := decide_eq_false (by omega)
                    have d40 : decide (i < 40) = false := decide_eq_false (by omega)
                    have d40' : decide ((i : Int) < 40) = false := decide_eq_false (by omega)
                    have d60 : decide (i < 60) = true := decide_eq_true h60
                    have d60' : decide ((i : Int) < 60) = true := decide_eq_true (by omega)
                    go_wp2_with fail
                    go_roundg (gk - 1)
                    case measure => omega
                    case rel => exact ⟨i + 1, _, _, _, _, _, by omega, rfl, rfl, rfl, rfl, rfl, by go_num, ⟨by
                      show _ = rnd (rounds ws _ i) i (ws.getD i 0)
                      rw [← HRo.out, ← HXi.out]
                      unfold rnd
                      rw [if_neg (by omega), if_neg (by omega), if_pos h60]
                      first | rfl | (simp only [rnd1, mix0, mix1, mix2, S5.mk.injEq, and_true]; omega)⟩, HT, HK⟩
                  · have d20 : decide (i < 20) = false := decide_eq_false (by omega)
                    have d20' : decide ((i : Int) < 20) = false := decide_eq_false (by omega)
                    have d40 : decide (i < 40) = false := decide_eq_false (by omega)
                    have d40' : decide ((i : Int) < 40) = false := decide_eq_false (by omega)
                    have d60 : decide (i < 60) = false := decide_eq_false (by omega)
                    have d60' : decide ((i : Int) < 60) = false := decide_eq_false (by omega)
                    go_wp2_with fail
                    go_roundg (gk - 1)
                    case measure => omega
                    case rel => exact ⟨i + 1, _, _, _, _, _, by omega, rfl, rfl, rfl, rfl, rfl, by go_num, ⟨by
                      show _ = rnd (rounds ws _ i) i (ws.getD i 0)
                      rw [← HRo.out, ← HXi.out]
                      unfold rnd
                      rw [if_neg (by omega), if_neg (by omega), if_neg (by omega)]
                      first | rfl | (simp only [rnd1, mix0, mix1, mix2, S5.mk.injEq, and_true]; omega)⟩, HT, HK⟩
            · obtain rfl : i = 80 := by omega
              have hb := (HK.out.block h (lt_of_block HS.out) (fun h => h)).trans HS.out
              have HB0 := Aside0.mk hb
              clear hb HT
              have HKK : Aside0 (Keep w wr (fun k => k = h)) := ⟨HK.out.mono (fun _ h => h.elim)⟩
              clear HK
              have cf0 : wr.cell? ⟨h, 0, none⟩ = some (.int .u32 s0) := cell_of HB0.out 0 rfl
              have f0 : wr.frozen? ⟨h, 0, none⟩ = false := frozen_of HB0.out 0
              go_wp2_with fail
              go_still_tail 10, (by kernel_rfl)
              change wpList _ _ _ _ _ wr.drew
              go_wp2_with fail
              obtain ⟨X1, hW0⟩ : ∃ X1, X1 = (wr.setCell ⟨h, 0, none⟩ (.int .u32 ((s0 + a) % 4294967296))).drew := ⟨_, rfl⟩
              rw [← hW0]
              have HB1 : Aside0 (X1.heap[h]? = some (.cells #[.int .u32 ((s0 + a) % 4294967296), .int .u32 s1, .int .u32 s2, .int .u32 s3, .int .u32 s4, bv, lv] 93 (0, 0))) := ⟨by rw [hW0]; exact set_block (w := wr) HB0.out 0 _⟩
              have HK1 : Aside0 (Keep w X1 (fun k => k = h)) := ⟨by rw [hW0]; exact (Keep.setCell (F := fun k => k = h) (a := ⟨h, 0, none⟩) HKK.out (.inl rfl) _).drewN 1⟩
              clear hW0 cf0 f0 HB0 HKK
              have cf1 : X1.cell? ⟨h, 1, none⟩ = some (.int .u32 s1) := cell_of HB1.out 1 rfl
              have f1 : X1.frozen? ⟨h, 1, none⟩ = false := frozen_of HB1.out 1
              go_wp2_with fail
              go_still_tail 10, (by kernel_rfl)
              change wpList _ _ _ _ _ X1.drew
              go_wp2_with fail
              obtain ⟨X2, hW1⟩ : ∃ X2, X2 = (X1.setCell ⟨h, 1, none⟩ (.int .u32 ((s1 + b) % 4294967296))).drew := ⟨_, rfl⟩
              rw [← hW1]
              have HB2 : Aside0 (X2.heap[h]? = some (.cells #[.int .u32 ((s0 + a) % 4294967296), .int .u32 ((s1 + b) % 4294967296), .int .u32 s2, .int .u32 s3, .int .u32 s4, bv, lv] 93 (0, 0))) := ⟨by rw [hW1]; exact set_block (w := X1) HB1.out 1 _⟩
              have HK2 : Aside0 (Keep w X2 (fun k => k = h)) := ⟨by rw [hW1]; exact (Keep.setCell (F := fun k => k = h) (a := ⟨h, 1, none⟩) HK1.out (.inl rfl) _).drewN 1⟩
              clear hW1 cf1 f1 HB1 HK1
              have cf2 : X2.cell? ⟨h, 2, none⟩ = some (.int .u32 s2) := cell_of HB2.out 2 rfl
              have f2 : X2.frozen? ⟨h, 2, none⟩ = false := frozen_of HB2.out 2
              go_wp2_with fail
              go_still_tail 10, (by kernel_rfl)
              change wpList _ _ _ _ _ X2.drew
              go_wp2_with fail
              obtain ⟨X3, hW2⟩ : ∃ X3, X3 = (X2.setCell ⟨h, 2, none⟩ (.int .u32 ((s2 + c2) % 4294967296))).drew := ⟨_, rfl⟩
              rw [← hW2]
              have HB3 : Aside0 (X3.heap[h]? = some (.cells #[.int .u32 ((s0 + a) % 4294967296), .int .u32 ((s1 + b) % 4294967296), .int .u32 ((s2 + c2) % 4294967296), .int .u32 s3, .int .u32 s4, bv, lv] 93 (0, 0))) := ⟨by rw [hW2]; exact set_block (w := X2) HB2.out 2 _⟩
              have HK3 : Aside0 (Keep w X3 (fun k => k = h)) := ⟨by rw [hW2]; exact (Keep.setCell (F := fun k => k = h) (a := ⟨h, 2, none⟩) HK2.out (.inl rfl) _).drewN 1⟩
              clear hW2 cf2 f2 HB2 HK2
              have cf3 : X3.cell? ⟨h, 3, none⟩ = some (.int .u32 s3) := cell_of HB3.out 3 rfl
              have f3 : X3.frozen? ⟨h, 3, none⟩ = false := frozen_of HB3.out 3
              go_wp2_with fail
              go_still_tail 10, (by kernel_rfl)
              change wpList _ _ _ _ _ X3.drew
              go_wp2_with fail
              obtain ⟨X4, hW3⟩ : ∃ X4, X4 = (X3.setCell ⟨h, 3, none⟩ (.int .u32 ((s3 + d) % 4294967296))).drew := ⟨_, rfl⟩
              rw [← hW3]
              have HB4 : Aside0 (X4.heap[h]? = some (.cells #[.int .u32 ((s0 + a) % 4294967296), .int .u32 ((s1 + b) % 4294967296), .int .u32 ((s2 + c2) % 4294967296), .int .u32 ((s3 + d) % 4294967296), .int .u32 s4, bv, lv] 93 (0, 0))) := ⟨by rw [hW3]; exact set_block (w := X3) HB3.out 3 _⟩
              have HK4 : Aside0 (Keep w X4 (fun k => k = h)) := ⟨by rw [hW3]; exact (Keep.setCell (F := fun k => k = h) (a := ⟨h, 3, none⟩) HK3.out (.inl rfl) _).drewN 1⟩
              clear hW3 cf3 f3 HB3 HK3
              have cf4 : X4.cell? ⟨h, 4, none⟩ = some (.int .u32 s4) := cell_of HB4.out 4 rfl
              have f4 : X4.frozen? ⟨h, 4, none⟩ = false := frozen_of HB4.out 4
              go_wp2_with fail
              go_still_tail 10, (by kernel_rfl)
              change wpList _ _ _ _ _ X4.drew
              go_wp2_with fail
              obtain ⟨X5, hW4⟩ : ∃ X5, X5 = (X4.setCell ⟨h, 4, none⟩ (.int .u32 ((s4 + e) % 4294967296))).drew := ⟨_, rfl⟩
              rw [← hW4]
              have HB5 : Aside0 (X5.heap[h]? = some (.cells #[.int .u32 ((s0 + a) % 4294967296), .int .u32 ((s1 + b) % 4294967296), .int .u32 ((s2 + c2) % 4294967296), .int .u32 ((s3 + d) % 4294967296), .int .u32 ((s4 + e) % 4294967296), bv, lv] 93 (0, 0))) := ⟨by rw [hW4]; exact set_block (w := X4) HB4.out 4 _⟩
              have HK5 : Aside0 (Keep w X5 (fun k => k = h)) := ⟨by rw [hW4]; exact (Keep.setCell (F := fun k => k = h) (a := ⟨h, 4, none⟩) HK4.out (.inl rfl) _).drewN 1⟩
              clear hW4 cf4 f4 HB4 HK4
              go_end0
              refine ⟨rfl, ?_, HK5.out⟩
              have hro := HRo.out
              rw [HWs.out] at hro
              have h5 := HB5.out
              unfold sha1step
              rw [← hro]
              exact h5
end Go.Proofs.YtllikhbafaohgaaGreatDoor.Idx
