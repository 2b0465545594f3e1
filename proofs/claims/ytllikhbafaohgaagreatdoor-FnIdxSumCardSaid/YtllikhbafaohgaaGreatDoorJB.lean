/- The bytes of one file of an index. -/
import Derived.Test.YtllikhbafaohgaaGreatDoorJA
namespace Go.Proofs.YtllikhbafaohgaaGreatDoor.Idx
open Go.RowKit Go.Proofs.YtllikhbafaohgaaGreatDoorW.PrintWords Go.Proofs.YtllikhbafaohgaaGreatDoorW.PrintLast Go.Proofs.YtllikhbafaohgaaGreatDoorW.PrintMore
set_option linter.unusedVariables false
set_option linter.unusedSimpArgs false

/-- A row of bytes of one's own. -/
structure OwnB (w0 w : World) (v : Value) (X : List Int) : Prop where
  row : w.ownsRow w0.heap.size 5 1 v X.length (nums .u8 X)
  below : Below w0.heap.size w0 w
theorem OwnB.grow {w0 w w1 : World} {v v1 : Value} {L L1 : List Int} (h : OwnB w0 w v L) (hg : w.grownBy w1 v.ownBlock) (hr : w1.ownsRow w0.heap.size 5 1 v1 L1.length (nums .u8 L1)) : OwnB w0 w1 v1 L1 :=
  ⟨hr, h.below.grown hg h.below.size (fun k hk => (q_typed (q_of_own h.row) k hk).1)⟩
theorem OwnB.step {w0 w w1 : World} {v : Value} {L : List Int} (h : OwnB w0 w v L) (hb : Below w.heap.size w w1) : OwnB w0 w1 v L :=
  ⟨own_move h.row (fun k hk => hb.block k (q_lt (q_of_own h.row) k hk)), h.below.trans (hb.mono h.below.size)⟩
theorem OwnB.far {w0 w w1 : World} {v : Value} {L : List Int} (h : OwnB w0 w v L) (hg : w.grownBy w1 v.ownBlock) {j : Nat} {cs : Array Value} {t : TypeId} (hj : w.heap[j]? = some (.cells cs t (0, 0))) (ht : t ≠ 5) : w1.heap[j]? = some (.cells cs t (0, 0)) :=
  (hg.block j (lt_of_block hj) (fun e => by
    obtain ⟨_, c, hc⟩ := q_typed (q_of_own h.row) j e.symm
    rw [hj] at hc
    injection hc with hc
    injection hc with _ hc
    exact ht hc)).trans hj
theorem append_own {ops : Array Oper} {rest : List Oper} {o : Oper} {a : Act} {Q' : Exit → Act → World → Prop} {W w0 : World} (hgd : o.guard = none) (s x : Operand)
    (ho : o.op = .call { callee := .builtin .append, args := #[s, x], argTypes := #[24, 24] }) (v : Value) (xs ys : List Int) (A : Addr) (m c : Nat) (hs : a.eval s = v) (hx : a.eval x = .slice (some A) m c)
    (HO : OwnB w0 W v xs) (hC : ∀ (j : Nat) (u : Value), (nums .u8 ys)[j]? = some u → W.cell? (A.add j) = some u) (hm : ys.length = m) (hm0 : 0 < m) (hl : xs.length + m ≤ 1000000000)
    (h : ∀ g n1 c1 w1, n1 = (xs ++ ys).length → OwnB w0 w1 (.slice (some ⟨g, 0, none⟩) n1 c1) (xs ++ ys) → W.grownBy w1 v.ownBlock → wpList Tryz.prog ops Q' rest (a.put o.dst (.slice (some ⟨g, 0, none⟩) n1 c1)) w1) :
    wpList Tryz.prog ops Q' (o :: rest) a W := by
  obtain ⟨i0, hi, hz0, hz1, hz2⟩ := info_parts PFnIdxSum.info5
  refine wpList_append_lies (w := W) hgd s x 24 ho w0.heap.size 5 i0 (.int .u8 0) 1 1 Tryz.underlying24 hi hz0 hz1 hz2 rfl (by decide) v xs.length (nums .u8 xs) hs HO.row A m c (nums .u8 ys) hx (by rw [nums_length, hm, Nat.mul_one]) hC (fun u hu => by obtain ⟨b, _, rfl⟩ := List.mem_map.1 hu; rfl) hm0 (by simp only [maxLen]; omega) (by omega) HO.below.size W.heap.size rfl ?_
  intro g cap w1 h1 h2 _ _
  refine h g (xs.length + m) cap w1 (by rw [List.length_append, hm]) (HO.grow h2 (by rw [List.length_append, hm, nums_append]; exact h1)) h2
theorem append_own_step {ops : Array Oper} {o : Oper} {a : Act} {K : Act → World → Prop} {Q : Exit → Act → World → Prop} {E : Prop} {W w0 : World} (hgd : o.guard = none) (s x : Operand)
    (ho : o.op = .call { callee := .builtin .append, args := #[s, x], argTypes := #[24, 24] }) (v : Value) (xs ys : List Int) (A : Addr) (m c : Nat) (hs : a.eval s = v) (hx : a.eval x = .slice (some A) m c)
    (HO : OwnB w0 W v xs) (hC : ∀ (j : Nat) (u : Value), (nums .u8 ys)[j]? = some u → W.cell? (A.add j) = some u) (hm : ys.length = m) (hm0 : 0 < m) (hl : xs.length + m ≤ 1000000000)
    (h : ∀ g n1 c1 w1, n1 = (xs ++ ys).length → OwnB w0 w1 (.slice (some ⟨g, 0, none⟩) n1 c1) (xs ++ ys) → W.grownBy w1 v.ownBlock → K (a.put o.dst (.slice (some ⟨g, 0, none⟩) n1 c1)) w1) :
    if Region.wanted o (yielded ops a.tmps) = true then Oper.wp Tryz.prog o a W K Q else E := by
  obtain ⟨i0, hi, hz0, hz1, hz2⟩ := info_parts PFnIdxSum.info5
  refine step_append_lies (w := W) hgd s x 24 ho w0.heap.size 5 i0 (.int .u8 0) 1 1 Tryz.underlying24 hi hz0 hz1 hz2 rfl (by decide) v xs.length (nums .u8 xs) hs HO.row A m c (nums .u8 ys) hx (by rw [nums_length, hm, Nat.mul_one]) hC (fun u hu => by obtain ⟨b, _, rfl⟩ := List.mem_map.1 hu; rfl) hm0 (by simp only [maxLen]; omega) (by omega) HO.below.size W.heap.size rfl ?_
  intro g cap w1 h1 h2 _ _
  refine h g (xs.length + m) cap w1 (by rw [List.length_append, hm]) (HO.grow h2 (by rw [List.length_append, hm, nums_append]; exact h1)) h2
theorem append_own_byte {ops : Array Oper} {rest : List Oper} {o : Oper} {a : Act} {Q' : Exit → Act → World → Prop} {W w0 : World} (hgd : o.guard = none) (s x : Operand)
    (ho : o.op = .call { callee := .builtin .append, args := #[s, x], argTypes := #[24, 24] }) (v : Value) (xs : List Int) (b : Int) (hs : a.eval s = v) (hx : a.eval x = .slice (some ⟨W.heap.size, 0, none⟩) 1 1)
    (HO : OwnB w0 W v xs) (hl : xs.length + 1 ≤ 1000000000)
    (h : ∀ g n1 c1 w1, n1 = (xs ++ [b]).length → OwnB w0 w1 (.slice (some ⟨g, 0, none⟩) n1 c1) (xs ++ [b]) → (∀ (j : Nat) (cs : Array Value) (t : TypeId), W.heap[j]? = some (.cells cs t (0, 0)) → t ≠ 5 → w1.heap[j]? = some (.cells cs t (0, 0))) → wpList Tryz.prog ops Q' rest (a.put o.dst (.slice (some ⟨g, 0, none⟩) n1 c1)) w1) :
    wpList Tryz.prog ops Q' (o :: rest) a (W.alloc (.cells #[.int .u8 b] 5)) := by
  have hB : Below W.heap.size W (W.alloc (.cells #[.int .u8 b] 5)) := below_alloc (Below.refl _ _) _
  have HO1 := HO.step hB
  refine append_own hgd s x ho v xs [b] ⟨W.heap.size, 0, none⟩ 1 1 hs hx HO1 (fun j u hu => ?_) rfl (by omega) hl ?_
  · have hj : j = 0 := by
      have := (List.getElem?_eq_some_iff.1 hu).1
      simp [nums] at this
      exact this
    subst hj
    have : u = .int .u8 b := by simpa [nums] using hu.symm
    subst this
    exact cell_of (heap_alloc_new W _) 0 rfl
  · intro g n1 c1 w1 hn hO hg
    exact h g n1 c1 w1 hn hO (fun j cs t hj ht => HO1.far hg ((hB.block j (lt_of_block hj)).trans hj) ht)
theorem append_own_str {ops : Array Oper} {rest : List Oper} {o : Oper} {a : Act} {Q' : Exit → Act → World → Prop} {W w0 : World} (hgd : o.guard = none) (s x : Operand)
    (ho : o.op = .call { callee := .builtin .append, args := #[s, x], argTypes := #[24, 9] }) (v : Value) (xs : List Int) (y : ByteArray) (hs : a.eval s = v) (hx : a.eval x = .string y)
    (HO : OwnB w0 W v xs) (hl : xs.length + y.size ≤ 1000000000)
    (h : ∀ v1 w1, OwnB w0 w1 v1 (xs ++ bytesOf y) → W.grownBy w1 v.ownBlock → wpList Tryz.prog ops Q' rest (a.put o.dst v1) w1) :
    wpList Tryz.prog ops Q' (o :: rest) a W := by
  refine print_append_str (w0 := w0) w0.heap.size hgd s x 24 9 5 ho Tryz.underlying24 Tryz.underlying9 PFnIdxSum.info5 v xs y hs hx HO.row HO.below HO.below.size (by omega) ?_
  intro v1 w1 h1 h2 h3
  exact h v1 w1 ⟨h1, h2⟩ h3
theorem own_start {w0 w : World} {g n c : Nat} {X : List Int} (h : OwnB w0 w (.slice (some ⟨g, 0, none⟩) n c) X) (hn : n = X.length) : ∀ (j : Nat) (u : Value), (nums .u8 X)[j]? = some u → w.cell? ((⟨g, 0, none⟩ : Addr).add j) = some u := fun j u hu => by
  have hl : 0 < X.length := by
    have := (List.getElem?_eq_some_iff.1 hu).1
    rw [nums_length] at this
    omega
  have hq := q_of_own h.row
  subst hn
  obtain ⟨ad, hA, hc⟩ := q_cells hq hl
  injection hA with hA
  subst hA
  exact hc j u hu
/-- A call that makes such a row. -/
theorem made_own {f : Nat} {args : Array Value} {w : World} {X : List Int} (hX : 0 < X.length) (h : Calls Tryz.prog f args w fun e w' => ∃ v0_ : Value, e = .returned v0_ ∧ Kd.R (Kd.int .u8) 5 w' w.heap.size (fun _ => True) v0_ X ∧ Below w.heap.size w w') :
    Calls Tryz.prog f args w fun e w' => ∃ g c, e = .returned (.slice (some ⟨g, 0, none⟩) X.length c) ∧ OwnB w w' (.slice (some ⟨g, 0, none⟩) X.length c) X := by
  refine h.mono fun e w' ⟨v, h1, h2, h3⟩ => ?_
  have ho := Kd.own_of_R h2
  obtain ⟨g, cap, rfl, _⟩ := ho.form hX
  exact ⟨g, cap, h1, ho, h3⟩
theorem stamp_own (s n : Int) (w : World) : Calls Tryz.prog 22 #[.agg #[.int .i64 s, .int .i64 n]] w fun e w' => ∃ g c, e = .returned (.slice (some ⟨g, 0, none⟩) 8 c) ∧ OwnB w w' (.slice (some ⟨g, 0, none⟩) 8 c) (be4 (s % 4294967296) ++ be4 (n % 4294967296)) :=
  made_own (X := be4 (s % 4294967296) ++ be4 (n % 4294967296)) (by show 0 < 8; omega) (PFnIdxSum.spec_stampBytes.calls s n _ w (by simp [PFnIdxSum.spec_stampBytes.f, PFnIdxSum.spec_Put32.f, be4]))
theorem put_own (x : Int) (w : World) : Calls Tryz.prog 12 #[.int .u32 x] w fun e w' => ∃ g c, e = .returned (.slice (some ⟨g, 0, none⟩) 4 c) ∧ OwnB w w' (.slice (some ⟨g, 0, none⟩) 4 c) (be4 x) :=
  made_own (X := be4 x) (by show 0 < 4; omega) (PFnIdxSum.spec_Put32.calls x (be4 x) w rfl)
def be2 (x : Int) : List Int := [x / 256 % 256, x % 256]
theorem put2_own (x : Int) (w : World) : Calls Tryz.prog 24 #[.int .u32 x] w fun e w' => ∃ g c, e = .returned (.slice (some ⟨g, 0, none⟩) 2 c) ∧ OwnB w w' (.slice (some ⟨g, 0, none⟩) 2 c) (be2 x) :=
  made_own (X := be2 x) (by show 0 < 2; omega) (PFnIdxSum.spec_Put16.calls x (be2 x) w rfl)
theorem unhex_own {k : Nat} {hs : ByteArray} {U : List Int} (hU : PFnIdxSum.spec_Unhex.f k hs = some U) (h20 : U.length = 20) (w : World) : Calls Tryz.prog 23 #[.string hs] w fun e w' => ∃ g c, e = .returned (.slice (some ⟨g, 0, none⟩) 20 c) ∧ OwnB w w' (.slice (some ⟨g, 0, none⟩) 20 c) U := by
  have := made_own (X := U) (by omega) (PFnIdxSum.spec_Unhex.calls k hs U w hU)
  rw [h20] at this
  exact this
end Go.Proofs.YtllikhbafaohgaaGreatDoor.Idx
