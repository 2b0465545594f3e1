/- filesOf. -/
import Derived.Test.YtllikhbafaohgaaGreatDoorIY
import Derived.Test.YtllikhbafaohgaaGreatDoorIN
namespace Go.Proofs.YtllikhbafaohgaaGreatDoor.Idx
open Go.RowKit Go.Proofs.YtllikhbafaohgaaGreatDoorW.PrintWords Go.Proofs.YtllikhbafaohgaaGreatDoorW.PrintLast Go.Proofs.YtllikhbafaohgaaGreatDoorW.PrintMore
set_option linter.unusedVariables false
set_option linter.unusedSimpArgs false

theorem Ent.form {cs : Array Value} (h : Ent cs) : ∃ (h0 h1 h2 h3 h4 h5 h6 h7 h8 h9 h10 h11 h12 h13 h14 h15 h16 h17 h18 h19 : Int) (nm : ByteArray) (t0 t1 t2 t3 t4 t5 m0 m1 m2 m3 m4 m5 st : Int) (b1 b2 : Bool), (∀ y ∈ ([h0, h1, h2, h3, h4, h5, h6, h7, h8, h9, h10, h11, h12, h13, h14, h15, h16, h17, h18, h19] : List Int), 0 ≤ y ∧ y < 256) ∧ cs = #[.int .u8 h0, .int .u8 h1, .int .u8 h2, .int .u8 h3, .int .u8 h4, .int .u8 h5, .int .u8 h6, .int .u8 h7, .int .u8 h8, .int .u8 h9, .int .u8 h10, .int .u8 h11, .int .u8 h12, .int .u8 h13, .int .u8 h14, .int .u8 h15, .int .u8 h16, .int .u8 h17, .int .u8 h18, .int .u8 h19, .string nm, .int .i64 t0, .int .i64 t1, .int .i64 t2, .int .i64 t3, .int .i64 t4, .int .i64 t5, .int .u32 m0, .int .u32 m1, .int .u32 m2, .int .u32 m3, .int .u32 m4, .int .u32 m5, .int .i64 st, .bool b1, .bool b2] := by
  obtain ⟨v0, e0, p0⟩ := h.get (k := 0) (by omega)
  obtain ⟨h0, rfl, l0, u0⟩ : ∃ x : Int, v0 = .int .u8 x ∧ 0 ≤ x ∧ x < 256 := p0
  obtain ⟨v1, e1, p1⟩ := h.get (k := 1) (by omega)
  obtain ⟨h1, rfl, l1, u1⟩ : ∃ x : Int, v1 = .int .u8 x ∧ 0 ≤ x ∧ x < 256 := p1
  obtain ⟨v2, e2, p2⟩ := h.get (k := 2) (by omega)
  obtain ⟨h2, rfl, l2, u2⟩ : ∃ x : Int, v2 = .int .u8 x ∧ 0 ≤ x ∧ x < 256 := p2
  obtain ⟨v3, e3, p3⟩ := h.get (k := 3) (by omega)
  obtain ⟨h3, rfl, l3, u3⟩ : ∃ x : Int, v3 = .int .u8 x ∧ 0 ≤ x ∧ x < 256 := p3
  obtain ⟨v4, e4, p4⟩ := h.get (k := 4) (by omega)
  obtain ⟨h4, rfl, l4, u4⟩ : ∃ x : Int, v4 = .int .u8 x ∧ 0 ≤ x ∧ x < 256 := p4
  obtain ⟨v5, e5, p5⟩ := h.get (k := 5) (by omega)
  obtain ⟨h5, rfl, l5, u5⟩ : ∃ x : Int, v5 = .int .u8 x ∧ 0 ≤ x ∧ x < 256 := p5
  obtain ⟨v6, e6, p6⟩ := h.get (k := 6) (by omega)
  obtain ⟨h6, rfl, l6, u6⟩ : ∃ x : Int, v6 = .int .u8 x ∧ 0 ≤ x ∧ x < 256 := p6
  obtain ⟨v7, e7, p7⟩ := h.get (k := 7) (by omega)
  obtain ⟨h7, rfl, l7, u7⟩ : ∃ x : Int, v7 = .int .u8 x ∧ 0 ≤ x ∧ x < 256 := p7
  obtain ⟨v8, e8, p8⟩ := h.get (k := 8) (by omega)
  obtain ⟨h8, rfl, l8, u8⟩ : ∃ x : Int, v8 = .int .u8 x ∧ 0 ≤ x ∧ x < 256 := p8
  obtain ⟨v9, e9, p9⟩ := h.get (k := 9) (by omega)
  obtain ⟨h9, rfl, l9, u9⟩ : ∃ x : Int, v9 = .int .u8 x ∧ 0 ≤ x ∧ x < 256 := p9
  obtain ⟨v10, e10, p10⟩ := h.get (k := 10) (by omega)
  obtain ⟨h10, rfl, l10, u10⟩ : ∃ x : Int, v10 = .int .u8 x ∧ 0 ≤ x ∧ x < 256 := p10
  obtain ⟨v11, e11, p11⟩ := h.get (k := 11) (by omega)
  obtain ⟨h11, rfl, l11, u11⟩ : ∃ x : Int, v11 = .int .u8 x ∧ 0 ≤ x ∧ x < 256 := p11
  obtain ⟨v12, e12, p12⟩ := h.get (k := 12) (by omega)
  obtain ⟨h12, rfl, l12, u12⟩ : ∃ x : Int, v12 = .int .u8 x ∧ 0 ≤ x ∧ x < 256 := p12
  obtain ⟨v13, e13, p13⟩ := h.get (k := 13) (by omega)
  obtain ⟨h13, rfl, l13, u13⟩ : ∃ x : Int, v13 = .int .u8 x ∧ 0 ≤ x ∧ x < 256 := p13
  obtain ⟨v14, e14, p14⟩ := h.get (k := 14) (by omega)
  obtain ⟨h14, rfl, l14, u14⟩ : ∃ x : Int, v14 = .int .u8 x ∧ 0 ≤ x ∧ x < 256 := p14
  obtain ⟨v15, e15, p15⟩ := h.get (k := 15) (by omega)
  obtain ⟨h15, rfl, l15, u15⟩ : ∃ x : Int, v15 = .int .u8 x ∧ 0 ≤ x ∧ x < 256 := p15
  obtain ⟨v16, e16, p16⟩ := h.get (k := 16) (by omega)
  obtain ⟨h16, rfl, l16, u16⟩ : ∃ x : Int, v16 = .int .u8 x ∧ 0 ≤ x ∧ x < 256 := p16
  obtain ⟨v17, e17, p17⟩ := h.get (k := 17) (by omega)
  obtain ⟨h17, rfl, l17, u17⟩ : ∃ x : Int, v17 = .int .u8 x ∧ 0 ≤ x ∧ x < 256 := p17
  obtain ⟨v18, e18, p18⟩ := h.get (k := 18) (by omega)
  obtain ⟨h18, rfl, l18, u18⟩ : ∃ x : Int, v18 = .int .u8 x ∧ 0 ≤ x ∧ x < 256 := p18
  obtain ⟨v19, e19, p19⟩ := h.get (k := 19) (by omega)
  obtain ⟨h19, rfl, l19, u19⟩ : ∃ x : Int, v19 = .int .u8 x ∧ 0 ≤ x ∧ x < 256 := p19
  obtain ⟨v20, e20, p20⟩ := h.get (k := 20) (by omega)
  obtain ⟨nm, rfl⟩ : ∃ s, v20 = .string s := p20
  obtain ⟨v21, e21, p21⟩ := h.get (k := 21) (by omega)
  obtain ⟨t0, rfl⟩ : ∃ x, v21 = .int .i64 x := p21
  obtain ⟨v22, e22, p22⟩ := h.get (k := 22) (by omega)
  obtain ⟨t1, rfl⟩ : ∃ x, v22 = .int .i64 x := p22
  obtain ⟨v23, e23, p23⟩ := h.get (k := 23) (by omega)
  obtain ⟨t2, rfl⟩ : ∃ x, v23 = .int .i64 x := p23
  obtain ⟨v24, e24, p24⟩ := h.get (k := 24) (by omega)
  obtain ⟨t3, rfl⟩ : ∃ x, v24 = .int .i64 x := p24
  obtain ⟨v25, e25, p25⟩ := h.get (k := 25) (by omega)
  obtain ⟨t4, rfl⟩ : ∃ x, v25 = .int .i64 x := p25
  obtain ⟨v26, e26, p26⟩ := h.get (k := 26) (by omega)
  obtain ⟨t5, rfl⟩ : ∃ x, v26 = .int .i64 x := p26
  obtain ⟨v27, e27, p27⟩ := h.get (k := 27) (by omega)
  obtain ⟨m0, rfl⟩ : ∃ x, v27 = .int .u32 x := p27
  obtain ⟨v28, e28, p28⟩ := h.get (k := 28) (by omega)
  obtain ⟨m1, rfl⟩ : ∃ x, v28 = .int .u32 x := p28
  obtain ⟨v29, e29, p29⟩ := h.get (k := 29) (by omega)
  obtain ⟨m2, rfl⟩ : ∃ x, v29 = .int .u32 x := p29
  obtain ⟨v30, e30, p30⟩ := h.get (k := 30) (by omega)
  obtain ⟨m3, rfl⟩ : ∃ x, v30 = .int .u32 x := p30
  obtain ⟨v31, e31, p31⟩ := h.get (k := 31) (by omega)
  obtain ⟨m4, rfl⟩ : ∃ x, v31 = .int .u32 x := p31
  obtain ⟨v32, e32, p32⟩ := h.get (k := 32) (by omega)
  obtain ⟨m5, rfl⟩ : ∃ x, v32 = .int .u32 x := p32
  obtain ⟨v33, e33, p33⟩ := h.get (k := 33) (by omega)
  obtain ⟨st, rfl⟩ : ∃ x, v33 = .int .i64 x := p33
  obtain ⟨v34, e34, p34⟩ := h.get (k := 34) (by omega)
  obtain ⟨b1, rfl⟩ : ∃ b, v34 = .bool b := p34
  obtain ⟨v35, e35, p35⟩ := h.get (k := 35) (by omega)
  obtain ⟨b2, rfl⟩ : ∃ b, v35 = .bool b := p35
  refine ⟨h0, h1, h2, h3, h4, h5, h6, h7, h8, h9, h10, h11, h12, h13, h14, h15, h16, h17, h18, h19, nm, t0, t1, t2, t3, t4, t5, m0, m1, m2, m3, m4, m5, st, b1, b2, ?_, ?_⟩
  · intro y hy
    simp only [List.mem_cons, List.not_mem_nil, or_false] at hy
    rcases hy with rfl | rfl | rfl | rfl | rfl | rfl | rfl | rfl | rfl | rfl | rfl | rfl | rfl | rfl | rfl | rfl | rfl | rfl | rfl | rfl
    all_goals (constructor <;> assumption)
  · apply Array.ext_getElem?
    intro i
    match i with
    | 0 => exact e0
    | 1 => exact e1
    | 2 => exact e2
    | 3 => exact e3
    | 4 => exact e4
    | 5 => exact e5
    | 6 => exact e6
    | 7 => exact e7
    | 8 => exact e8
    | 9 => exact e9
    | 10 => exact e10
    | 11 => exact e11
    | 12 => exact e12
    | 13 => exact e13
    | 14 => exact e14
    | 15 => exact e15
    | 16 => exact e16
    | 17 => exact e17
    | 18 => exact e18
    | 19 => exact e19
    | 20 => exact e20
    | 21 => exact e21
    | 22 => exact e22
    | 23 => exact e23
    | 24 => exact e24
    | 25 => exact e25
    | 26 => exact e26
    | 27 => exact e27
    | 28 => exact e28
    | 29 => exact e29
    | 30 => exact e30
    | 31 => exact e31
    | 32 => exact e32
    | 33 => exact e33
    | 34 => exact e34
    | 35 => exact e35
    | n + 36 => rw [Array.getElem?_eq_none (by rw [h.1]; omega)]; rfl
theorem info35 : (Tryz.prog.info? 35).map (fun i => (i.zero.map (·.cells.size), i.size, i.bytes)) = some (some 15, 15, 104) := by kernel_rfl
theorem push_file {ops : Array Oper} {rest : List Oper} {o : Oper} {a : Act} {Q' : Exit → Act → World → Prop} {W : World} (hgd : o.guard = none) (s x : Operand) (base : Nat)
    (ho : o.op = .call { callee := .builtin .append, args := #[s, x], argTypes := #[22, 22] }) (v : Value) (n : Nat) (xs : List Value) (cs : Array Value) (hcs : cs.size = 15) (h1c : ∀ u ∈ cs.toList, u.oneCell' = true) (hs : a.eval s = v) (hx : a.eval x = .slice (some ⟨W.heap.size, 0, none⟩) 1 1)
    (HO : QRow W base 35 15 v n xs) (hbase : base ≤ W.heap.size) (hl : n ≤ 1000000)
    (h : ∀ v1 w1, QRow w1 base 35 15 v1 (n + 1) (xs ++ cs.toList) → Below base W w1 → wpList Tryz.prog ops Q' rest (a.put o.dst v1) w1) :
    wpList Tryz.prog ops Q' (o :: rest) a (W.alloc (.cells cs 35)) := by
  obtain ⟨i0, hi, hzz⟩ := Option.map_eq_some_iff.1 info35
  simp only [Prod.mk.injEq] at hzz
  obtain ⟨hz0, hz1, hz2⟩ := hzz
  obtain ⟨z, hz, hzs⟩ := Option.map_eq_some_iff.1 hz0
  have hB : Below W.heap.size W (W.alloc (.cells cs 35)) := below_alloc (Below.refl _ _) _
  obtain ⟨v1, w1, hr, h1, h2, h3⟩ := q_append (P := Tryz.prog) (W.alloc (.cells cs 35)) base 22 o.type 35 i0 z 15 104 Tryz.underlying22 hi hz hz1 hz2 hzs (by decide) v n xs (q_move HO (fun k hk => Below.heap_alloc W _ k (q_lt HO k hk))) ⟨W.heap.size, 0, none⟩ 1 1 cs.toList (by rw [Array.length_toList, hcs])
    (fun j u hu => by
      rw [add_off, Nat.zero_add]
      exact cell_of (heap_alloc_new W _) j (by rw [← Array.getElem?_toList]; exact hu))
    h1c (by omega) (by simp only [maxLen]; omega) (by omega) (Nat.le_trans hbase (size_le_alloc _ _))
  refine wpList_plain hgd fun K hK => ?_
  unfold Oper.wp execOp
  simp only [ho, resolve, invoke, builtin, Sem.run_bind, Sem.run_pure, Result.andThen_ok, List.map_toArray, List.map_cons, List.map_nil, hs, hx, hr]
  have hg : W.grownBy w1 v.ownBlock := World.grownBy.trans (World.grownBy_alloc W _ _) h2
  refine hK _ _ (h v1 w1 h1 ?_)
  exact ⟨hg.os, hg.tape, hg.output, hg.size, fun k hk => hg.block k (Nat.lt_of_lt_of_le hk hbase) (fun e => by have := (q_typed HO k e.symm).1; omega)⟩
theorem entry_at {w : World} {M n c i : Nat} {A : Option Addr} {ps : List Nat} (h : QRow w M 74 1 (.slice A n c) n (ptrs ps)) (hi : i < ps.length) : ∃ g o b, A = some ⟨g, o, none⟩ ∧ ps[i]? = some b ∧ w.cell? ⟨g, o + i, none⟩ = some (.pointer (some ⟨b, 0, none⟩)) := by
  have hl := h.1
  rw [ptrs_length] at hl
  obtain ⟨ad, hA, hc⟩ := q_cells h (by omega)
  subst hA
  rcases h.2 with ⟨h0, _⟩ | ⟨g, off, cap, cur, hv, _⟩
  · omega
  · injection hv with hv
    injection hv with hv
    subst hv
    refine ⟨g, off * 1, ps[i], rfl, List.getElem?_eq_getElem hi, ?_⟩
    have := hc i (.pointer (some ⟨ps[i], 0, none⟩)) (by unfold ptrs; rw [List.getElem?_map, List.getElem?_eq_getElem hi]; rfl)
    rwa [add_off] at this
set_option maxHeartbeats 16000000 in
set_option maxRecDepth 100000 in
theorem filesOf_calls {w : World} {M x : Nat} {ev : Value} {ps : List Nat} (h : EntS w M x ev ps) (hn : ps.length ≤ 1000) :
    Calls Tryz.prog 17 #[.pointer (some ⟨x, 0, none⟩)] w fun e w' => (∃ v, e = .returned v) ∧ Below w.heap.size w w' := by
  obtain ⟨A, c, hv, -⟩ := q_slice h.row
  obtain ⟨n, hnl⟩ : ∃ n, n = ps.length := ⟨_, rfl⟩
  rw [← hnl] at hv
  subst hv
  have x1 : w.cell? ⟨x, 1, none⟩ = some (.slice A n c) := cell_of h.idx 1 rfl
  have HE := Aside0.mk h
  have HN := Aside0.mk (⟨hnl, hn⟩ : _ ∧ _)
  clear h hn hnl
  go_enter Tryz.func17, Tryz.ntmps17
  go_wp2_with fail
  go_loopg [3, 11] n (fun kq v3 v11 w' => ∃ (i : Nat) (X : List Value), kq + i = n ∧ v11 = .int .i64 i ∧ Aside0 (QRow w' w.heap.size 35 15 v3 i X ∧ Below w.heap.size w w'))
  case atStart => exact ⟨0, [], rfl, rfl, ⟨⟨rfl, .inl ⟨rfl, none, rfl, fun a h => by cases h⟩⟩, Below.refl _ _⟩⟩
  case round =>
    obtain ⟨i, X, hgz, rfl, HQ⟩ := hrel
    rcases Nat.lt_or_ge i n with hi | hi
    · obtain ⟨g, o, b, hA, hb, hcb⟩ := entry_at (A := A) (c := c) (n := n) (i := i) (by have := HE.out.row; rwa [← HN.out.1] at this) (by have := HN.out.1; omega)
      subst hA
      have hgl : g < w.heap.size := q_lt HE.out.row g rfl
      have cb : wr.cell? ⟨g, o + i, none⟩ = some (.pointer (some ⟨b, 0, none⟩)) := (HQ.out.2.cell hgl).trans hcb
      obtain ⟨hM, cs, hEnt, hcs⟩ := HE.out.ents b (List.mem_of_getElem? hb)
      obtain ⟨h0, h1, h2, h3, h4, h5, h6, h7, h8, h9, h10, h11, h12, h13, h14, h15, h16, h17, h18, h19, nm, t0, t1, t2, t3, t4, t5, m0, m1, m2, m3, m4, m5, st, b1, b2, hrange, rfl⟩ := hEnt.form
      have HC := Aside0.mk (fileOf_calls (w := wr) (B := b) hrange ((HQ.out.2.block b (lt_of_block hcs)).trans hcs))
      have d1 : decide (i < n) = true := decide_eq_true hi
      have d1' : decide ((i : Int) < (n : Int)) = true := decide_eq_true (by omega)
      have ai : (0 : Int) ≤ (i : Int) := by omega
      have ai' : (i : Int) < (n : Int) := by omega
      clear hb hcb hM hEnt hcs hrange
      go_wp2_with (first | (at_builtin; refine Aside0.out ?_) | (go_at_call 32; refine HC.out.mono ?_; rintro e w2 ⟨⟨cs2, rfl, f1, f2, f3, f4, f5, f6, f7, f8, f9, f10, f11, f12, f13, f14, f15, rfl⟩, hb2⟩; have HB2 := Aside0.mk hb2; clear hb2))
      refine Aside0.mk ?_
      refine push_file rfl (.tmp 15) (.tmp 18) w.heap.size rfl _ i X _ rfl (by simp [Value.oneCell']) rfl rfl (q_move HQ.out.1 (fun k hk => HB2.out.block k (q_lt HQ.out.1 k hk))) (Nat.le_trans HQ.out.2.size HB2.out.size) (by have := HN.out; omega) ?_
      intro v5 w5 hq5 hb5
      have HQ5 : Aside0 (QRow w5 w.heap.size 35 15 v5 (i + 1) (X ++ #[.int .i64 f1, .int .i64 f2, .int .i64 f3, .int .i64 f4, .int .u32 f5, .int .u32 f6, .int .u32 f7, .int .u32 f8, .int .u32 f9, .int .u32 f10, .string f11, .string f12, .int .i64 f13, .bool f14, .bool f15].toList) ∧ Below w.heap.size w w5) := ⟨hq5, (HQ.out.2.trans (HB2.out.mono HQ.out.2.size)).trans hb5⟩
      clear hq5 hb5 HQ HB2
      go_wp2_with fail
      go_roundg (gk - 1)
      case measure => omega
      case rel =>
        have hn1000 : n ≤ 1000 := by have := HN.out; omega
        have hw : wrap64 ((i : Int) + 1) = ((i + 1 : Nat) : Int) := by unfold wrap64; omega
        refine ⟨i + 1, _, by omega, ?_, HQ5⟩
        first | (rw [hw]; done) | (rw [← hw]; done) | (simp only [hw]; done) | go_num
    · obtain rfl : i = n := by omega
      have d1 : decide (i < i) = false := decide_eq_false (by omega)
      go_wp2_with fail
      go_ret
      exact ⟨⟨_, rfl⟩, HQ.out.2⟩
end Go.Proofs.YtllikhbafaohgaaGreatDoor.Idx
