/- All entries of an index are read. -/
import Derived.Test.YtllikhbafaohgaaGreatDoorIM
namespace Go.Proofs.YtllikhbafaohgaaGreatDoor.Idx
open Go.RowKit Go.Proofs.YtllikhbafaohgaaGreatDoorW.PrintWords Go.Proofs.YtllikhbafaohgaaGreatDoorW.PrintLast Go.Proofs.YtllikhbafaohgaaGreatDoorW.PrintMore
set_option linter.unusedVariables false
set_option linter.unusedSimpArgs false

def ptrs (l : List Nat) : List Value := l.map (fun b => .pointer (some ⟨b, 0, none⟩))
theorem ptrs_length (l : List Nat) : (ptrs l).length = l.length := by simp [ptrs]
theorem ptrs_append (l m : List Nat) : ptrs (l ++ m) = ptrs l ++ ptrs m := by simp [ptrs]
theorem info74 : (Tryz.prog.info? 74).map (fun i => (i.zero, i.size, i.bytes)) = some (some (.pointer none), 1, 8) := by kernel_rfl
theorem push_ptr {ops : Array Oper} {rest : List Oper} {o : Oper} {a : Act} {Q' : Exit → Act → World → Prop} {W : World} (hgd : o.guard = none) (s x : Operand) (base : Nat)
    (ho : o.op = .call { callee := .builtin .append, args := #[s, x], argTypes := #[40, 40] }) (v : Value) (xs : List Nat) (b g : Nat) (hg : g = W.heap.size) (hs : a.eval s = v) (hx : a.eval x = .slice (some ⟨g, 0, none⟩) 1 1)
    (HO : QRow W base 74 1 v xs.length (ptrs xs)) (hbase : base ≤ W.heap.size) (hl : xs.length ≤ 1000000)
    (h : ∀ v1 w1, QRow w1 base 74 1 v1 (xs ++ [b]).length (ptrs (xs ++ [b])) → W.grownBy w1 v.ownBlock → wpList Tryz.prog ops Q' rest (a.put o.dst v1) w1) :
    wpList Tryz.prog ops Q' (o :: rest) a (W.alloc (.cells #[.pointer (some ⟨b, 0, none⟩)] 74)) := by
  subst hg
  obtain ⟨i0, hi, hz0, hz1, hz2⟩ := info_parts info74
  obtain ⟨v1, w1, hr, h1, h2, h3⟩ := q_append (P := Tryz.prog) (W.alloc (.cells #[.pointer (some ⟨b, 0, none⟩)] 74)) base 40 o.type 74 i0 (.pointer none) 1 8 Tryz.underlying40 hi hz0 hz1 hz2 rfl (by decide) v xs.length (ptrs xs) (q_move HO (fun k hk => Below.heap_alloc W _ k (q_lt HO k hk))) ⟨W.heap.size, 0, none⟩ 1 1 (ptrs [b]) rfl
    (fun j u hu => by
      rw [add_off, Nat.zero_add]
      exact cell_of (heap_alloc_new W _) j (by unfold ptrs at hu; rw [← List.getElem?_toArray] at hu; exact hu))
    (fun u hu => by obtain ⟨b, _, rfl⟩ := List.mem_map.1 hu; rfl) (by omega) (by simp only [maxLen]; omega) (by omega) (Nat.le_trans hbase (size_le_alloc _ _))
  refine wpList_plain hgd fun K hK => ?_
  unfold Oper.wp execOp
  simp only [ho, resolve, invoke, builtin, Sem.run_bind, Sem.run_pure, Result.andThen_ok, List.map_toArray, List.map_cons, List.map_nil, hs, hx, hr]
  exact hK _ _ (h v1 w1 (by rw [List.length_append, ptrs_append]; exact h1) (World.grownBy.trans (World.grownBy_alloc W _ _) h2))
/-- The index at block x has these entries. -/
structure EntS (w : World) (M x : Nat) (ev : Value) (ps : List Nat) : Prop where
  idx : w.heap[x]? = some (.cells #[.int .u32 2, ev, .pointer none, .pointer none, .pointer none, .int .i64 0, .int .i64 0, .int .i64 0] 47 (0, 0))
  row : QRow w M 74 1 ev ps.length (ptrs ps)
  ents : ∀ b ∈ ps, M ≤ b ∧ ∃ cs, Ent cs ∧ w.heap[b]? = some (.cells cs 118 (0, 0))
  lt : x < M
  le : M ≤ w.heap.size
theorem EntS.keep {w w' : World} {M x : Nat} {ev : Value} {ps : List Nat} (h : EntS w M x ev ps) {F : Nat → Prop} (k : Keep w w' F) (h1 : ¬ F x) (h2 : ∀ j, ev.ownBlock = some j → ¬ F j) (h3 : ∀ b cs, w.heap[b]? = some (.cells cs 118 (0, 0)) → M ≤ b → ¬ F b) : EntS w' M x ev ps :=
  ⟨(k.block x (lt_of_block h.idx) h1).trans h.idx, q_move h.row (fun j hj => k.block j (q_lt h.row j hj) (h2 j hj)), fun b hb => by
    obtain ⟨hM, cs, hE, hc⟩ := h.ents b hb
    exact ⟨hM, cs, hE, (k.block b (lt_of_block hc) (h3 b cs hc hM)).trans hc⟩, h.lt, Nat.le_trans h.le k.size⟩
/-- Where the entries of an index lie. -/
structure Lay (D : List Int) (n cnt : Nat) (pos len : Nat → Nat) : Prop where
  next : ∀ a, a < cnt → pos (a + 1) = pos a + 62 + len a + pad (len a)
  posi : ∀ a, a < cnt → 0 < len a
  small : ∀ a, a < cnt → len a < 4000
  flags : ∀ a, a < cnt → Go.bits .and .u16 (bigOf ((D.drop (pos a + 60)).take 2) % 65536) 4095 = (len a : Int)
  plain : ∀ a, a < cnt → Go.bits .and .u16 (bigOf ((D.drop (pos a + 60)).take 2) % 65536) 16384 = 0
  le : ∀ a, a ≤ cnt → pos a ≤ n
theorem St.typed {w : World} {d : DC} {i : Nat} {v : Value} (h : St w d i v) {j : Nat} {cs : Array Value} {t : TypeId} (hj : w.heap[j]? = some (.cells cs t (0, 0))) (ht : t ≠ 5) : v.ownBlock ≠ some j := fun e => by
  obtain ⟨_, c, hc⟩ := q_typed h.hash.row j e
  rw [hj] at hc
  injection hc with hc
  injection hc with _ hc
  exact ht hc
theorem St.free {w : World} {d : DC} {i : Nat} {v : Value} (hd : d.Ok) (h : St w d i v) {j : Nat} {cs : Array Value} {t : TypeId} (hj : w.heap[j]? = some (.cells cs t (0, 0))) (ht : t ≠ 5) (hN : d.N ≤ j) : Free d v j :=
  ⟨fun e => by have := hd.pN; omega, fun e => by have := hd.bN; omega, fun e => by have := hd.gN; omega, fun e => by have := hd.AN; omega, fun e => by have := hd.hN; omega, fun e => by have := hd.tN; omega, h.typed hj ht⟩
set_option maxHeartbeats 16000000 in
set_option maxRecDepth 100000 in
theorem readEntries_calls {w : World} {d : DC} {cnt k x M p2 : Nat} {pos len : Nat → Nat} {v : Value} {q7 : Addr} (hd : d.Ok) (hL : Lay d.c.D d.c.n cnt pos len) (hcnt : cnt ≤ 1000) (H : St w d (pos 0) v) (hk : Dcd w d k (.pointer none) p2) (hkF : Free d v k) (hxF : Free d v x) (hkx : k ≠ x) (hk22 : 22 ≤ k) (hx22 : 22 ≤ x) (hMw : M = w.heap.size) (hE : EntS w M x (.slice none 0 0) []) (hu : w.cell? ⟨7, 0, none⟩ = some (.iface 179 (.pointer (some q7)))) :
    Calls Tryz.prog 30 #[.pointer (some ⟨k, 0, none⟩), .pointer (some ⟨x, 0, none⟩), .int .i64 cnt] w fun e w' => e = .returned .nilIface ∧ ∃ v' le ev ps, St w' d (pos cnt) v' ∧ Owns w v v' ∧ Dcd w' d k le p2 ∧ EntS w' M x ev ps ∧ ps.length = cnt ∧ Keep w w' (fun j => Fr0 d v j ∨ j = k ∨ j = x) := by
  have HD := Aside0.mk hd
  have HL := Aside0.mk hL
  have HS := Aside0.mk H
  have HKd := Aside0.mk hk
  have HF := Aside0.mk (⟨hkF, hxF, hkx, hk22, hx22⟩ : Free d v k ∧ Free d v x ∧ k ≠ x ∧ 22 ≤ k ∧ 22 ≤ x)
  have HM := Aside0.mk (⟨by rw [hMw]; exact lt_of_block hk, by rw [hMw]; exact H.hash.le, hMw⟩ : k < M ∧ d.N ≤ M ∧ M = w.heap.size)
  have HE := Aside0.mk hE
  have HU := Aside0.mk hu
  clear hd hL H hk hkF hxF hkx hk22 hx22 hMw hE hu
  go_enter Tryz.func30, Tryz.ntmps30
  go_wp2_with fail
  go_loopg [7, 8, 9] cnt (fun kq v7 v8 v9 w' => ∃ (a : Nat) (va le ev : Value) (ps : List Nat), kq + a = cnt ∧ v7 = .int .i64 a ∧ Aside0 (St w' d (pos a) va ∧ Owns w v va ∧ Dcd w' d k le p2 ∧ EntS w' M x ev ps ∧ ps.length = a ∧ Keep w w' (fun j => Fr0 d v j ∨ j = k ∨ j = x)))
  case atStart => exact ⟨0, v, .pointer none, .slice none 0 0, [], by omega, rfl, ⟨HS.out, Owns.refl _ _, HKd.out, HE.out, rfl, Keep.refl _ _⟩⟩
  case round =>
    obtain ⟨a, va, le, ev, ps, hga, rfl, HR⟩ := hrel
    rcases Nat.lt_or_ge a cnt with hlt | hge
    · have d1 : decide (a < cnt) = true := decide_eq_true hlt
      obtain ⟨b, hb⟩ : ∃ b, b = wr.heap.size := ⟨_, rfl⟩
      have HC : Aside0 (Calls Tryz.prog 44 #[.pointer (some ⟨k, 0, none⟩), .pointer (some ⟨x, 0, none⟩)] wr fun e w' => e = .returned (.tuple #[.pointer (some ⟨b, 0, none⟩), .nilIface]) ∧ ∃ v2, St w' d (pos (a + 1)) v2 ∧ Owns w v v2 ∧ Dcd w' d k le p2 ∧ EntS w' M x ev ps ∧ ps.length = a ∧ (∃ cs, Ent cs ∧ w'.heap[b]? = some (.cells cs 118 (0, 0))) ∧ M ≤ b ∧ Keep w w' (fun j => Fr0 d v j ∨ j = k ∨ j = x)) := ⟨by
        rw [hb]
        obtain ⟨hs, ho, hdk, hes, hpl, hkp⟩ := HR.out
        have hn := HL.out.next a hlt
        have hkl : k < w.heap.size := lt_of_block HKd.out
        have hxl : x < w.heap.size := lt_of_block HE.out.idx
        refine (readEntry_calls HD.out hs (by rw [← hn]; exact HL.out.le (a + 1) hlt) hdk (HF.out.1.of ho hkl) (HF.out.2.1.of ho hxl) (HL.out.posi a hlt) (HL.out.small a hlt) (cell_of hes.idx 0 rfl) (HL.out.flags a hlt) (HL.out.plain a hlt) (hkp.cell HU.out ?_)).mono fun e w' ⟨h1, h2, v2, h3, h4, h5⟩ => ⟨h1, v2, by rw [hn]; exact h3, ho.trans h4 hkp.size, hdk.keep h5 (HF.out.1.of ho hkl).fr0, hes.keep h5 (HF.out.2.1.of ho hxl).fr0 ?_ ?_, hpl, h2, hes.le, ?_⟩
        · intro hF
          have h22 := HF.out.2.2.2
          rcases hF with hF | e | e
          · exact St.glob (k := 7) HD.out HS.out (by omega) hF
          · have e : 7 = k := e
            omega
          · have e : 7 = x := e
            omega
        · intro j hj
          obtain ⟨hM, c, hc⟩ := q_typed hes.row j hj
          exact (hs.free HD.out hc (by decide) (Nat.le_trans HM.out.2.1 hM)).fr0
        · intro b cs hc hM
          exact (hs.free HD.out hc (by decide) (Nat.le_trans HM.out.2.1 hM)).fr0
        · exact hkp.trans h5 (fun j hj hF => .inl (hF.elim Or.inl (fun hF => Or.inr (hF.elim Or.inl (fun e => (ho j e.symm).elim Or.inr (fun e => by omega))))))⟩
      have HGa := Aside0.mk hga
      clear HR hb hga
      go_wp2_with (first | (go_at_call 44; refine HC.out.mono ?_; rintro e w2 ⟨rfl, v2, hs2, ho2, hd2, he2, hp2, hc2, hm2, hk2⟩; have HS2 := Aside0.mk hs2; have HO2 := Aside0.mk ho2; have HD2 := Aside0.mk hd2; have HE2 := Aside0.mk he2; have HP2 := Aside0.mk hp2; have HC2 := Aside0.mk hc2; have HM2 := Aside0.mk hm2; have HK2 := Aside0.mk hk2; have k3 : w2.cell? ⟨k, 3, none⟩ = some le := cell_of hd2 3 rfl; have f3 : w2.frozen? ⟨k, 3, none⟩ = false := frozen_of hd2 3; have x1 : w2.cell? ⟨x, 1, none⟩ = some ev := cell_of he2.idx 1 rfl; clear hs2 ho2 hd2 he2 hp2 hc2 hm2 hk2) | (at_builtin; refine Aside0.out ?_))
      obtain ⟨W3, hW3⟩ : ∃ W3, W3 = w2.setCell ⟨k, 3, none⟩ (.pointer (some ⟨b, 0, none⟩)) := ⟨_, rfl⟩
      rw [← hW3]
      have hk3 : Keep w2 W3 (fun q => q = k) := by rw [hW3]; exact Keep.setCell (F := fun q => q = k) (a := ⟨k, 3, none⟩) (Keep.refl w2 _) (.inl rfl) _
      have HD3 : Aside0 (Dcd W3 d k (.pointer (some ⟨b, 0, none⟩)) p2) := ⟨by rw [hW3]; exact set_block HD2.out 3 _⟩
      have hkl : k < w.heap.size := lt_of_block HKd.out
      have hxl : x < w.heap.size := lt_of_block HE.out.idx
      have hne : ∀ j c t, w2.heap[j]? = some (.cells c t (0, 0)) → t ≠ 76 → j ≠ k := fun j c t hc ht e => by
        subst e
        have h := HD2.out
        unfold Dcd at h
        rw [hc] at h
        injection h with h
        injection h with _ h
        exact ht h
      have HE3 : Aside0 (EntS W3 M x ev ps) := ⟨HE2.out.keep hk3 (fun e => HF.out.2.2.1 e.symm) (fun j hj => by obtain ⟨_, c, hc⟩ := q_typed HE2.out.row j hj; exact hne j c _ hc (by decide)) (fun b cs hc _ => hne b cs _ hc (by decide))⟩
      have hb3 : W3.heap[b]? = w2.heap[b]? := by
        obtain ⟨cs, _, hc⟩ := HC2.out
        exact hk3.block b (lt_of_block hc) (hne b cs _ hc (by decide))
      have HS3 : Aside0 (St W3 d (pos (a + 1)) v2) := ⟨by
        have hf := HF.out.1.of HO2.out hkl
        refine ⟨HS2.out.buf.keep hk3 hf.g.symm hf.p.symm hf.bb.symm hf.A.symm, HS2.out.hash.keep hk3 hf.h.symm (fun j hj e => hf.v (by rw [← e]; exact hj)), (hk3.block d.t (lt_of_block HS2.out.tee) hf.t.symm).trans HS2.out.tee⟩⟩
      have HC3 : Aside0 (∃ cs, Ent cs ∧ W3.heap[b]? = some (.cells cs 118 (0, 0))) := ⟨by rw [hb3]; exact HC2.out⟩
      have HK3 : Aside0 (Keep w W3 (fun j => Fr0 d v j ∨ j = k ∨ j = x)) := ⟨HK2.out.trans hk3 (fun q _ e => .inr (.inl e))⟩
      have hs3 : W3.heap.size = w2.heap.size := by rw [hW3]; simp [World.setCell]
      clear hW3 hk3 hne hb3 k3 f3 x1 HC2 HS2 HE2 HD2 HK2
      refine Aside0.mk ?_
      refine push_ptr rfl (.tmp 32) (.tmp 34) M rfl ev ps b w2.heap.size hs3.symm rfl rfl HE3.out.row HE3.out.le (by have := HP2.out; omega) ?_
      rintro v5 w5 hr5 hg5
      obtain ⟨A5, c5, hv5, -⟩ := q_slice hr5
      obtain ⟨n5, hn5⟩ : ∃ n5, n5 = (ps ++ [b]).length := ⟨_, rfl⟩
      rw [← hn5] at hv5
      have HN5' := Aside0.mk hn5
      clear hn5
      subst hv5
      have hrow : ∀ j, ev.ownBlock = some j → ∃ c, W3.heap[j]? = some (.cells c 74 (0, 0)) ∧ M ≤ j := fun j hj => by
        obtain ⟨h1, c, hc⟩ := q_typed HE3.out.row j hj
        exact ⟨c, hc, h1⟩
      have hk5 : Keep W3 w5 (fun j => some j = ev.ownBlock) := ⟨hg5.os, hg5.tape, hg5.output, hg5.size, fun j hj hn => hg5.block j hj hn⟩
      have HS5 : Aside0 (St w5 d (pos (a + 1)) v2) := ⟨HS3.out.keep HD.out hk5 (fun j hj => by
        obtain ⟨c, hc, hM⟩ := hrow j hj.symm
        exact ⟨Nat.le_trans HM.out.2.1 hM, fun e => HS3.out.typed hc (by decide) e.symm⟩)⟩
      have HD5 : Aside0 (Dcd w5 d k (.pointer (some ⟨b, 0, none⟩)) p2) := ⟨HD3.out.keep hk5 (fun e => by obtain ⟨c, hc, hM⟩ := hrow k e.symm; have := HM.out.1; omega)⟩
      have hx5 : w5.heap[x]? = some (.cells #[.int .u32 2, ev, .pointer none, .pointer none, .pointer none, .int .i64 0, .int .i64 0, .int .i64 0] 47 (0, 0)) := (hk5.block x (lt_of_block HE3.out.idx) (fun e => by obtain ⟨c, hc, hM⟩ := hrow x e.symm; have := HE3.out.lt; omega)).trans HE3.out.idx
      have HX5 := Aside0.mk hx5
      have x1 : w5.cell? ⟨x, 1, none⟩ = some ev := cell_of hx5 1 rfl
      have fx1 : w5.frozen? ⟨x, 1, none⟩ = false := frozen_of hx5 1
      have HR5 := Aside0.mk hr5
      have hent : ∀ b', (M ≤ b' ∧ ∃ cs, Ent cs ∧ W3.heap[b']? = some (.cells cs 118 (0, 0))) → M ≤ b' ∧ ∃ cs, Ent cs ∧ w5.heap[b']? = some (.cells cs 118 (0, 0)) := fun b' ⟨h1, cs, h2, h3⟩ => ⟨h1, cs, h2, (hk5.block b' (lt_of_block h3) (fun e => by
        obtain ⟨c, hc, _⟩ := hrow b' e.symm
        rw [h3] at hc
        injection hc with hc
        injection hc with _ hc
        exact absurd hc (by decide))).trans h3⟩
      have HN5 : Aside0 (∀ b' ∈ ps ++ [b], M ≤ b' ∧ ∃ cs, Ent cs ∧ w5.heap[b']? = some (.cells cs 118 (0, 0))) := ⟨fun b' hb' => by
        rcases List.mem_append.1 hb' with h | h
        · exact hent b' (HE3.out.ents b' h)
        · obtain rfl := List.mem_singleton.1 h
          exact hent _ ⟨HM2.out, HC3.out⟩⟩
      have HK5 : Aside0 (Keep w w5 (fun j => Fr0 d v j ∨ j = k ∨ j = x)) := ⟨HK3.out.trans hk5 (fun j hj e => by
        obtain ⟨c, hc, hM⟩ := hrow j e.symm
        have := HM.out.2.2
        omega)⟩
      have HLe5 : Aside0 (M ≤ w5.heap.size) := ⟨Nat.le_trans HE3.out.le hk5.size⟩
      clear hr5 hg5 hrow hk5 hx5 hent hs3 HS3 HD3 HE3 HK3 HC3
      go_wp2_with fail
      obtain ⟨W6, hW6⟩ : ∃ W6, W6 = w5.setCell ⟨x, 1, none⟩ (.slice A5 n5 c5) := ⟨_, rfl⟩
      rw [← hW6]
      have hk6 : Keep w5 W6 (fun q => q = x) := by rw [hW6]; exact Keep.setCell (F := fun q => q = x) (a := ⟨x, 1, none⟩) (Keep.refl w5 _) (.inl rfl) _
      have hx6 : W6.heap[x]? = some (.cells #[.int .u32 2, .slice A5 n5 c5, .pointer none, .pointer none, .pointer none, .int .i64 0, .int .i64 0, .int .i64 0] 47 (0, 0)) := by rw [hW6]; exact set_block HX5.out 1 _
      have hne6 : ∀ j c t, w5.heap[j]? = some (.cells c t (0, 0)) → t ≠ 47 → j ≠ x := fun j c t hc ht e => by
        subst e
        rw [HX5.out] at hc
        injection hc with hc
        injection hc with _ hc
        exact ht hc.symm
      have hf6 := HF.out.2.1.of HO2.out hxl
      have hE6 : EntS W6 M x (.slice A5 n5 c5) (ps ++ [b]) := by
        refine ⟨hx6, ?_, ?_, ?_, Nat.le_trans HLe5.out hk6.size⟩
        · refine q_move HR5.out (fun j hj => ?_)
          obtain ⟨_, c, hc⟩ := q_typed HR5.out j hj
          exact hk6.block j (q_lt HR5.out j hj) (hne6 j c _ hc (by decide))
        · intro b' hb'
          obtain ⟨h1, cs, h2, h3⟩ := HN5.out b' hb'
          exact ⟨h1, cs, h2, (hk6.block b' (lt_of_block h3) (hne6 b' cs _ h3 (by decide))).trans h3⟩
        · exact HE.out.lt
      have hS6 : St W6 d (pos (a + 1)) v2 := ⟨HS5.out.buf.keep hk6 hf6.g.symm hf6.p.symm hf6.bb.symm hf6.A.symm, HS5.out.hash.keep hk6 hf6.h.symm (fun j hj e => hf6.v (by rw [← e]; exact hj)), (hk6.block d.t (lt_of_block HS5.out.tee) hf6.t.symm).trans HS5.out.tee⟩
      have hD6 := HD5.out.keep hk6 HF.out.2.2.1
      have hK6 : Keep w W6 (fun j => Fr0 d v j ∨ j = k ∨ j = x) := HK5.out.trans hk6 (fun q _ e => .inr (.inr e))
      go_roundg (cnt - (a + 1))
      case measure => have := HGa.out; omega
      case rel => exact ⟨a + 1, v2, _, _, ps ++ [b], by omega, by go_num, ⟨hS6, HO2.out, hD6, hE6, by rw [List.length_append, HP2.out]; rfl, hK6⟩⟩
    · obtain rfl : a = cnt := by omega
      clear hge
      go_wp2_with fail
      go_ret
      obtain ⟨hs, ho, hdk, hes, hpl, hkp⟩ := HR.out
      exact ⟨rfl, va, le, ev, ps, hs, ho, hdk, hes, hpl, hkp⟩
end Go.Proofs.YtllikhbafaohgaaGreatDoor.Idx
