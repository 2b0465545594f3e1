/- SHA-1: bytes are written to a hash. -/
import Derived.Test.YtllikhbafaohgaaGreatDoorIA
namespace Go.Proofs.YtllikhbafaohgaaGreatDoor.Idx
open Go.RowKit Go.Proofs.YtllikhbafaohgaaGreatDoorW.PrintWords Go.Proofs.YtllikhbafaohgaaGreatDoorW.PrintLast Go.Proofs.YtllikhbafaohgaaGreatDoorW.PrintMore
set_option linter.unusedVariables false
set_option linter.unusedSimpArgs false

/-- So many blocks of 64 bytes. -/
def shaRun : Nat → S5 → List Int → S5
  | 0, s, _ => s
  | n + 1, s, D => shaRun n (sha1step s (D.take 64)) (D.drop 64)
theorem shaRun_succ : ∀ (n : Nat) (s : S5) (D : List Int), shaRun (n + 1) s D = sha1step (shaRun n s D) ((D.drop (64 * n)).take 64)
  | 0, s, D => rfl
  | n + 1, s, D => by
    have ih := shaRun_succ n (sha1step s (D.take 64)) (D.drop 64)
    show shaRun (n + 1) (sha1step s (D.take 64)) (D.drop 64) = _
    rw [ih, List.drop_drop, show 64 + 64 * n = 64 * (n + 1) by omega]
    rfl
theorem shaRun_append : ∀ (n : Nat) (s : S5) (D x : List Int), 64 * n ≤ D.length → shaRun n s (D ++ x) = shaRun n s D
  | 0, _, _, _, _ => rfl
  | n + 1, s, D, x, h => by
    show shaRun n (sha1step s ((D ++ x).take 64)) ((D ++ x).drop 64) = shaRun n (sha1step s (D.take 64)) (D.drop 64)
    rw [List.take_append_of_le_length (by omega), List.drop_append_of_le_length (by omega)]
    exact shaRun_append n _ _ x (by rw [List.length_drop]; omega)
def sha0 : S5 := ⟨1732584193, 4023233417, 2562383102, 271733878, 3285377520⟩
def shaOf (D : List Int) : S5 := shaRun (D.length / 64) sha0 D
def restOf (D : List Int) : List Int := D.drop (64 * (D.length / 64))
/-- The hash at block h has taken the bytes D; v holds those that are no whole block. -/
structure HashAt (w : World) (N h : Nat) (v : Value) (D : List Int) : Prop where
  blk : shaB w h (shaOf D) v (.int .u64 D.length)
  row : QRow w N 5 1 v (restOf D).length (nums .u8 (restOf D))
  lt : h < N
  le : N ≤ w.heap.size
theorem HashAt.own {w : World} {N h : Nat} {v : Value} {D : List Int} (H : HashAt w N h v D) : ∀ k, v.ownBlock = some k → N ≤ k ∧ k < w.heap.size := fun k hk => ⟨(q_typed H.row k hk).1, q_lt H.row k hk⟩
theorem HashAt.keep {w w' : World} {N h : Nat} {v : Value} {D : List Int} {F : Nat → Prop} (H : HashAt w N h v D) (k : Keep w w' F) (h1 : ¬ F h) (h2 : ∀ j, v.ownBlock = some j → ¬ F j) : HashAt w' N h v D :=
  ⟨(k.block h (lt_of_block H.blk) h1).trans H.blk, q_move H.row (fun j hj => k.block j (H.own j hj).2 (h2 j hj)), H.lt, Nat.le_trans H.le k.size⟩

theorem append_bytes {ops : Array Oper} {rest : List Oper} {o : Oper} {a : Act} {Q' : Exit → Act → World → Prop} {W : World} (hgd : o.guard = none) (s x : Operand) (base : Nat)
    (ho : o.op = .call { callee := .builtin .append, args := #[s, x], argTypes := #[24, 24] }) (v : Value) (xs ys : List Int) (A : Addr) (m c : Nat) (hs : a.eval s = v) (hx : a.eval x = .slice (some A) m c)
    (HO : QRow W base 5 1 v xs.length (nums .u8 xs)) (hC : ∀ (j : Nat) (u : Value), (nums .u8 ys)[j]? = some u → W.cell? (A.add j) = some u) (hm : ys.length = m) (hm0 : 0 < m) (hbase : base ≤ W.heap.size) (hl : xs.length + m ≤ 140737488355328)
    (h : ∀ v1 w1, QRow w1 base 5 1 v1 (xs ++ ys).length (nums .u8 (xs ++ ys)) → W.grownBy w1 v.ownBlock → (v1.ownBlock = v.ownBlock ∨ ∃ b, v1.ownBlock = some b ∧ W.heap.size ≤ b) → wpList Tryz.prog ops Q' rest (a.put o.dst v1) w1) :
    wpList Tryz.prog ops Q' (o :: rest) a W := by
  obtain ⟨i0, hi, hz0, hz1, hz2⟩ := info_parts PFnIdxSum.info5
  obtain ⟨v1, w1, hr, h1, h2, h3⟩ := q_append (P := Tryz.prog) W base 24 o.type 5 i0 (.int .u8 0) 1 1 Tryz.underlying24 hi hz0 hz1 hz2 rfl (by decide) v xs.length (nums .u8 xs) HO A m c (nums .u8 ys) (by rw [nums_length, hm, Nat.mul_one]) hC
    (fun u hu => by obtain ⟨b, _, rfl⟩ := List.mem_map.1 hu; rfl) hm0 (by simp only [maxLen]; omega) (by omega) hbase
  refine wpList_plain hgd fun K hK => ?_
  unfold Oper.wp execOp
  simp only [ho, resolve, invoke, builtin, Sem.run_bind, Sem.run_pure, Result.andThen_ok, List.map_toArray, List.map_cons, List.map_nil, hs, hx, hr]
  exact hK _ _ (h v1 w1 (by rw [List.length_append, hm, nums_append]; exact h1) h2 h3)
set_option maxHeartbeats 8000000 in
set_option maxRecDepth 100000 in
theorem hashWrite_calls {w : World} {N h m c : Nat} {v : Value} {A : Addr} {D xs : List Int} (hH : HashAt w N h v D) (hC : ∀ (j : Nat) (u : Value), (nums .u8 xs)[j]? = some u → w.cell? (A.add j) = some u) (hm : xs.length = m) (hm0 : 0 < m) (hl : D.length + m ≤ 1000000000) (hAh : A.block ≠ h) :
    Calls Tryz.prog 151 #[.pointer (some ⟨h, 0, none⟩), .slice (some A) m c] w fun e w' => e = .returned (.tuple #[.int .i64 m, .nilIface]) ∧ ∃ v', HashAt w' N h v' (D ++ xs) ∧ (∀ k, v'.ownBlock = some k → some k = v.ownBlock ∨ w.heap.size ≤ k) ∧ Keep w w' (fun k => k = h ∨ some k = v.ownBlock) := by
  have HH := Aside0.mk hH
  have HC := Aside0.mk hC
  have HM := Aside0.mk (⟨hm, hl, hAh⟩ : xs.length = m ∧ D.length + m ≤ 1000000000 ∧ A.block ≠ h)
  have c6 : w.cell? ⟨h, 6, none⟩ = some (.int .u64 D.length) := cell_of hH.blk 6 rfl
  have f6 : w.frozen? ⟨h, 6, none⟩ = false := frozen_of hH.blk 6
  have c5 : w.cell? ⟨h, 5, none⟩ = some v := cell_of hH.blk 5 rfl
  have e1 : IntKind.u64.wrap ((D.length : Int) + (m : Int)) = ((D.length + m : Nat) : Int) := by simp [IntKind.wrap, IntKind.bits, IntKind.signed]; omega
  have e2 : ((D.length : Int) + (m : Int)) % 18446744073709551616 = ((D.length + m : Nat) : Int) := by omega
  have e3 : (m : Int) % 18446744073709551616 = (m : Int) := by omega
  clear hH hC hm hAh
  go_enter Tryz.func151, Tryz.ntmps151
  go_wp2_with (at_builtin; refine Aside0.out ?_)
  obtain ⟨W1, hW1⟩ : ∃ W1, W1 = w.setCell ⟨h, 6, none⟩ (.int .u64 ((D.length : Int) + (m : Int))) := ⟨_, rfl⟩
  rw [← hW1]
  have hvh : ∀ k, v.ownBlock = some k → k ≠ h := fun k hk => by have := (HH.out.own k hk).1; have := HH.out.lt; omega
  have HB1 : Aside0 (shaB W1 h (shaOf D) v (.int .u64 ((D.length : Int) + (m : Int)))) := ⟨by rw [hW1]; exact set_block HH.out.blk 6 _⟩
  have HR1 : Aside0 (QRow W1 N 5 1 v (restOf D).length (nums .u8 (restOf D))) := ⟨by rw [hW1]; exact q_move HH.out.row (fun k hk => Below.heap_setCell w ⟨h, 6, none⟩ _ k (hvh k hk))⟩
  have HC1 : Aside0 (∀ (j : Nat) (u : Value), (nums .u8 xs)[j]? = some u → W1.cell? (A.add j) = some u) := ⟨fun j u hu => by
    rw [hW1, World.cell?_setCell_other _ _ _ _ (fun e => HM.out.2.2 ((add_block A j).symm.trans (congrArg Addr.block e).symm))]
    exact HC.out j u hu⟩
  have HK1 : Aside0 (Keep w W1 (fun k => k = h ∨ some k = v.ownBlock)) := ⟨by rw [hW1]; exact Keep.setCell (a := ⟨h, 6, none⟩) (Keep.refl w _) (.inl (Or.inl rfl)) _⟩
  have HLe1 : Aside0 (N ≤ W1.heap.size) := ⟨Nat.le_trans HH.out.le HK1.out.size⟩
  have hrl : (restOf D).length ≤ D.length := by unfold restOf; rw [List.length_drop]; omega
  have HRl : Aside0 ((restOf D).length + m ≤ 140737488355328) := ⟨by omega⟩
  clear hW1 c5 c6 f6 hrl hvh e1 e2 e3
  refine Aside0.mk ?_
  refine append_bytes rfl (.tmp 20) (.tmp 21) N rfl v (restOf D) xs A m c rfl rfl HR1.out HC1.out HM.out.1 hm0 HLe1.out HRl.out ?_
  rintro v1 w2 hr2 hg2 hat2
  obtain ⟨A1, c1, hv1, -⟩ := q_slice hr2
  obtain ⟨D2, hD2⟩ : ∃ D2, D2 = D ++ xs := ⟨_, rfl⟩
  obtain ⟨n0, hn0⟩ : ∃ n0, n0 = D.length / 64 := ⟨_, rfl⟩
  have hDl : D2.length = D.length + m := by rw [hD2, List.length_append, HM.out.1]
  have hrest : restOf D ++ xs = D2.drop (64 * n0) := by
    unfold restOf
    rw [hD2, hn0, List.drop_append_of_le_length (by omega)]
  have hsha : shaOf D = shaRun n0 sha0 D2 := by
    unfold shaOf
    rw [hD2, hn0, shaRun_append _ _ _ _ (by omega)]
  rw [hrest] at hr2 hv1
  obtain ⟨n1, hn1'⟩ : ∃ n1, n1 = (D2.drop (64 * n0)).length := ⟨_, rfl⟩
  rw [← hn1'] at hv1
  have HN1 := Aside0.mk hn1'
  subst hv1
  have hvw : ∀ k, v.ownBlock = some k → k < w.heap.size := fun k hk => (HH.out.own k hk).2
  have HK2 : Aside0 (Keep w w2 (fun k => k = h ∨ some k = v.ownBlock)) := ⟨HK1.out.trans (G := fun k => some k = v.ownBlock) ⟨hg2.os, hg2.tape, hg2.output, hg2.size, fun k hk hn => hg2.block k hk (fun e => hn e)⟩ (fun _ _ e => Or.inr e)⟩
  have HB2 : Aside0 (shaB w2 h (shaRun n0 sha0 D2) v (.int .u64 D2.length)) := ⟨by
    have hb := HB1.out
    rw [hsha] at hb
    rw [show ((D2.length : Nat) : Int) = (D.length : Int) + (m : Int) by omega]
    refine (hg2.block h (lt_of_block hb) (fun e => ?_)).trans hb
    have := (HH.out.own h e.symm).1
    have := HH.out.lt
    omega⟩
  have HR2 : Aside0 (QRow w2 N 5 1 (.slice A1 n1 c1) n1 (nums .u8 (D2.drop (64 * n0)))) := ⟨by have := hr2; rw [← hn1'] at this; exact this⟩
  have HV2 : Aside0 (∀ k, (Value.slice A1 n1 c1).ownBlock = some k → some k = v.ownBlock ∨ w.heap.size ≤ k) := ⟨fun k hk => hat2.elim (fun e => Or.inl (by rw [← e]; exact hk.symm)) (fun ⟨b, e, hb⟩ => Or.inr (by rw [hk] at e; cases e; exact Nat.le_trans HK1.out.size hb))⟩
  have HN0 : Aside0 (64 * n0 ≤ D2.length ∧ D2 = D ++ xs ∧ D2.length = D.length + m) := ⟨by omega, hD2, hDl⟩
  have cf5 : w2.cell? ⟨h, 5, none⟩ = some v := cell_of HB2.out 5 rfl
  have f5 : w2.frozen? ⟨h, 5, none⟩ = false := frozen_of HB2.out 5
  have hn1 : n0 ≤ D2.length / 64 := by omega
  clear hn1' hr2 hg2 hat2 hrest hsha hn0 hDl hD2 hvw HC1 HR1 HB1 HRl
  go_wp2_with fail
  obtain ⟨W3, hW3⟩ : ∃ W3, W3 = w2.setCell ⟨h, 5, none⟩ (.slice A1 n1 c1) := ⟨_, rfl⟩
  rw [← hW3]
  have hvh : ∀ (v' : Value) (w' : World) (n' : Nat) (xs' : List Value), QRow w' N 5 1 v' n' xs' → ∀ k, v'.ownBlock = some k → k ≠ h := fun v' w' n' xs' hq k hk => by have := (q_typed hq k hk).1; have := HH.out.lt; omega
  have HVH := Aside0.mk hvh
  have HB3 : Aside0 (shaB W3 h (shaRun n0 sha0 D2) (.slice A1 n1 c1) (.int .u64 D2.length)) := ⟨by rw [hW3]; exact set_block HB2.out 5 _⟩
  have HR3 : Aside0 (QRow W3 N 5 1 (.slice A1 n1 c1) n1 (nums .u8 (D2.drop (64 * n0)))) := ⟨by rw [hW3]; exact q_move HR2.out (fun k hk => Below.heap_setCell w2 ⟨h, 5, none⟩ _ k (HVH.out _ _ _ _ HR2.out k hk))⟩
  have HK3 : Aside0 (Keep w W3 (fun k => k = h ∨ some k = v.ownBlock)) := ⟨by rw [hW3]; exact Keep.setCell (a := ⟨h, 5, none⟩) HK2.out (.inl (Or.inl rfl)) _⟩
  clear hW3 cf5 f5 HB2 HR2 HK2 hvh
  go_loopg [] (D2.length / 64 - n0) (fun kq w' => ∃ (k : Nat) (A' : Option Addr) (n' c' : Nat), kq + k = D2.length / 64 ∧ n' + 64 * k = D2.length ∧ Aside0 (shaB w' h (shaRun k sha0 D2) (.slice A' n' c') (.int .u64 D2.length)) ∧ Aside0 (QRow w' N 5 1 (.slice A' n' c') n' (nums .u8 (D2.drop (64 * k)))) ∧ Aside0 (∀ k, (Value.slice A' n' c').ownBlock = some k → some k = v.ownBlock ∨ w.heap.size ≤ k) ∧ Aside0 (Keep w w' (fun k => k = h ∨ some k = v.ownBlock)))
  case atStart => exact ⟨n0, A1, n1, c1, by omega, by rw [HN1.out, List.length_drop]; have := HN0.out.1; omega, HB3, HR3, HV2, HK3⟩
  case round =>
    clear HB3 HR3 HK3 HV2 HN1
    obtain ⟨k, A', n', c', hgk, hn', HB, HR, HV, HK⟩ := hrel
    have cf5 : wr.cell? ⟨h, 5, none⟩ = some (.slice A' n' c') := cell_of HB.out 5 rfl
    have f5 : wr.frozen? ⟨h, 5, none⟩ = false := frozen_of HB.out 5
    have hnl : n' ≤ 1000000000 := by have := HN0.out.2.2; omega
    rcases Nat.lt_or_ge n' 64 with h64 | h64
    · have d1 : decide (64 ≤ n') = false := decide_eq_false (by omega)
      have d1' : decide ((64 : Int) ≤ (n' : Int)) = false := decide_eq_false (by omega)
      have HK64 : Aside0 (k = D2.length / 64 ∧ n' = (restOf D2).length) := ⟨by
        have h1 : k = D2.length / 64 := by omega
        refine ⟨h1, ?_⟩
        unfold restOf
        rw [List.length_drop, ← h1]
        omega⟩
      clear hgk hn' hn1
      go_wp2_with fail
      go_ret2
      rw [← HN0.out.2.1]
      refine ⟨rfl, _, ⟨?_, ?_, HH.out.lt, Nat.le_trans HH.out.le HK.out.size⟩, HV.out, HK.out⟩
      · have hb := HB.out
        rw [HK64.out.1] at hb
        exact hb
      · have hr := HR.out
        rw [HK64.out.1] at hr
        rw [← HK64.out.2]
        exact hr
    · obtain ⟨ad, hA, hcell⟩ := q_cells HR.out (by omega)
      subst hA
      obtain ⟨g, o, hgo⟩ : ∃ g o, ad = ⟨g, o, none⟩ := by
        rcases HR.out.2 with ⟨h0, _⟩ | ⟨g, o, _, _, e, _⟩
        · omega
        · cases e; exact ⟨g, o * 1, rfl⟩
      subst hgo
      have hgw : g < wr.heap.size := q_lt HR.out g rfl
      have hgh : g ≠ h := HVH.out _ _ _ _ HR.out g rfl
      obtain ⟨s, hs⟩ : ∃ s, s = shaRun k sha0 D2 := ⟨_, rfl⟩
      have hbk := HB.out
      rw [← hs] at hbk
      have HSt := Aside0.mk (step_calls (w := wr) (h := h) (ab := g) (ao := o) (c := c') (p := (D2.drop (64 * k)).take 64) (s0 := s.a) (s1 := s.b) (s2 := s.c) (s3 := s.d) (s4 := s.e) hbk (fun j x hx => by
          have hj := (List.getElem?_eq_some_iff.1 hx).1
          rw [List.length_take] at hj
          rw [List.getElem?_take_of_lt (by omega)] at hx
          have := hcell j (.int .u8 x) (by unfold nums; rw [List.getElem?_map, hx]; rfl)
          rwa [add_off] at this) (by rw [List.length_take, List.length_drop]; omega) hgw)
      have HSucc : Aside0 (sha1step s ((D2.drop (64 * k)).take 64) = shaRun (k + 1) sha0 D2) := ⟨by rw [shaRun_succ, hs]⟩
      have d1 : decide (64 ≤ n') = true := decide_eq_true (by omega)
      have d1' : decide ((64 : Int) ≤ (n' : Int)) = true := decide_eq_true (by omega)
      have hnc : n' ≤ c' := by obtain ⟨_, _, e, h⟩ := q_slice HR.out; cases e; exact h
      have hcut1 : ∀ W : World, (Instr.slice 24 (.slice (some ⟨g, o, none⟩) n' c') none (some (.int .i64 64)) none).run Tryz.prog W = .ok (.slice (some ⟨g, o, none⟩) 64 c') W := by
        obtain ⟨i0, hi, _, hsz, _⟩ := info_parts PFnIdxSum.info5
        exact cut_to (P := Tryz.prog) 24 5 .i64 Tryz.underlying24 hi (some ⟨g, o, none⟩) n' c' 64 (by omega) (by omega) hnc
      obtain ⟨A2, hA2⟩ : ∃ A2, A2 = (if c' = 64 then (some ⟨g, o, none⟩ : Option Addr) else (some ⟨g, o, none⟩ : Option Addr).map (·.add (64 * 1))) := ⟨_, rfl⟩
      obtain ⟨n2, hn2⟩ : ∃ n2, n2 = n' - 64 := ⟨_, rfl⟩
      obtain ⟨c2, hc2⟩ : ∃ c2, c2 = c' - 64 := ⟨_, rfl⟩
      have hcut2 : ∀ W : World, (Instr.slice 24 (.slice (some ⟨g, o, none⟩) n' c') (some (.int .i64 64)) none none).run Tryz.prog W = .ok (.slice A2 n2 c2) W := by
        obtain ⟨i0, hi, _, hsz, _⟩ := info_parts PFnIdxSum.info5
        rw [hA2, hn2, hc2]
        exact cut_from (P := Tryz.prog) 24 5 .i64 Tryz.underlying24 hi 1 hsz (some ⟨g, o, none⟩) n' c' 64 (by omega) (by omega)
      have HQ2 : Aside0 (∀ W, (∀ j, some j = (Value.slice (some ⟨g, o, none⟩) n' c').ownBlock → W.heap[j]? = wr.heap[j]?) → QRow W N 5 1 (.slice A2 n2 c2) n2 (nums .u8 (D2.drop (64 * (k + 1))))) := ⟨fun W hW => by
        have hq := q_drop (k := 64) (q_move HR.out (fun j hj => hW j hj.symm)) h64
        rw [← hA2, ← hn2, ← hc2] at hq
        have e : (nums .u8 (D2.drop (64 * k))).drop (64 * 1) = nums .u8 (D2.drop (64 * (k + 1))) := by
          unfold nums
          rw [← List.map_drop, List.drop_drop, show 64 * k + 64 * 1 = 64 * (k + 1) by omega]
        rwa [e] at hq⟩
      have HOwn : Aside0 (∀ j, (Value.slice A2 n2 c2).ownBlock = some j → (Value.slice (some ⟨g, o, none⟩) n' c').ownBlock = some j) := ⟨fun j hj => by
        rw [hA2] at hj
        split at hj
        · exact hj
        · have : (Addr.add ⟨g, o, none⟩ (64 * 1)).block = g := add_block _ _
          simp only [Option.map_some, Value.ownBlock] at hj ⊢
          rw [this] at hj
          exact hj⟩
      have HE : Aside0 (k < D2.length / 64 ∧ n2 + 64 * (k + 1) = D2.length) := ⟨⟨by omega, by omega⟩⟩
      clear hcell hbk hs hA2 hn2 hc2 hn1
      go_wp2_with (go_at_call 152; refine HSt.out.mono ?_; rintro e w4 ⟨rfl, hb4, hk4⟩; have HB4 := Aside0.mk hb4; have HK4 := Aside0.mk hk4; have cf5' : w4.cell? ⟨h, 5, none⟩ = some (.slice (some ⟨g, o, none⟩) n' c') := cell_of hb4 5 rfl; have f5' : w4.frozen? ⟨h, 5, none⟩ = false := frozen_of hb4 5; clear hb4 hk4)
      go_roundg (gk - 1)
      case measure => have := HE.out.1; omega
      case rel => exact ⟨k + 1, A2, n2, c2, by have := HE.out.1; omega, HE.out.2, ⟨by
          rw [← HSucc.out]
          exact set_block HB4.out 5 _⟩, ⟨HQ2.out _ (fun j hj => (Below.heap_setCell w4 ⟨h, 5, none⟩ _ j (HVH.out _ _ _ _ HR.out j hj.symm)).trans (HK4.out.block j (q_lt HR.out j hj.symm) (HVH.out _ _ _ _ HR.out j hj.symm)))⟩, ⟨fun j hj => HV.out j (HOwn.out j hj)⟩, ⟨Keep.setCell (a := ⟨h, 5, none⟩) (HK.out.trans HK4.out (fun _ _ e => Or.inl e)) (.inl (Or.inl rfl)) _⟩⟩
end Go.Proofs.YtllikhbafaohgaaGreatDoor.Idx
