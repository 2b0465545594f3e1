/- The sections of a configuration told as plain ones. -/
import Derived.Test.YtbgimkjodpjnfaaDoorConfL
namespace Go.Proofs.YtbgimkjodpjnfaaDoor.Conf
open Go.RowKit Go.Proofs.YtbgimkjodpjnfaaDoorW.PrintWords Go.Proofs.YtbgimkjodpjnfaaDoorW.PrintLast Go.Proofs.YtbgimkjodpjnfaaDoorW.PrintMore Go.Proofs.YtbgimkjodpjnfaaDoor.Sep Go.Proofs.YtbgimkjodpjnfaaDoor.PFnConfSet

/-- Behind the two orders of a block that is made and a call that tells options. -/
structure Mid24 (wr : World) (b : Nat) (s : S41) (v1 : Value) (r : Nat × Value) (w : World) : Prop where
  below : Below wr.heap.size wr w
  blk : w.heap[r.1]? = some (.cells #[.string ⟨#[]⟩, .slice none 0 0, .slice none 0 0] 41 (0, 0))
  le : wr.heap.size ≤ r.1
  shape : ∃ A c, r.2 = .slice A s.f1.length c
  opts : Kd.R k45 45 w wr.heap.size (fun k => wr.heap.size ≤ k ∧ k ≠ r.1) r.2 s.f1
  held : w.cell? ⟨b, 0, none⟩ = some (.string s.f0) ∧ w.cell? ⟨b, 1, none⟩ = some v1

theorem goodSec_f1 {s : S41} (h : GoodSec s) : s.f1.length ≤ 8589934592 := by have := h.2.1.1; omega
theorem goodSec_f2 {s : S41} (h : GoodSec s) : s.f2.length ≤ 4294967296 := h.2.2.1
theorem goodSec_f3 {s : S41} (h : GoodSec s) : ∀ x ∈ s.f2, x.f1.length ≤ 8589934592 := fun x hx => by have := (h.2.2.2 x hx).1; omega
theorem mid24_a {wr w4 : World} {b : Nat} {s : S41} {v1 : Value} {A : Option Addr} {c : Nat} (hb : Below wr.heap.size wr.drew w4) (hr : Kd.R k45 45 w4 wr.heap.size (fun _ => True) (.slice A s.f1.length c) s.f1) (hh : (w4.alloc (.cells #[.string ⟨#[]⟩, .slice none 0 0, .slice none 0 0] 41)).cell? ⟨b, 0, none⟩ = some (.string s.f0) ∧ (w4.alloc (.cells #[.string ⟨#[]⟩, .slice none 0 0, .slice none 0 0] 41)).cell? ⟨b, 1, none⟩ = some v1) :
    Mid24 wr b s v1 (w4.heap.size, .slice A s.f1.length c) (w4.alloc (.cells #[.string ⟨#[]⟩, .slice none 0 0, .slice none 0 0] 41)) := by
  have h1 : Below wr.heap.size wr w4 := (Below.refl _ _).drew.trans hb
  exact ⟨below_step h1 (below_alloc (Below.refl _ _) _), heap_alloc_new w4 _, h1.size, ⟨_, _, rfl⟩, Kd.R_below (Kd.R_mono (Kd.R_bound hr) (fun k hk => ⟨hk.2.1, by have := hk.2.2.1; show k ≠ w4.heap.size; omega⟩)) (below_alloc (Below.refl _ _) _), hh⟩
theorem mid24_b {wr w5 w4 : World} {b : Nat} {s : S41} {v1 : Value} {A : Option Addr} {c : Nat} (h5 : Below wr.heap.size wr w5) (ht : w5.heap[wr.heap.size]? = some (.cells #[.string ⟨#[]⟩, .slice none 0 0, .slice none 0 0] 41 (0, 0))) (hb : Below w5.heap.size w5 w4) (hr : Kd.R k45 45 w4 w5.heap.size (fun _ => True) (.slice A s.f1.length c) s.f1) (hh : w4.cell? ⟨b, 0, none⟩ = some (.string s.f0) ∧ w4.cell? ⟨b, 1, none⟩ = some v1) :
    Mid24 wr b s v1 (wr.heap.size, .slice A s.f1.length c) w4 := by
  have hlt := (Array.getElem?_eq_some_iff.1 ht).1
  exact ⟨below_step h5 hb, (hb.block _ hlt).trans ht, Nat.le_refl _, ⟨_, _, rfl⟩, Kd.R_lower (Kd.R_mono (Kd.R_bound hr) (fun k hk => ⟨by have := hk.2.1; omega, by have := hk.2.1; show k ≠ wr.heap.size; omega⟩)) (by omega), hh⟩
/-- The section that is being told: in block tb, its options, its parts so far. -/
structure Inv24 (wo w : World) (tb : Nat) (s : S41) (v1 : Value) (ss : List S47) (v2 : Value) : Prop where
  below : Below wo.heap.size wo w
  le : wo.heap.size ≤ tb
  blk : w.heap[tb]? = some (.cells #[.string s.f0, v1, v2] 41 (0, 0))
  opts : Kd.R k45 45 w wo.heap.size (fun k => wo.heap.size ≤ k ∧ k ≠ tb) v1 s.f1
  subs : Kd.R k47 47 w wo.heap.size (fun k => wo.heap.size ≤ k ∧ k ≠ tb) v2 ss
theorem inv24_start {wr w6 W7 : World} {b tb : Nat} {s : S41} {v1 v4 : Value} (h : Mid24 wr b s v1 (tb, v4) w6) (hW : W7 = ((w6.setCell ⟨tb, 0, none⟩ (.string s.f0)).setCell ⟨tb, 1, none⟩ v4).setCell ⟨tb, 2, none⟩ (.slice none 0 0)) : Inv24 wr W7 tb s v4 [] (.slice none 0 0) := by
  subst hW
  refine ⟨((h.below.setCell h.le _).setCell h.le _).setCell h.le _, h.le, heap_set (heap_set (heap_set h.blk 0 _) 1 _) 2 _, ?_, Kd.R_nil _ _ _ _ _⟩
  exact Kd.R_far (p := ⟨tb, 2, none⟩) (Kd.R_far (p := ⟨tb, 1, none⟩) (Kd.R_far (p := ⟨tb, 0, none⟩) h.opts (fun k hk => hk.2) _) (fun k hk => hk.2) _) (fun k hk => hk.2) _
theorem inv24_ok {wo w : World} {tb : Nat} {s : S41} {v1 v2 : Value} {ss : List S47} (h : Inv24 wo w tb s v1 ss v2) (htb : tb < w.heap.size) : ∀ k, w.heap.size ≤ k → (wo.heap.size ≤ k ∧ k ≠ tb) ∧ some k ≠ v2.ownBlock := fun k hk => by
  have := h.below.size
  obtain ⟨inner, ho⟩ := Kd.R_own h.subs
  exact ⟨⟨by omega, by omega⟩, fun he => by have := own_lt ho k he.symm; omega⟩
theorem inv24_tb {wo w : World} {tb : Nat} {s : S41} {v1 v2 : Value} {ss : List S47} (h : Inv24 wo w tb s v1 ss v2) : some tb ≠ v2.ownBlock := fun he => (h.subs.1 tb he.symm).2 rfl
theorem inv24_old {wo w : World} {tb b : Nat} {s : S41} {v1 v2 : Value} {ss : List S47} (h : Inv24 wo w tb s v1 ss v2) (hb : b < wo.heap.size) : some b ≠ v2.ownBlock := fun he => by have := (h.subs.1 b he.symm).1; omega
theorem ev24 {w w4 : World} {x : Obj} (h : Below w.drew.heap.size w.drew w4) : Below w.heap.size w (w4.alloc x) :=
  below_step (Below.trans (Below.refl _ _).drew h) (below_alloc (Below.refl _ _) _)
theorem sub_lt {wo w : World} {F : Nat → Prop} {l : List S47} {A : Addr} {n c j bj : Nat} (h : sSubs.M wo F l [.slice (some A) n c]) (hc : w.cell? (A.add j) = some (.pointer (some ⟨bj, 0, none⟩))) (hj : j < l.length) (hb : Below wo.heap.size wo w) : bj < wo.heap.size := by
  obtain ⟨ad, u, Fi, he, hcell, hM⟩ := Sd.row_get h j _ (List.getElem?_eq_getElem hj)
  injection he with he
  subst he
  have h1 := (hb.cell (World.block_lt_of_cell? wo _ hcell)).trans hcell
  rw [hc] at h1
  injection h1 with h1
  subst h1
  obtain ⟨b, v, G, hp, _, hbk, _⟩ := pSub_open hM
  have : bj = b := by simpa using hp
  subst this
  exact (Array.getElem?_eq_some_iff.1 hbk).1
theorem kd_other {α : Type} {d : Kd α} {e base b e' sz n : Nat} {w w1 : World} {ok : Nat → Prop} {v v2 : Value} {xs : List α} {ys : List Value} (h : d.R e w base ok v xs) (ho : w.ownsRow b e' sz v2 n ys) (ht : ∀ q, q ∈ e :: d.E → q ≠ e') (hg : w.grownBy w1 v2.ownBlock) : d.R e w1 base ok v xs := by
  cases hk : v2.ownBlock with
  | none => exact Kd.R_grown h hg (fun k _ => by rw [hk]; simp)
  | some g =>
    obtain ⟨cells, hc⟩ := own_typed ho g hk
    exact Kd.R_mono (Kd.R_grown (Kd.R_types h hc ht) hg (fun k hk2 => by rw [hk]; intro he; injection he with he; exact hk2.2 he)) (fun k hk => hk.1)
theorem inv24_put {wo wr W w5 : World} {tb : Nat} {s : S41} {v1 v2 v5 : Value} {ss : List S47} {x : S47} (h : Inv24 wo wr tb s v1 ss v2) (he : Below wr.heap.size wr W) (hg : W.grownBy w5 v2.ownBlock) (hr : Kd.R k47 47 w5 wo.heap.size (fun k => wo.heap.size ≤ k ∧ k ≠ tb) v5 (ss ++ [x])) (ht : w5.heap[tb]? = some (.cells #[.string s.f0, v1, v2] 41 (0, 0))) : Inv24 wo (w5.setCell ⟨tb, 2, none⟩ v5) tb s v1 (ss ++ [x]) v5 := by
  have hsz := h.below.size
  obtain ⟨inner, ho⟩ := Kd.R_own (Kd.R_below h.subs he)
  refine ⟨((h.below.trans (he.mono hsz)).grown hg (by have := he.size; omega) (fun k hk => (h.subs.1 k hk).1)).setCell h.le _, h.le, heap_set ht 2 _, ?_, ?_⟩
  · exact Kd.R_far (p := ⟨tb, 2, none⟩) (kd_other (Kd.R_below h.opts he) ho (by decide) hg) (fun k hk => hk.2) _
  · exact Kd.R_far (p := ⟨tb, 2, none⟩) hr (fun k hk => hk.2) _
set_option maxHeartbeats 4000000 in
set_option maxRecDepth 100000 in
theorem sectionsOf_calls {w : World} {F : Nat → Prop} {l : List S41} {p : Value} (h : pCfg.M w F l [p]) (hg : Good l) :
    Calls Tryd.prog 24 #[p] w fun e w' => ∃ v', e = .returned v' ∧ Kd.R k41 41 w' w.heap.size (fun _ => True) v' l ∧ Below w.heap.size w w' := by
  obtain ⟨b0, v, G, rfl, hFb, hb, h2, hG⟩ := pCfg_open h
  obtain ⟨A, c, rfl, _, _⟩ := Sd.row_shape h2
  have c1 := cell_of (v := .slice A l.length c) hb 1 rfl
  have HR := Aside0.mk h2
  have HN := Aside0.mk hg
  clear h h2 hb hFb hG hg
  go_enter Tryd.func24, Tryd.ntmps24
  go_wp2
  go_loopg [3, 14] l.length (fun g s3 s14 wr => ∃ i : Nat, s14 = .int .i64 i ∧ Aside0 (i + g = l.length) ∧ Aside0 (Kd.R k41 41 wr w.heap.size (fun _ => True) s3 (l.take i)) ∧ Aside0 (Below w.heap.size w wr))
  case atStart => exact ⟨0, rfl, ⟨by omega⟩, ⟨Kd.R_nil _ _ _ _ _⟩, ⟨Below.refl _ _⟩⟩
  case round =>
    obtain ⟨i, rfl, HI, HO, HB⟩ := hrel
    cases gk with
    | zero =>
      obtain rfl : i = l.length := by have := HI.out; omega
      have hlt : decide (l.length < l.length) = false := by simp
      go_wp2
      go_ret
      exact ⟨_, rfl, by have := HO.out; rw [List.take_length] at this; exact this, HB.out⟩
    | succ g =>
      have hi2 : i < l.length := by have := HI.out; omega
      have hlt : decide (i < l.length) = true := by simp; omega
      have hl2 : l.length ≤ 4294967296 := HN.out.1
      obtain ⟨ad, u, Fi, rfl, hcell, hM⟩ := Sd.row_get (Sd.below _ HR.out HB.out) i _ (List.getElem?_eq_getElem hi2)
      have HZ := Aside0.mk (HN.out.2 _ (List.getElem_mem hi2))
      obtain ⟨s0, hs⟩ : ∃ s0, s0 = l[i] := ⟨_, rfl⟩
      rw [← hs] at hM HZ
      have HF1 : Aside0 (s0.f1.length ≤ 8589934592) := ⟨goodSec_f1 HZ.out⟩
      have HF2 : Aside0 (s0.f2.length ≤ 4294967296) := ⟨goodSec_f2 HZ.out⟩
      have HF3 : Aside0 (∀ x ∈ s0.f2, x.f1.length ≤ 8589934592) := ⟨goodSec_f3 HZ.out⟩
      have hl : l.take (i + 1) = l.take i ++ [s0] := by rw [take_snoc _ _ hi2, hs]
      have HL := Aside0.mk hl
      obtain ⟨b, v1, v2, G1, G2, rfl, _, hb, h1, h2, _⟩ := pSec_open hM
      have hblt := (Array.getElem?_eq_some_iff.1 hb).1
      have HH := Aside0.mk (And.intro hb (And.intro h1 hblt))
      have H2 := Aside0.mk h2
      obtain ⟨A2, c2, rfl, _, _⟩ := Sd.row_shape h2
      obtain ⟨A1, c1', rfl, _, _⟩ := Sd.row_shape h1
      have HS : Aside0 (w.heap.size ≤ wr.heap.size) := ⟨HB.out.size⟩
      have hcs2 := cell_of (v := .slice A2 s0.f2.length c2) hb 2 rfl
      clear hl hb h1 h2 hM hs hblt
      go_wp2_with fail
      refine start_ (n := 12) (S := fun w' => w'.cell? ⟨b, 0, none⟩ = some (.string s0.f0) ∧ w'.cell? ⟨b, 1, none⟩ = some (.slice A1 s0.f1.length c1')) (ds := [11]) #[false, false, false, false, false, false, false, false, false, false, false, false] (by kernel_rfl) rfl rfl ⟨(cell_of (HH.out.1) 0 rfl), (cell_of (HH.out.1) 1 rfl)⟩ (fun hHeld => ?_)
      refine pure_ (i := 0) (N := some 18) (v := ?_) (a' := ?_) #[true, false, false, false, false, false, false, false, false, false, false, false] rfl rfl (by kernel_rfl) (fun _ _ _ h => h) (Or.inl ⟨by rfl, ?_⟩) ?_ ?_
      rotate_left
      · intro w'
        go_simp
        with_reducible rfl
      rotate_left
      · simp only [Act.put, List.setIfInBounds_toArray, List.set_cons_zero, List.set_cons_succ, i64_w, i32_w]
        rfl
      refine pure_ (i := 1) (N := some 19) (v := ?_) (a' := ?_) #[true, true, false, false, false, false, false, false, false, false, false, false] rfl rfl (by kernel_rfl) (fun _ _ _ h => h) (Or.inl ⟨by rfl, ?_⟩) ?_ ?_
      rotate_left
      · intro w'
        go_simp
        with_reducible rfl
      rotate_left
      · simp only [Act.put, List.setIfInBounds_toArray, List.set_cons_zero, List.set_cons_succ, i64_w, i32_w]
        rfl
      refine pure_ (i := 2) (N := some 20) (v := ?_) (a' := ?_) #[true, true, true, false, false, false, false, false, false, false, false, false] rfl rfl (by kernel_rfl) (fun _ _ _ h => h) (Or.inl ⟨by rfl, ?_⟩) ?_ ?_
      rotate_left
      · intro w'
        go_simp
        with_reducible rfl
      rotate_left
      · simp only [Act.put, List.setIfInBounds_toArray, List.set_cons_zero, List.set_cons_succ, i64_w, i32_w]
        rfl
      refine pure_ (i := 4) (N := some 22) (v := ?_) (a' := ?_) #[true, true, true, false, true, false, false, false, false, false, false, false] rfl rfl (by kernel_rfl) (fun _ _ _ h => h) (Or.inl ⟨by rfl, ?_⟩) ?_ ?_
      rotate_left
      · intro w'
        go_simp
        with_reducible rfl
      rotate_left
      · simp only [Act.put, List.setIfInBounds_toArray, List.set_cons_zero, List.set_cons_succ, i64_w, i32_w]
        rfl
      refine pure_ (i := 5) (N := some 23) (v := ?_) (a' := ?_) #[true, true, true, false, true, true, false, false, false, false, false, false] rfl rfl (by kernel_rfl) (fun _ _ _ h => h) (Or.inl ⟨by rfl, ?_⟩) ?_ ?_
      rotate_left
      · intro w'
        go_simp
        with_reducible rfl
      rotate_left
      · simp only [Act.put, List.setIfInBounds_toArray, List.set_cons_zero, List.set_cons_succ, i64_w, i32_w]
        rfl
      refine pure_ (i := 6) (N := some 24) (v := ?_) (a' := ?_) #[true, true, true, false, true, true, true, false, false, false, false, false] rfl rfl (by kernel_rfl) (fun _ _ _ h => h) (Or.inl ⟨by rfl, ?_⟩) ?_ ?_
      rotate_left
      · intro w'
        go_simp
        with_reducible rfl
      rotate_left
      · simp only [Act.put, List.setIfInBounds_toArray, List.set_cons_zero, List.set_cons_succ, i64_w, i32_w]
        rfl
      refine take_ (i := 3) (N := some 21) (v := ?_) (a' := ?_) #[true, true, true, true, true, true, true, false, false, false, false, false] rfl rfl (by kernel_rfl) (fun _ _ _ h => h) (Or.inl ⟨by rfl, ?_⟩) hHeld ?_ ?_
      rotate_left
      · rintro w' ⟨s0, s1⟩
        go_simp
        with_reducible rfl
      rotate_left
      · simp only [Act.put, List.setIfInBounds_toArray, List.set_cons_zero, List.set_cons_succ, i64_w, i32_w]
        rfl
      refine take_ (i := 7) (N := some 25) (v := ?_) (a' := ?_) #[true, true, true, true, true, true, true, true, false, false, false, false] rfl rfl (by kernel_rfl) (fun _ _ _ h => h) (Or.inl ⟨by rfl, ?_⟩) hHeld ?_ ?_
      rotate_left
      · rintro w' ⟨s0, s1⟩
        go_simp
        with_reducible rfl
      rotate_left
      · simp only [Act.put, List.setIfInBounds_toArray, List.set_cons_zero, List.set_cons_succ, i64_w, i32_w]
        rfl
      refine join_ (σ := (Nat × Value)) 1 #[true, true, true, true, true, true, true, true, true, true, true, false] (fun s => [(26, s.2), (27, .agg #[.string s0.f0, s.2, .slice none 0 0]), (6, .pointer (some ⟨s.1, 0, none⟩))]) (Mid24 wr b s0 (.slice A1 s0.f1.length c1')) ?_ ?_
      rotate_left
      · intro hCont
        refine two_ (i := 8) (j := 10) (Ni := some 26) (Nj := some 6) #[true, true, true, true, true, true, true, true, true, false, false, false] #[true, true, true, true, true, true, true, true, false, false, true, false] rfl rfl rfl rfl (by kernel_rfl) (by decide) (by decide) (fun K hK => ?_) (fun K hK => ?_)
        · skip
          refine goes_ Tryd.func42 (by kernel_rfl) rfl #[.slice A1 s0.f1.length c1'] (by rfl) rfl rfl (by simp only [List.map_toArray, List.map_cons, List.map_nil]; rfl) ?_
          with_reducible refine (plainOptions_calls (Sd.below _ HH.out.2.1 (Below.refl _ _).drew) HF1.out).mono ?_
          rintro e w4 ⟨v4, rfl, hr4, hb4⟩
          refine ⟨_, rfl, ?_⟩
          obtain ⟨A3, c3, rfl, _, _⟩ := Kd.R_reads hr4
          have HR4 := Aside0.mk hr4
          have HB4 := Aside0.mk hb4
          have HS4 := Aside0.mk ((hb4.block b HH.out.2.2).trans HH.out.1)
          clear hr4 hb4
          refine hK.out _ _ ⟨(cell_of (HS4.out) 0 rfl), (cell_of (HS4.out) 1 rfl)⟩ (fun hHeld => ?_)
          clear hK K
          refine norm_ (a' := ?_) ?_ ?_
          rotate_left
          · show Act.put _ (some 26) _ = _
            simp only [Act.put, List.setIfInBounds_toArray, List.set_cons_zero, List.set_cons_succ, i64_w, i32_w]
            rfl
          refine pure_ (i := 9) (N := some 27) (v := ?_) (a' := ?_) #[true, true, true, true, true, true, true, true, true, true, false, false] rfl rfl (by kernel_rfl) (fun _ _ _ h => h) (Or.inl ⟨by rfl, ?_⟩) ?_ ?_
          rotate_left
          · intro w'
            go_simp
            with_reducible rfl
          rotate_left
          · simp only [Act.put, List.setIfInBounds_toArray, List.set_cons_zero, List.set_cons_succ, i64_w, i32_w]
            rfl
          refine one_ (i := 10) (N := some 6) #[true, true, true, true, true, true, true, true, true, true, true, false] rfl rfl (by kernel_rfl) (by decide) (fun K hK => ?_)
          refine value_ (w1 := ?_) (v := ?_) (by rfl) rfl ?_ ?_
          rotate_left 2
          · go_simp
            constructor
            · rfl
            · rfl
          refine hK.out _ _ ⟨(cell_of (heap_old w4 _ HS4.out) 0 rfl), (cell_of (heap_old w4 _ HS4.out) 1 rfl)⟩ (fun hHeld => ?_)
          clear hK K
          refine norm_ (a' := ?_) ?_ ?_
          rotate_left
          · show Act.put _ (some 6) _ = _
            simp only [Act.put, List.setIfInBounds_toArray, List.set_cons_zero, List.set_cons_succ, i64_w, i32_w]
            rfl
          exact norm_ (by simp only [putAll, Act.put, List.setIfInBounds_toArray, List.set_cons_zero, List.set_cons_succ]) (hCont (w4.heap.size, .slice A3 s0.f1.length c3) _ (mid24_a HB4.out HR4.out hHeld))
        · skip
          refine value_ (w1 := ?_) (v := ?_) (by rfl) rfl ?_ ?_
          rotate_left 2
          · go_simp
            constructor
            · rfl
            · rfl
          obtain ⟨W5, hW5⟩ : ∃ W, W = (wr.alloc (.cells #[.string ⟨#[]⟩, .slice none 0 0, .slice none 0 0] 41)).drew := ⟨_, rfl⟩
          rw [show (World.alloc wr (.cells #[.string ⟨#[]⟩, .slice none 0 0, .slice none 0 0] 41)).drew = W5 from hW5.symm]
          have HB5 : Aside0 (Below wr.heap.size wr W5) := ⟨by rw [hW5]; exact (below_alloc (Below.refl _ _) _).drew⟩
          have HT5 : Aside0 (W5.heap[wr.heap.size]? = some (.cells #[.string ⟨#[]⟩, .slice none 0 0, .slice none 0 0] 41)) := ⟨by rw [hW5]; exact heap_alloc_new wr _⟩
          have HS5 := Aside0.mk ((HB5.out.block b HH.out.2.2).trans HH.out.1)
          clear hW5
          refine hK.out _ _ ⟨(cell_of (HS5.out) 0 rfl), (cell_of (HS5.out) 1 rfl)⟩ (fun hHeld => ?_)
          clear hK K
          refine norm_ (a' := ?_) ?_ ?_
          rotate_left
          · show Act.put _ (some 6) _ = _
            simp only [Act.put, List.setIfInBounds_toArray, List.set_cons_zero, List.set_cons_succ, i64_w, i32_w]
            rfl
          refine one_ (i := 8) (N := some 26) #[true, true, true, true, true, true, true, true, true, false, true, false] rfl rfl (by kernel_rfl) (by decide) (fun K hK => ?_)
          refine goes_ Tryd.func42 (by kernel_rfl) rfl #[.slice A1 s0.f1.length c1'] (by rfl) rfl rfl (by simp only [List.map_toArray, List.map_cons, List.map_nil]; rfl) ?_
          with_reducible refine (plainOptions_calls (Sd.below _ HH.out.2.1 HB5.out) HF1.out).mono ?_
          rintro e w4 ⟨v4, rfl, hr4, hb4⟩
          refine ⟨_, rfl, ?_⟩
          obtain ⟨A3, c3, rfl, _, _⟩ := Kd.R_reads hr4
          have HR4 := Aside0.mk hr4
          have HB4 := Aside0.mk hb4
          have HS4 := Aside0.mk ((hb4.block b (by have := HB5.out.size; have := HH.out.2.2; omega)).trans HS5.out)
          clear hr4 hb4
          refine hK.out _ _ ⟨(cell_of (HS4.out) 0 rfl), (cell_of (HS4.out) 1 rfl)⟩ (fun hHeld => ?_)
          clear hK K
          refine norm_ (a' := ?_) ?_ ?_
          rotate_left
          · show Act.put _ (some 26) _ = _
            simp only [Act.put, List.setIfInBounds_toArray, List.set_cons_zero, List.set_cons_succ, i64_w, i32_w]
            rfl
          refine pure_ (i := 9) (N := some 27) (v := ?_) (a' := ?_) #[true, true, true, true, true, true, true, true, true, true, true, false] rfl rfl (by kernel_rfl) (fun _ _ _ h => h) (Or.inl ⟨by rfl, ?_⟩) ?_ ?_
          rotate_left
          · intro w'
            go_simp
            with_reducible rfl
          rotate_left
          · simp only [Act.put, List.setIfInBounds_toArray, List.set_cons_zero, List.set_cons_succ, i64_w, i32_w]
            rfl
          exact norm_ (by simp only [putAll, Act.put, List.setIfInBounds_toArray, List.set_cons_zero, List.set_cons_succ]) (hCont (wr.heap.size, .slice A3 s0.f1.length c3) _ (mid24_b HB5.out HT5.out HB4.out HR4.out hHeld))
      rintro ⟨tb, v4⟩ w6 hF6
      obtain ⟨A3, c3, rfl⟩ := hF6.shape
      have hHeld := hF6.held
      have hc6 := cell_of (v := .string ⟨#[]⟩) hF6.blk 0 rfl
      have hc7 := cell_of (v := .slice none 0 0) hF6.blk 1 rfl
      have hc8 := cell_of (v := .slice none 0 0) hF6.blk 2 rfl
      have hf6 := unfrozen_of hF6.blk 0
      have hf7 := unfrozen_of hF6.blk 1
      have hf8 := unfrozen_of hF6.blk 2
      refine norm_ (a' := ?_) ?_ ?_
      rotate_left
      · simp only [putAll, Act.put, List.setIfInBounds_toArray, List.set_cons_zero, List.set_cons_succ]
        rfl
      refine last_ (i := 11) (N := none) #[true, true, true, true, true, true, true, true, true, true, true, true] rfl rfl (by kernel_rfl) (by decide) (fun K hK => ?_)
      refine skip_ (w1 := ?_) (by rfl) rfl ?_ ?_
      rotate_left
      · go_simp
        rfl
      refine hK.out _ _ ?_
      clear hK K
      refine done_ (by kernel_rfl) ?_
      obtain ⟨W7, hW7⟩ : ∃ W, W = ((w6.setCell ⟨tb, 0, none⟩ (.string s0.f0)).setCell ⟨tb, 1, none⟩ (.slice A3 s0.f1.length c3)).setCell ⟨tb, 2, none⟩ (.slice none 0 0) := ⟨_, rfl⟩
      rw [← hW7]
      have HIV0 : Inv24 wr W7 tb s0 (.slice A3 s0.f1.length c3) [] (.slice none 0 0) := inv24_start hF6 hW7
      have hcs2 := cell_of (v := .slice A2 s0.f2.length c2) ((HIV0.below.block b HH.out.2.2).trans HH.out.1) 2 rfl
      have HIV00 := Aside0.mk HIV0
      obtain ⟨wo, rfl⟩ : ∃ wo : World, wo = wr := ⟨_, rfl⟩
      clear hHeld hc6 hc7 hc8 hf6 hf7 hf8 hF6 hW7 HIV0 hcell
      go_wp2
      go_loopg [33] s0.f2.length (fun g' s33 wq => ∃ j : Nat, s33 = .int .i64 j ∧ Aside0 (j + g' = s0.f2.length) ∧ ∃ v2, Aside0 (Inv24 wo wq tb s0 (.slice A3 s0.f1.length c3) (s0.f2.take j) v2))
      case atStart => exact ⟨0, rfl, ⟨by omega⟩, _, HIV00⟩
      case round =>
        obtain ⟨j, rfl, HJ, v2, HIV⟩ := hrel
        cases gk with
        | zero =>
          obtain rfl : j = s0.f2.length := by have := HJ.out; omega
          have hlt : decide (s0.f2.length < s0.f2.length) = false := by simp
          rw [List.take_length] at HIV
          obtain ⟨A4, c4, rfl, _, _⟩ := Kd.R_reads HIV.out.subs
          have hd0 := cell_of (v := .string s0.f0) HIV.out.blk 0 rfl
          have hd1 := cell_of (v := .slice A3 s0.f1.length c3) HIV.out.blk 1 rfl
          have hd2 := cell_of (v := .slice A4 s0.f2.length c4) HIV.out.blk 2 rfl
          have HBW : Aside0 (Below w.heap.size w wr) := ⟨HB.out.trans (HIV.out.below.mono HS.out)⟩
          have HOO : Aside0 (Kd.R k41 41 wr w.heap.size (fun _ => True) u3 (l.take i)) := ⟨Kd.R_below HO.out HIV.out.below⟩
          have HLi : Aside0 ((l.take i).length ≤ l.length) := ⟨by rw [List.length_take]; omega⟩
          have HOK : Aside0 (∀ k, wo.heap.size ≤ k → True ∧ some k ≠ u3.ownBlock) := ⟨fun k hk => ⟨trivial, fun he => by
            obtain ⟨inner, ho⟩ := Kd.R_own HO.out
            have := own_lt ho k he.symm
            omega⟩⟩
          go_wp2_with (at_builtin; refine Kd.R_append k41 (w0 := w) w.heap.size rfl (.tmp 53) (.tmp 55) 22 41 (.agg #[.string ⟨#[]⟩, .slice none 0 0, .slice none 0 0]) 64 rfl Tryd.underlying22 info41 rfl (by decide) (by omega) u3 (l.take i) s0 [.string s0.f0, .slice A3 s0.f1.length c3, .slice A4 s0.f2.length c4] (fun _ => True) (fun k => wo.heap.size ≤ k) rfl (by first | (go_simp; done) | (go_simp; rfl)) ?aP HOK.out (fun _ _ => trivial) HOO.out HBW.out HBW.out.size ?aL ?_; (case aP => exact k41_mkM _ _ _ s0 (Kd.R_lower (Kd.R_mono HIV.out.opts (fun k hk => hk.1)) HS.out) (Kd.R_lower (Kd.R_mono HIV.out.subs (fun k hk => hk.1)) HS.out)); (case aL => have := HLi.out; have := HN.out.1; omega); rintro v1 w1 hr1 hb1 hg1 -; have HR1 := Aside0.mk hr1; have HB1 := Aside0.mk hb1; clear hr1 hg1 hb1)
          go_roundg g
          case measure => omega
          case rel => exact ⟨i + 1, by go_num, ⟨by have := HI.out; omega⟩, ⟨by rw [HL.out]; exact HR1.out⟩, HB1⟩
        | succ g' =>
          have hj2 : j < s0.f2.length := by have := HJ.out; omega
          have hlt : decide (j < s0.f2.length) = true := by simp; omega
          have hl2' : s0.f2.length ≤ 4294967296 := HF2.out
          obtain ⟨ss, hss⟩ : ∃ l, l = s0.f2.take j := ⟨_, rfl⟩
          rw [← hss] at HIV
          have HSS := Aside0.mk hss
          have HLN : Aside0 (ss.length ≤ 4294967296) := ⟨by rw [hss, List.length_take]; omega⟩
          obtain ⟨A4, c4, rfl, _, _⟩ := Kd.R_reads HIV.out.subs
          have HTB := Aside0.mk HIV.out.blk
          have hc3 := cell_of (v := .slice A4 ss.length c4) HTB.out 2 rfl
          have hf3 := unfrozen_of HTB.out 2
          have hlt_tb := (Array.getElem?_eq_some_iff.1 HTB.out).1
          have HWO : Aside0 (wo.heap.size ≤ wr.heap.size) := ⟨HIV.out.below.size⟩
          obtain ⟨ad2, u2, Fj, rfl, hcell2, hM2⟩ := Sd.row_get (Sd.below _ H2.out HIV.out.below) j _ (List.getElem?_eq_getElem hj2)
          have HX1 : Aside0 ((s0.f2[j]).f1.length ≤ 8589934592) := ⟨HF3.out _ (List.getElem_mem hj2)⟩
          obtain ⟨x, hx⟩ : ∃ x, x = s0.f2[j] := ⟨_, rfl⟩
          rw [← hx] at hM2 HX1
          have HX := Aside0.mk hx
          obtain ⟨bj, vj, Gj, rfl, _, hbj, hj1, _⟩ := pSub_open hM2
          obtain ⟨B1, d1, rfl, _, _⟩ := Sd.row_shape hj1
          have hlt_bj := (Array.getElem?_eq_some_iff.1 hbj).1
          have HJJ := Aside0.mk (And.intro hbj hj1)
          have hcj0 := cell_of (v := .string x.f0) hbj 0 rfl
          have hcj1 := cell_of (v := .slice B1 x.f1.length d1) hbj 1 rfl
          have hlt_bo : bj < wo.heap.size := sub_lt H2.out hcell2 hj2 HIV.out.below
          clear hss hx hM2 hbj hj1
          go_wp2_with fail
          refine start_ (n := 16) (S := fun w' => w'.cell? ⟨tb, 2, none⟩ = some (.slice A4 ss.length c4) ∧ w'.cell? ⟨bj, 0, none⟩ = some (.string x.f0) ∧ w'.cell? ⟨bj, 1, none⟩ = some (.slice B1 x.f1.length d1)) (ds := [15]) #[false, false, false, false, false, false, false, false, false, false, false, false, false, false, false, false] (by kernel_rfl) rfl rfl ⟨(cell_of (HTB.out) 2 rfl), (cell_of (HJJ.out.1) 0 rfl), (cell_of (HJJ.out.1) 1 rfl)⟩ (fun hHeld => ?_)
          refine pure_ (i := 0) (N := some 37) (v := ?_) (a' := ?_) #[true, false, false, false, false, false, false, false, false, false, false, false, false, false, false, false] rfl rfl (by kernel_rfl) (fun _ _ _ h => h) (Or.inl ⟨by rfl, ?_⟩) ?_ ?_
          rotate_left
          · intro w'
            go_simp
            with_reducible rfl
          rotate_left
          · simp only [Act.put, List.setIfInBounds_toArray, List.set_cons_zero, List.set_cons_succ, i64_w, i32_w]
            rfl
          refine pure_ (i := 2) (N := some 39) (v := ?_) (a' := ?_) #[true, false, true, false, false, false, false, false, false, false, false, false, false, false, false, false] rfl rfl (by kernel_rfl) (fun _ _ _ h => h) (Or.inl ⟨by rfl, ?_⟩) ?_ ?_
          rotate_left
          · intro w'
            go_simp
            with_reducible rfl
          rotate_left
          · simp only [Act.put, List.setIfInBounds_toArray, List.set_cons_zero, List.set_cons_succ, i64_w, i32_w]
            rfl
          refine pure_ (i := 3) (N := some 40) (v := ?_) (a' := ?_) #[true, false, true, true, false, false, false, false, false, false, false, false, false, false, false, false] rfl rfl (by kernel_rfl) (fun _ _ _ h => h) (Or.inl ⟨by rfl, ?_⟩) ?_ ?_
          rotate_left
          · intro w'
            go_simp
            with_reducible rfl
          rotate_left
          · simp only [Act.put, List.setIfInBounds_toArray, List.set_cons_zero, List.set_cons_succ, i64_w, i32_w]
            rfl
          refine pure_ (i := 4) (N := some 41) (v := ?_) (a' := ?_) #[true, false, true, true, true, false, false, false, false, false, false, false, false, false, false, false] rfl rfl (by kernel_rfl) (fun _ _ _ h => h) (Or.inl ⟨by rfl, ?_⟩) ?_ ?_
          rotate_left
          · intro w'
            go_simp
            with_reducible rfl
          rotate_left
          · simp only [Act.put, List.setIfInBounds_toArray, List.set_cons_zero, List.set_cons_succ, i64_w, i32_w]
            rfl
          refine pure_ (i := 6) (N := some 43) (v := ?_) (a' := ?_) #[true, false, true, true, true, false, true, false, false, false, false, false, false, false, false, false] rfl rfl (by kernel_rfl) (fun _ _ _ h => h) (Or.inl ⟨by rfl, ?_⟩) ?_ ?_
          rotate_left
          · intro w'
            go_simp
            with_reducible rfl
          rotate_left
          · simp only [Act.put, List.setIfInBounds_toArray, List.set_cons_zero, List.set_cons_succ, i64_w, i32_w]
            rfl
          refine pure_ (i := 7) (N := some 44) (v := ?_) (a' := ?_) #[true, false, true, true, true, false, true, true, false, false, false, false, false, false, false, false] rfl rfl (by kernel_rfl) (fun _ _ _ h => h) (Or.inl ⟨by rfl, ?_⟩) ?_ ?_
          rotate_left
          · intro w'
            go_simp
            with_reducible rfl
          rotate_left
          · simp only [Act.put, List.setIfInBounds_toArray, List.set_cons_zero, List.set_cons_succ, i64_w, i32_w]
            rfl
          refine pure_ (i := 8) (N := some 45) (v := ?_) (a' := ?_) #[true, false, true, true, true, false, true, true, true, false, false, false, false, false, false, false] rfl rfl (by kernel_rfl) (fun _ _ _ h => h) (Or.inl ⟨by rfl, ?_⟩) ?_ ?_
          rotate_left
          · intro w'
            go_simp
            with_reducible rfl
          rotate_left
          · simp only [Act.put, List.setIfInBounds_toArray, List.set_cons_zero, List.set_cons_succ, i64_w, i32_w]
            rfl
          refine take_ (i := 1) (N := some 38) (v := ?_) (a' := ?_) #[true, true, true, true, true, false, true, true, true, false, false, false, false, false, false, false] rfl rfl (by kernel_rfl) (fun _ _ _ h => h) (Or.inl ⟨by rfl, ?_⟩) hHeld ?_ ?_
          rotate_left
          · rintro w' ⟨s0, s1, s2⟩
            go_simp
            with_reducible rfl
          rotate_left
          · simp only [Act.put, List.setIfInBounds_toArray, List.set_cons_zero, List.set_cons_succ, i64_w, i32_w]
            rfl
          refine take_ (i := 5) (N := some 42) (v := ?_) (a' := ?_) #[true, true, true, true, true, true, true, true, true, false, false, false, false, false, false, false] rfl rfl (by kernel_rfl) (fun _ _ _ h => h) (Or.inl ⟨by rfl, ?_⟩) hHeld ?_ ?_
          rotate_left
          · rintro w' ⟨s0, s1, s2⟩
            go_simp
            with_reducible rfl
          rotate_left
          · simp only [Act.put, List.setIfInBounds_toArray, List.set_cons_zero, List.set_cons_succ, i64_w, i32_w]
            rfl
          refine take_ (i := 9) (N := some 46) (v := ?_) (a' := ?_) #[true, true, true, true, true, true, true, true, true, true, false, false, false, false, false, false] rfl rfl (by kernel_rfl) (fun _ _ _ h => h) (Or.inl ⟨by rfl, ?_⟩) hHeld ?_ ?_
          rotate_left
          · rintro w' ⟨s0, s1, s2⟩
            go_simp
            with_reducible rfl
          rotate_left
          · simp only [Act.put, List.setIfInBounds_toArray, List.set_cons_zero, List.set_cons_succ, i64_w, i32_w]
            rfl
          refine one_ (i := 10) (N := some 47) #[true, true, true, true, true, true, true, true, true, true, true, false, false, false, false, false] rfl rfl (by kernel_rfl) (by decide) (fun K hK => ?_)
          refine goes_ Tryd.func42 (by kernel_rfl) rfl #[.slice B1 x.f1.length d1] (by rfl) rfl rfl (by simp only [List.map_toArray, List.map_cons, List.map_nil]; rfl) ?_
          with_reducible refine (plainOptions_calls (Sd.below _ HJJ.out.2 (Below.refl _ _).drew) HX1.out).mono ?_
          rintro e w4 ⟨v4, rfl, hr4, hb4⟩
          refine ⟨_, rfl, ?_⟩
          obtain ⟨A5, c5, rfl, _, _⟩ := Kd.R_reads hr4
          have HR4 := Aside0.mk hr4
          have HB4 := Aside0.mk hb4
          have HT4 := Aside0.mk ((hb4.block tb hlt_tb).trans HTB.out)
          have HJ4 := Aside0.mk ((hb4.block bj hlt_bj).trans HJJ.out.1)
          clear hr4 hb4
          refine hK.out _ _ ⟨(cell_of (HT4.out) 2 rfl), (cell_of (HJ4.out) 0 rfl), (cell_of (HJ4.out) 1 rfl)⟩ (fun hHeld => ?_)
          clear hK K
          refine norm_ (a' := ?_) ?_ ?_
          rotate_left
          · show Act.put _ (some 47) _ = _
            simp only [Act.put, List.setIfInBounds_toArray, List.set_cons_zero, List.set_cons_succ, i64_w, i32_w]
            rfl
          refine pure_ (i := 11) (N := some 48) (v := ?_) (a' := ?_) #[true, true, true, true, true, true, true, true, true, true, true, true, false, false, false, false] rfl rfl (by kernel_rfl) (fun _ _ _ h => h) (Or.inl ⟨by rfl, ?_⟩) ?_ ?_
          rotate_left
          · intro w'
            go_simp
            with_reducible rfl
          rotate_left
          · simp only [Act.put, List.setIfInBounds_toArray, List.set_cons_zero, List.set_cons_succ, i64_w, i32_w]
            rfl
          refine one_ (i := 12) (N := some 49) #[true, true, true, true, true, true, true, true, true, true, true, true, true, false, false, false] rfl rfl (by kernel_rfl) (by decide) (fun K hK => ?_)
          refine value_ (w1 := ?_) (v := ?_) (by rfl) rfl ?_ ?_
          rotate_left 2
          · go_simp
            constructor
            · rfl
            · rfl
          refine hK.out _ _ ⟨(cell_of (heap_old w4 _ HT4.out) 2 rfl), (cell_of (heap_old w4 _ HJ4.out) 0 rfl), (cell_of (heap_old w4 _ HJ4.out) 1 rfl)⟩ (fun hHeld => ?_)
          clear hK K
          refine norm_ (a' := ?_) ?_ ?_
          rotate_left
          · show Act.put _ (some 49) _ = _
            simp only [Act.put, List.setIfInBounds_toArray, List.set_cons_zero, List.set_cons_succ, i64_w, i32_w]
            rfl
          refine one_ (i := 13) (N := some 50) #[true, true, true, true, true, true, true, true, true, true, true, true, true, true, false, false] rfl rfl (by kernel_rfl) (by decide) (fun K hK => ?_)
          refine kd_append_step k47 wo.heap.size ?hw (.tmp 38) (.tmp 49) 39 47 (.agg #[.string ⟨#[]⟩, .slice none 0 0]) 40 ?ho Tryd.underlying39 info47 ?hz ?h0 ?h1 (.slice A4 ss.length c4) ss x [.string x.f0, .slice A5 x.f1.length c5] w4.heap.size (fun k => wo.heap.size ≤ k ∧ k ≠ tb) (fun k => wr.heap.size ≤ k) ?hs ?hx ?hg ?hp ?hok ?hfr ?hO ?hS ?hL ?_
          case hw => rfl
          case ho => rfl
          case hz => rfl
          case h0 => decide
          case h1 => omega
          case hs => rfl
          case hx => rfl
          case hg => exact heap_alloc_new w4 _
          case hp => exact k47_mkM _ _ _ x (Kd.R_below (Kd.R_lower (Kd.R_mono (Kd.R_bound HR4.out) (fun k hk => hk.2.1)) HWO.out) (below_alloc (Below.refl _ _) _))
          case hok => exact inv24_ok HIV.out hlt_tb
          case hfr => intro k hk; have := HB4.out.size; have := HWO.out; simp only [size_alloc, size_drew] at *; exact ⟨by omega, by omega⟩
          case hO => exact Kd.R_below HIV.out.subs (ev24 HB4.out)
          case hS => have := HB4.out.size; have := HWO.out; simp only [size_alloc, size_drew] at *; omega
          case hL => have := HLN.out; omega
          intro v5 w5 hr5 hg5 ha5
          obtain ⟨A6, c6, rfl, _, _⟩ := Kd.R_reads hr5
          have HT5 := Aside0.mk (grown_at hg5 (inv24_tb HIV.out) (heap_old w4 _ HT4.out))
          have hc5 := cell_of (v := .slice A4 ss.length c4) HT5.out 2 rfl
          have hf5 := unfrozen_of HT5.out 2
          have HJ5 := Aside0.mk (grown_at hg5 (inv24_old HIV.out hlt_bo) (heap_old w4 _ HJ4.out))
          have HR5 := Aside0.mk hr5
          have HG5 := Aside0.mk hg5
          clear hr5 hg5 ha5
          refine hK.out _ _ ⟨hc5, (cell_of HJ5.out 0 rfl), (cell_of HJ5.out 1 rfl)⟩ (fun hHeld => ?_)
          clear hK K
          refine norm_ (a' := ?_) ?_ ?_
          rotate_left
          · show Act.put _ (some 50) _ = _
            simp only [Act.put, List.setIfInBounds_toArray, List.set_cons_zero, List.set_cons_succ, i64_w, i32_w]
            rfl
          refine pure_ (i := 14) (N := some 51) (v := ?_) (a' := ?_) #[true, true, true, true, true, true, true, true, true, true, true, true, true, true, true, false] rfl rfl (by kernel_rfl) (fun _ _ _ h => h) (Or.inl ⟨by rfl, ?_⟩) ?_ ?_
          rotate_left
          · intro w'
            go_simp
            with_reducible rfl
          rotate_left
          · simp only [Act.put, List.setIfInBounds_toArray, List.set_cons_zero, List.set_cons_succ, i64_w, i32_w]
            rfl
          refine last_ (i := 15) (N := none) #[true, true, true, true, true, true, true, true, true, true, true, true, true, true, true, true] rfl rfl (by kernel_rfl) (by decide) (fun K hK => ?_)
          refine skip_ (w1 := ?_) (by rfl) rfl ?_ ?_
          rotate_left
          · go_simp
            rfl
          refine hK.out _ _ ?_
          clear hK K
          refine done_ (by kernel_rfl) ?_
          go_wp2
          go_roundg g'
          case measure => omega
          case rel =>
            have hl2 : s0.f2.take (j + 1) = ss ++ [x] := by rw [take_snoc _ _ hj2, HSS.out, HX.out]
            refine ⟨j + 1, by go_num, ⟨by have := HJ.out; omega⟩, .slice A6 (ss.length + 1) c6, ⟨?_⟩⟩
            rw [hl2]
            exact inv24_put HIV.out (ev24 HB4.out) HG5.out (by have := HR5.out; rwa [List.length_append, List.length_singleton] at this) HT5.out
end Go.Proofs.YtbgimkjodpjnfaaDoor.Conf
