/- A configuration made out of plain sections. -/
import Derived.Test.YtbgimkjodpjnfaaDoorConfK
namespace Go.Proofs.YtbgimkjodpjnfaaDoor.Conf
open Go.RowKit Go.Proofs.YtbgimkjodpjnfaaDoorW.PrintWords Go.Proofs.YtbgimkjodpjnfaaDoorW.PrintLast Go.Proofs.YtbgimkjodpjnfaaDoorW.PrintMore Go.Proofs.YtbgimkjodpjnfaaDoor.Sep Go.Proofs.YtbgimkjodpjnfaaDoor.PFnConfSet

theorem size_drew (w : World) : w.drew.heap.size = w.heap.size := rfl
theorem heap_old (w : World) (o : Obj) {b : Nat} {x : Obj} (h : w.heap[b]? = some x) : (w.alloc o).heap[b]? = some x := (Below.heap_alloc w o b (Array.getElem?_eq_some_iff.1 h).1).trans h
theorem wb_events {w w4 : World} {o x y : Obj} (h : Below (w.alloc o).drew.heap.size (w.alloc o).drew w4) : Below w.heap.size w ((w4.alloc x).alloc y) := by
  have h1 : Below w.heap.size w (w.alloc o).drew := (below_alloc (Below.refl _ _) _).drew
  exact below_alloc (below_alloc (below_step h1 h) _) _
theorem row_not_sb {α : Type} {d : Sd α} {e sb : Nat} {w : World} {H F : Nat → Prop} {xs : List α} {v : Value} (h : (Sd.row e d).M w H xs [v]) (hH : ∀ k, H k → F k ∧ k ≠ sb) : some sb ≠ v.ownBlock :=
  fun he => (hH sb (Sd.row_block h sb he.symm)).2 rfl
theorem row_not_new {α : Type} {d : Sd α} {e b n : Nat} {w : World} {H : Nat → Prop} {xs : List α} {v : Value} (h : (Sd.row e d).M w H xs [v]) (hH : ∀ k, H k → k < n) (hb : n ≤ b) : some b ≠ v.ownBlock :=
  fun he => by have := hH b (Sd.row_block h b he.symm); omega
/-- The sizes that are asked of plain sections. -/
def Sizes (l : List S41) : Prop := l.length ≤ 4294967296 ∧ ∀ s ∈ l, s.f1.length ≤ 4294967296 ∧ s.f2.length ≤ 4294967296 ∧ ∀ x ∈ s.f2, x.f1.length ≤ 4294967296

set_option maxHeartbeats 4000000 in
set_option maxRecDepth 100000 in
theorem configOf_calls (A : Option Addr) (c : Nat) (l : List S41) (w : World) (hr : Kd.C k41 w A l.length l) (hn : Sizes l) :
    Calls Tryd.prog 25 #[.slice A l.length c] w fun e w' => ∃ p, e = .returned p ∧ pCfg.M w' (fun k => w.heap.size ≤ k) l [p] ∧ Below w.heap.size w w' := by
  have HR := Aside0.mk hr
  have HN := Aside0.mk hn
  clear hr hn
  go_enter Tryd.func25, Tryd.ntmps25
  go_wp2
  go_loopg [12] l.length (fun g s12 wr => ∃ i : Nat, s12 = .int .i64 i ∧ Aside0 (i + g = l.length) ∧ Aside0 (pCfg.M wr (fun k => w.heap.size ≤ k) (l.take i) [.pointer (some ⟨w.heap.size, 0, none⟩)]) ∧ Aside0 (Below w.heap.size w wr))
  case atStart => exact ⟨0, rfl, ⟨by omega⟩, ⟨pCfg_mk (G := fun _ => False) [] (Nat.le_refl _) (heap_alloc_new w _) (Sd.row_nil _ _ _ _) (fun _ h => h.elim)⟩, ⟨below_alloc (Below.refl _ _) _⟩⟩
  case round =>
    obtain ⟨i, rfl, HI, HO, HB⟩ := hrel
    cases gk with
    | zero =>
      obtain rfl : i = l.length := by have := HI.out; omega
      have hlt : decide (l.length < l.length) = false := by simp
      go_wp2
      go_ret
      exact ⟨_, rfl, by have := HO.out; rw [List.take_length] at this; exact this, HB.out⟩
    | succ g =>
      have hi2 : i < l.length := by have := HI.out; omega
      have hlt : decide (i < l.length) = true := by simp; omega
      have hl2 : l.length ≤ 4294967296 := HN.out.1
      obtain ⟨ad, A1, c1, A2, c2, e, hx0, hx1, hx2, hle1, hC1, hle2, hC2⟩ := at_T41 HR.out i (by omega) (by omega)
      cases e
      replace hx0 := (HB.out.cell (World.block_lt_of_cell? w _ hx0)).trans hx0
      replace hx1 := (HB.out.cell (World.block_lt_of_cell? w _ hx1)).trans hx1
      replace hx2 := (HB.out.cell (World.block_lt_of_cell? w _ hx2)).trans hx2
      simp only [Int.toNat_natCast] at hx0 hx1 hx2
      obtain ⟨s, hs⟩ : ∃ s, s = rd_T41 l (i : Int) := ⟨_, rfl⟩
      rw [← hs] at hx0 hx1 hx2 hle1 hC1 hle2 hC2
      have hsz := HN.out.2 s (by rw [hs]; unfold rd_T41; rw [List.getD_eq_getElem?_getD, Int.toNat_natCast, List.getElem?_eq_getElem hi2]; exact List.getElem_mem hi2)
      have hl : l.take (i + 1) = l.take i ++ [s] := by rw [take_snoc _ _ hi2, hs]; simp [rd_T41, List.getD_eq_getElem?_getD, hi2]
      have HL := Aside0.mk hl
      have HZ := Aside0.mk hsz
      have HC1 := Aside0.mk hC1
      have HC2 := Aside0.mk hC2
      have HS : Aside0 (w.heap.size ≤ wr.heap.size) := ⟨HB.out.size⟩
      have HT : Aside0 ((l.take i).length ≤ l.length) := ⟨by rw [List.length_take]; omega⟩
      clear hl hsz hC1 hC2 hle1 hle2 hs
      go_wp2_with fail
      go_region_held3 (fun w' => w'.cell? ⟨wr.heap.size, 0, none⟩ = some (.string s.f0) ∧ w'.cell? ⟨wr.heap.size, 1, none⟩ = some (.slice A1 s.f1.length c1)) (first | go_keep | (exact ⟨cell_of HB1.out 0 rfl, cell_of HB1.out 1 rfl⟩)) ((go_at_call 44; refine (optionsOf_calls A1 c1 s.f1 _ ?hc ?hl).mono ?_; (case hl => exact HZ.out.1); (case hc => exact Kd.C_below HC1.out (by repeat (first | (with_reducible first | exact HB.out | apply below_alloc | apply pw_below_drewN | apply below_drew1) | exact HB.out))); rintro e w2 ⟨v1, rfl, hm, hb⟩; obtain ⟨A3, c3, rfl, _, _⟩ := Sd.row_shape hm; have HB1 := Aside0.mk ((hb.block wr.heap.size (by simp)).trans (heap_alloc_new wr (.cells #[.string s.f0, .slice A1 s.f1.length c1, .slice A2 s.f2.length c2] 41))); have HM1 := Aside0.mk hm; have HW1 := Aside0.mk hb; clear hm hb))
      obtain ⟨W3, hW3⟩ : ∃ W, W = w2.alloc (.cells #[.string s.f0, .slice A3 s.f1.length c3, .slice none 0 0] 85) := ⟨_, rfl⟩
      rw [← hW3]
      obtain ⟨sb, hsb⟩ : ∃ b, b = w2.heap.size := ⟨_, rfl⟩
      rw [← hsb]
      have HP3 : Aside0 (pSec.M W3 (fun k => wr.heap.size < k) ⟨s.f0, s.f1, []⟩ [.pointer (some ⟨sb, 0, none⟩)]) := ⟨by
        rw [hW3, hsb]
        have hlt := HW1.out.size
        simp only [size_drew, size_alloc] at hlt
        refine pSec_mk (G := fun k => wr.heap.size < k ∧ k < w2.heap.size) (H := fun _ => False) ⟨s.f0, s.f1, []⟩ (by omega) (heap_alloc_new w2 _) ?_ (Sd.row_nil _ _ _ _) (fun k hk => ⟨hk.1, by omega⟩) (fun _ h => h.elim) (fun _ _ h => h)
        refine Sd.below _ (sOpts.mono (fun k hk => ?_) (sOpts.bound HM1.out)) (below_alloc (Below.refl _ _) _)
        simp only [size_drew, size_alloc] at hk
        omega⟩
      have HB3 : Aside0 (Below wr.heap.size wr W3) := ⟨by
        rw [hW3]
        have h1 : Below wr.heap.size wr (wr.alloc (.cells #[.string s.f0, .slice A1 s.f1.length c1, .slice A2 s.f2.length c2] 41)).drew := (below_alloc (Below.refl _ _) _).drew
        have h2 := below_step h1 HW1.out
        exact below_step h2 (below_alloc (Below.refl _ _) _)⟩
      have hT5 : W3.heap[wr.heap.size]? = some (.cells #[.string s.f0, .slice A1 s.f1.length c1, .slice A2 s.f2.length c2] 41) := by
        rw [hW3, Below.heap_alloc w2 _ _ (Array.getElem?_eq_some_iff.1 HB1.out).1]
        exact HB1.out
      have hc2 := cell_of (v := .slice A2 s.f2.length c2) hT5 2 rfl
      clear hT5 HB1 HM1 HW1 hsb hW3 hx0 hx1 hx2
      obtain ⟨wo, rfl⟩ : ∃ wo : World, wo = wr := ⟨_, rfl⟩
      go_wp2
      go_loopg [26] s.f2.length (fun g' s26 wr => ∃ j : Nat, s26 = .int .i64 j ∧ Aside0 (j + g' = s.f2.length) ∧ Aside0 (pSec.M wr (fun k => wo.heap.size < k) ⟨s.f0, s.f1, s.f2.take j⟩ [.pointer (some ⟨sb, 0, none⟩)]) ∧ Aside0 (Below wo.heap.size wo wr))
      case atStart => exact ⟨0, rfl, ⟨by omega⟩, HP3, HB3⟩
      case round =>
        obtain ⟨j, rfl, HJ, HP, HBq⟩ := hrel
        cases gk with
        | zero =>
          obtain rfl : j = s.f2.length := by have := HJ.out; omega
          have hlt : decide (s.f2.length < s.f2.length) = false := by simp
          have hse : (⟨s.f0, s.f1, s.f2.take s.f2.length⟩ : S41) = s := by rw [List.take_length]
          rw [hse] at HP
          have hbo : Below wo.heap.size wo wr := HBq.out
          obtain ⟨ll, hll⟩ : ∃ a, a = l.take i := ⟨_, rfl⟩
          rw [← hll] at HO HL HT
          obtain ⟨b', v', G, hp, hFb, hb, h2, hG⟩ := pCfg_open (pCfg.below (pCfg.bound HO.out) hbo)
          have hb' : w.heap.size = b' := by simpa using hp
          subst hb'
          obtain ⟨A4, c4, rfl, _, _⟩ := Sd.row_shape h2
          have hcc := cell_of (v := .slice A4 ll.length c4) hb 1 rfl
          have hff := unfrozen_of hb 1
          have HH := Aside0.mk (And.intro hb (And.intro h2 (And.intro hG hFb)))
          have hlw : w.heap.size < wr.heap.size := by have := hFb.2; have := hbo.size; omega
          clear hb h2 hG hFb hbo hll hse hp
          go_wp2_with (at_builtin; refine Sd.row_append (d := pSec) rfl (.tmp 51) (.tmp 53) 75 67 (.pointer none) 8 rfl Tryd.underlying75 info67 rfl (by decide) (.slice A4 ll.length c4) ll s (.pointer (some ⟨sb, 0, none⟩)) G (fun k => wo.heap.size < k) rfl (by first | (go_simp; done) | (go_simp; rfl)) HP.out ?ad HH.out.2.1 ?al ?_; (case ad => intro k h1 h2; have := (HH.out.2.2.1 k h1).1.2; omega); (case al => have := HT.out; have := HN.out.1; omega); rintro v1 w1 hr1 hg1 - hl1; obtain ⟨g1, cp1, rfl, -⟩ := hl1; have hB := grown_at hg1 (row_not_sb HH.out.2.1 HH.out.2.2.1) HH.out.1; have c2' := cell_of (v := .slice A4 ll.length c4) hB 1 rfl; have f2' := unfrozen_of hB 1; have HBB := Aside0.mk hB; have HR1 := Aside0.mk hr1; have HG1 := Aside0.mk hg1; clear hr1 hg1 hB)
          go_roundg g
          case measure => omega
          case rel =>
            obtain ⟨hb, h2, hG, hFb⟩ := HH.out
            have hwo := HBq.out.size
            have hww := HS.out
            refine ⟨i + 1, by go_num, ⟨by have := HI.out; omega⟩, ⟨?_⟩, ⟨?_⟩⟩
            · rw [HL.out]
              refine pCfg_mk (G := fun k => G k ∨ wo.heap.size ≤ k) (ll ++ [s]) (Nat.le_refl _) (heap_set HBB.out 1 _) ?_ ?_
              · refine sSecs.mono (fun k hk => ?_) (Sd.move sSecs (fun k hk => Below.heap_setCell _ _ _ _ ?_) HR1.out)
                · rcases hk with hk | hk | hk
                  · exact .inl hk
                  · exact .inr (by omega)
                  · exact .inr (by omega)
                · rcases hk with hk | hk | hk
                  · exact (hG k hk).2
                  · intro he
                    have : k = w.heap.size := he
                    omega
                  · intro he
                    have : k = w.heap.size := he
                    omega
              · rintro k (hk | hk)
                · exact ⟨(hG k hk).1.1, (hG k hk).2⟩
                · have := hFb.2
                  exact ⟨by omega, by omega⟩
            · refine Below.setCell (p := ⟨w.heap.size, 1, none⟩) ?_ (Nat.le_refl _) _
              have h3 : Below w.heap.size w wr := HB.out.trans (HBq.out.mono hww)
              exact h3.grown HG1.out (by omega) (fun k hk => (hG k (Sd.row_block h2 k hk)).1.1)
        | succ g' =>
          have hj2 : j < s.f2.length := by have := HJ.out; omega
          have hlt : decide (j < s.f2.length) = true := by simp; omega
          have hl2' : s.f2.length ≤ 4294967296 := HZ.out.2.1
          obtain ⟨ad2, B1, d1, e, hy0, hy1, hle1, hD1⟩ := at_T47 HC2.out j (by omega) (by omega)
          cases e
          have hbq := (Below.mono HB.out (Nat.le_refl _)).trans (HBq.out.mono HS.out)
          replace hy0 := (hbq.cell (World.block_lt_of_cell? w _ hy0)).trans hy0
          replace hy1 := (hbq.cell (World.block_lt_of_cell? w _ hy1)).trans hy1
          simp only [Int.toNat_natCast] at hy0 hy1
          obtain ⟨x, hx⟩ : ∃ x, x = rd_T47 s.f2 (j : Int) := ⟨_, rfl⟩
          rw [← hx] at hy0 hy1 hle1 hD1
          obtain ⟨ss, hss⟩ : ∃ l, l = s.f2.take j := ⟨_, rfl⟩
          rw [← hss] at HP
          have HSS := Aside0.mk hss
          have hlen : ss.length ≤ 4294967296 := by rw [hss, List.length_take]; omega
          have HLN := Aside0.mk hlen
          clear hss hlen
          obtain ⟨b', v', u', G, H, hp, hFb, hb, h1, h2, hG, hH, hGH⟩ := pSec_open (pSec.bound HP.out)
          have hb' : sb = b' := by simpa using hp
          subst hb'
          have hc3 := cell_of (v := u') hb 2 rfl
          have hf3 := unfrozen_of hb 2
          obtain ⟨A4, c4, rfl, _, _⟩ := Sd.row_shape h2
          have HH := Aside0.mk (And.intro hb (And.intro h1 (And.intro h2 (And.intro hG (And.intro hH (And.intro hGH hFb))))))
          have HBW := Aside0.mk hbq
          have HD := Aside0.mk hD1
          have HX := Aside0.mk hx
          clear hbq hb h1 h2 hG hH hGH hFb hD1 hle1 hp hx
          have hsb0 := HH.out.1
          have hlt_sb : sb < wr.heap.size := (Array.getElem?_eq_some_iff.1 hsb0).1
          have HZX : Aside0 (x.f1.length ≤ 4294967296) := ⟨HZ.out.2.2 x (by rw [HX.out]; unfold rd_T47; rw [List.getD_eq_getElem?_getD, Int.toNat_natCast, List.getElem?_eq_getElem hj2]; exact List.getElem_mem hj2)⟩
          clear hsb0
          go_wp2_with fail
          have hsb0 := HH.out.1
          refine start_ (n := 17) (S := fun w' => w'.cell? ⟨sb, 2, none⟩ = some (.slice A4 ss.length c4) ∧ w'.cell? ⟨wr.heap.size, 0, none⟩ = some (.string x.f0) ∧ w'.cell? ⟨wr.heap.size, 1, none⟩ = some (.slice B1 x.f1.length d1)) (ds := [16]) #[false, false, false, false, false, false, false, false, false, false, false, false, false, false, false, false, false] (by kernel_rfl) rfl rfl ⟨(cell_of (heap_old wr _ hsb0) 2 rfl), (cell_of (heap_alloc_new wr (.cells #[.string x.f0, .slice B1 x.f1.length d1] 47)) 0 rfl), (cell_of (heap_alloc_new wr (.cells #[.string x.f0, .slice B1 x.f1.length d1] 47)) 1 rfl)⟩ (fun hHeld => ?_)
          refine pure_ (i := 0) (N := some 30) (v := ?_) (a' := ?_) #[true, false, false, false, false, false, false, false, false, false, false, false, false, false, false, false, false] rfl rfl (by kernel_rfl) (fun _ _ _ h => h) (Or.inl ⟨by rfl, ?_⟩) ?_ ?_
          rotate_left
          · intro w'
            go_simp
            with_reducible rfl
          rotate_left
          · simp only [Act.put, List.setIfInBounds_toArray, List.set_cons_zero, List.set_cons_succ, i64_w, i32_w]
            rfl
          refine pure_ (i := 1) (N := some 31) (v := ?_) (a' := ?_) #[true, true, false, false, false, false, false, false, false, false, false, false, false, false, false, false, false] rfl rfl (by kernel_rfl) (fun _ _ _ h => h) (Or.inl ⟨by rfl, ?_⟩) ?_ ?_
          rotate_left
          · intro w'
            go_simp
            with_reducible rfl
          rotate_left
          · simp only [Act.put, List.setIfInBounds_toArray, List.set_cons_zero, List.set_cons_succ, i64_w, i32_w]
            rfl
          refine pure_ (i := 2) (N := some 32) (v := ?_) (a' := ?_) #[true, true, true, false, false, false, false, false, false, false, false, false, false, false, false, false, false] rfl rfl (by kernel_rfl) (fun _ _ _ h => h) (Or.inl ⟨by rfl, ?_⟩) ?_ ?_
          rotate_left
          · intro w'
            go_simp
            with_reducible rfl
          rotate_left
          · simp only [Act.put, List.setIfInBounds_toArray, List.set_cons_zero, List.set_cons_succ, i64_w, i32_w]
            rfl
          refine pure_ (i := 3) (N := some 33) (v := ?_) (a' := ?_) #[true, true, true, true, false, false, false, false, false, false, false, false, false, false, false, false, false] rfl rfl (by kernel_rfl) (fun _ _ _ h => h) (Or.inl ⟨by rfl, ?_⟩) ?_ ?_
          rotate_left
          · intro w'
            go_simp
            with_reducible rfl
          rotate_left
          · simp only [Act.put, List.setIfInBounds_toArray, List.set_cons_zero, List.set_cons_succ, i64_w, i32_w]
            rfl
          refine pure_ (i := 5) (N := some 35) (v := ?_) (a' := ?_) #[true, true, true, true, false, true, false, false, false, false, false, false, false, false, false, false, false] rfl rfl (by kernel_rfl) (fun _ _ _ h => h) (Or.inl ⟨by rfl, ?_⟩) ?_ ?_
          rotate_left
          · intro w'
            go_simp
            with_reducible rfl
          rotate_left
          · simp only [Act.put, List.setIfInBounds_toArray, List.set_cons_zero, List.set_cons_succ, i64_w, i32_w]
            rfl
          refine pure_ (i := 7) (N := some 37) (v := ?_) (a' := ?_) #[true, true, true, true, false, true, false, true, false, false, false, false, false, false, false, false, false] rfl rfl (by kernel_rfl) (fun _ _ _ h => h) (Or.inl ⟨by rfl, ?_⟩) ?_ ?_
          rotate_left
          · intro w'
            go_simp
            with_reducible rfl
          rotate_left
          · simp only [Act.put, List.setIfInBounds_toArray, List.set_cons_zero, List.set_cons_succ, i64_w, i32_w]
            rfl
          refine take_ (i := 4) (N := some 34) (v := ?_) (a' := ?_) #[true, true, true, true, true, true, false, true, false, false, false, false, false, false, false, false, false] rfl rfl (by kernel_rfl) (fun _ _ _ h => h) (Or.inl ⟨by rfl, ?_⟩) hHeld ?_ ?_
          rotate_left
          · rintro w' ⟨s0, s1, s2⟩
            go_simp
            with_reducible rfl
          rotate_left
          · simp only [Act.put, List.setIfInBounds_toArray, List.set_cons_zero, List.set_cons_succ, i64_w, i32_w]
            rfl
          refine take_ (i := 6) (N := some 36) (v := ?_) (a' := ?_) #[true, true, true, true, true, true, true, true, false, false, false, false, false, false, false, false, false] rfl rfl (by kernel_rfl) (fun _ _ _ h => h) (Or.inl ⟨by rfl, ?_⟩) hHeld ?_ ?_
          rotate_left
          · rintro w' ⟨s0, s1, s2⟩
            go_simp
            with_reducible rfl
          rotate_left
          · simp only [Act.put, List.setIfInBounds_toArray, List.set_cons_zero, List.set_cons_succ, i64_w, i32_w]
            rfl
          refine take_ (i := 8) (N := some 38) (v := ?_) (a' := ?_) #[true, true, true, true, true, true, true, true, true, false, false, false, false, false, false, false, false] rfl rfl (by kernel_rfl) (fun _ _ _ h => h) (Or.inl ⟨by rfl, ?_⟩) hHeld ?_ ?_
          rotate_left
          · rintro w' ⟨s0, s1, s2⟩
            go_simp
            with_reducible rfl
          rotate_left
          · simp only [Act.put, List.setIfInBounds_toArray, List.set_cons_zero, List.set_cons_succ, i64_w, i32_w]
            rfl
          refine one_ (i := 9) (N := some 39) #[true, true, true, true, true, true, true, true, true, true, false, false, false, false, false, false, false] rfl rfl (by kernel_rfl) (by decide) (fun K hK => ?_)
          refine goes_ Tryd.func44 (by kernel_rfl) rfl #[.slice B1 x.f1.length d1] (by rfl) rfl rfl (by simp only [List.map_toArray, List.map_cons, List.map_nil]; rfl) ?_
          with_reducible refine (optionsOf_calls B1 d1 x.f1 _ (Kd.C_below HD.out (by repeat (first | (with_reducible first | exact HBW.out | apply below_alloc | apply pw_below_drewN | apply below_drew1) | exact HBW.out))) HZX.out).mono ?_
          rintro e w4 ⟨v4, rfl, hm4, hb4⟩
          refine ⟨_, rfl, ?_⟩
          obtain ⟨A5, c5, rfl, _, _⟩ := Sd.row_shape hm4
          have hY4 := (hb4.block wr.heap.size (by simp)).trans (heap_alloc_new wr (.cells #[.string x.f0, .slice B1 x.f1.length d1] 47))
          have hS4 := (hb4.block sb (by have := hlt_sb; simp; omega)).trans (heap_old wr _ hsb0)
          have HM4 := Aside0.mk hm4
          have HB4 := Aside0.mk hb4
          have HY4 := Aside0.mk hY4
          have HS4 := Aside0.mk hS4
          clear hm4 hb4 hY4 hS4
          refine hK.out _ _ ⟨(cell_of HS4.out 2 rfl), (cell_of HY4.out 0 rfl), (cell_of HY4.out 1 rfl)⟩ (fun hHeld => ?_)
          clear hK K
          refine norm_ (a' := ?_) ?_ ?_
          rotate_left
          · show Act.put _ (some 39) _ = _
            simp only [Act.put, List.setIfInBounds_toArray, List.set_cons_zero, List.set_cons_succ, i64_w, i32_w]
            rfl
          refine pure_ (i := 10) (N := some 40) (v := ?_) (a' := ?_) #[true, true, true, true, true, true, true, true, true, true, true, false, false, false, false, false, false] rfl rfl (by kernel_rfl) (fun _ _ _ h => h) (Or.inl ⟨by rfl, ?_⟩) ?_ ?_
          rotate_left
          · intro w'
            go_simp
            with_reducible rfl
          rotate_left
          · simp only [Act.put, List.setIfInBounds_toArray, List.set_cons_zero, List.set_cons_succ, i64_w, i32_w]
            rfl
          refine one_ (i := 11) (N := some 41) #[true, true, true, true, true, true, true, true, true, true, true, true, false, false, false, false, false] rfl rfl (by kernel_rfl) (by decide) (fun K hK => ?_)
          refine value_ (w1 := ?_) (v := ?_) (by rfl) rfl ?_ ?_
          rotate_left 2
          · go_simp
            constructor
            · rfl
            · rfl
          refine hK.out _ _ ⟨(cell_of (heap_old w4 _ HS4.out) 2 rfl), (cell_of (heap_old w4 _ HY4.out) 0 rfl), (cell_of (heap_old w4 _ HY4.out) 1 rfl)⟩ (fun hHeld => ?_)
          clear hK K
          refine norm_ (a' := ?_) ?_ ?_
          rotate_left
          · show Act.put _ (some 41) _ = _
            simp only [Act.put, List.setIfInBounds_toArray, List.set_cons_zero, List.set_cons_succ, i64_w, i32_w]
            rfl
          refine one_ (i := 12) (N := some 42) #[true, true, true, true, true, true, true, true, true, true, true, true, true, false, false, false, false] rfl rfl (by kernel_rfl) (by decide) (fun K hK => ?_)
          refine value_ (w1 := ?_) (v := ?_) (by rfl) rfl ?_ ?_
          rotate_left 2
          · go_simp
            constructor
            · rfl
            · rfl
          refine hK.out _ _ ⟨(cell_of (heap_old _ _ (heap_old w4 _ HS4.out)) 2 rfl), (cell_of (heap_old _ _ (heap_old w4 _ HY4.out)) 0 rfl), (cell_of (heap_old _ _ (heap_old w4 _ HY4.out)) 1 rfl)⟩ (fun hHeld => ?_)
          clear hK K
          refine norm_ (a' := ?_) ?_ ?_
          rotate_left
          · show Act.put _ (some 42) _ = _
            simp only [Act.put, List.setIfInBounds_toArray, List.set_cons_zero, List.set_cons_succ, i64_w, i32_w]
            rfl
          refine one_ (i := 13) (N := some 43) #[true, true, true, true, true, true, true, true, true, true, true, true, true, true, false, false, false] rfl rfl (by kernel_rfl) (by decide) (fun K hK => ?_)
          refine row_append_step (d := pSub) ?hw (.tmp 34) (.tmp 42) 83 71 (.pointer none) 8 ?ho Tryd.underlying83 info71 ?hz ?h1 (.slice A4 ss.length c4) ss x (.pointer (some ⟨w4.heap.size, 0, none⟩)) (w4.heap.size + 1) H (fun k => wr.heap.size < k ∧ k ≤ w4.heap.size) ?hs ?hx ?hg ?hy ?hFG ?hO ?hL ?_
          case hw => rfl
          case ho => rfl
          case hz => rfl
          case h1 => omega
          case hs => rfl
          case hx => rfl
          case hg => exact blk_new2 w4 _ _
          case hy => exact pSub_mk (G := fun k => wr.heap.size < k ∧ k < w4.heap.size) x (by have := HB4.out.size; simp only [size_drew, size_alloc] at this; omega) (heap_old _ _ (heap_alloc_new w4 _)) (Sd.below _ (sOpts.mono (fun k hk => by simp only [size_drew, size_alloc] at hk; omega) (sOpts.bound HM4.out)) (below_alloc (below_alloc (Below.refl _ _) _) _)) (fun k hk => ⟨by omega, by omega⟩)
          case hFG => intro k hk1 hk2; have := (HH.out.2.2.2.2.1 k hk1).1.2; omega
          case hO => exact Sd.below _ HH.out.2.2.1 (wb_events HB4.out)
          case hL => have := HLN.out; omega
          intro v5 w5 hr5 hg5 ha5
          have HR5 := Aside0.mk hr5
          have HA5 := Aside0.mk (Sd.row_shape hr5)
          obtain ⟨A6, c6, rfl, _, _⟩ := HA5.out
          have hS5 := grown_at hg5 (row_not_sb HH.out.2.2.1 HH.out.2.2.2.2.1) (heap_old _ _ (heap_old w4 _ HS4.out))
          have hc5 := cell_of (v := .slice A4 ss.length c4) hS5 2 rfl
          have hf5 := unfrozen_of hS5 2
          have HS5 := Aside0.mk hS5
          have HG5 := Aside0.mk hg5
          clear hr5 hg5 ha5 hS5
          refine hK.out _ _ ⟨hc5, (cell_of (grown_at HG5.out (row_not_new HH.out.2.2.1 (fun k hk => (HH.out.2.2.2.2.1 k hk).1.2) (Nat.le_refl _)) (heap_old _ _ (heap_old w4 _ HY4.out))) 0 rfl), (cell_of (grown_at HG5.out (row_not_new HH.out.2.2.1 (fun k hk => (HH.out.2.2.2.2.1 k hk).1.2) (Nat.le_refl _)) (heap_old _ _ (heap_old w4 _ HY4.out))) 1 rfl)⟩ (fun hHeld => ?_)
          clear hK K
          refine norm_ (a' := ?_) ?_ ?_
          rotate_left
          · show Act.put _ (some 43) _ = _
            simp only [Act.put, List.setIfInBounds_toArray, List.set_cons_zero, List.set_cons_succ, i64_w, i32_w]
            rfl
          refine pure_ (i := 14) (N := some 44) (v := ?_) (a' := ?_) #[true, true, true, true, true, true, true, true, true, true, true, true, true, true, true, false, false] rfl rfl (by kernel_rfl) (fun _ _ _ h => h) (Or.inl ⟨by rfl, ?_⟩) ?_ ?_
          rotate_left
          · intro w'
            go_simp
            with_reducible rfl
          rotate_left
          · simp only [Act.put, List.setIfInBounds_toArray, List.set_cons_zero, List.set_cons_succ, i64_w, i32_w]
            rfl
          refine pure_ (i := 15) (N := some 45) (v := ?_) (a' := ?_) #[true, true, true, true, true, true, true, true, true, true, true, true, true, true, true, true, false] rfl rfl (by kernel_rfl) (fun _ _ _ h => h) (Or.inl ⟨by rfl, ?_⟩) ?_ ?_
          rotate_left
          · intro w'
            go_simp
            with_reducible rfl
          rotate_left
          · simp only [Act.put, List.setIfInBounds_toArray, List.set_cons_zero, List.set_cons_succ, i64_w, i32_w]
            rfl
          refine last_ (i := 16) (N := none) #[true, true, true, true, true, true, true, true, true, true, true, true, true, true, true, true, true] rfl rfl (by kernel_rfl) (by decide) (fun K hK => ?_)
          refine skip_ (w1 := ?_) (by rfl) rfl ?_ ?_
          rotate_left
          · go_simp
            rfl
          refine hK.out _ _ ?_
          clear hK K
          refine done_ (by kernel_rfl) ?_
          go_wp2
          go_roundg g'
          case measure => omega
          case rel =>
            obtain ⟨hb, h1, h2, hG, hH, hGH, hFb⟩ := HH.out
            have hev := wb_events (x := .cells #[.string x.f0, .slice A5 x.f1.length c5] 88) (y := .cells #[.pointer (some ⟨w4.heap.size, 0, none⟩)] 71) HB4.out
            have hkeep : ∀ k, k < wr.heap.size → some k ≠ (Value.slice A4 ss.length c4).ownBlock → w5.heap[k]? = wr.heap[k]? := fun k hk hn => (HG5.out.block k (by have := hev.size; omega) hn).trans (hev.block k hk)
            have hl2 : s.f2.take (j + 1) = ss ++ [x] := by rw [take_snoc _ _ hj2, HSS.out, HX.out]; simp [rd_T47, List.getD_eq_getElem?_getD, hj2]
            have hw4 := HB4.out.size
            simp only [size_drew, size_alloc] at hw4
            have hwo := HBq.out.size
            refine ⟨j + 1, by go_num, ⟨by have := HJ.out; omega⟩, ⟨?_⟩, ⟨?_⟩⟩
            · rw [hl2]
              refine pSec_mk (G := G) (H := fun k => H k ∨ wr.heap.size < k) ⟨s.f0, s.f1, ss ++ [x]⟩ hFb.1 (heap_set HS5.out 2 _) ?_ ?_ ?_ ?_ ?_
              · exact Sd.move _ (fun k hk => (Below.heap_setCell _ _ _ _ (hG k hk).2).trans (hkeep k (hG k hk).1.2 (fun he => hGH k hk (Sd.row_block h2 k he.symm)))) h1
              · refine sSubs.mono (fun k hk => ?_) (Sd.move sSubs (fun k hk => Below.heap_setCell _ _ _ _ ?_) (show sSubs.M w5 _ (ss ++ [x]) [.slice A6 (ss.length + 1) c6] from by have := HR5.out; rwa [List.length_append, List.length_singleton] at this))
                · rcases hk with hk | hk | hk
                  · exact .inl hk
                  · exact .inr hk.1
                  · simp only [size_alloc] at hk
                    exact .inr (by omega)
                · rcases hk with hk | hk | hk
                  · exact (hH k hk).2
                  · intro he
                    have : k = sb := he
                    omega
                  · simp only [size_alloc] at hk
                    intro he
                    have : k = sb := he
                    omega
              · exact fun k hk => ⟨(hG k hk).1.1, (hG k hk).2⟩
              · rintro k (hk | hk)
                · exact ⟨(hH k hk).1.1, (hH k hk).2⟩
                · exact ⟨by omega, by omega⟩
              · rintro k hk (hk' | hk')
                · exact hGH k hk hk'
                · have := (hG k hk).1.2
                  omega
            · refine Below.setCell ?_ (by have := hFb.1; show wo.heap.size ≤ sb; omega) _
              have h3 := HBq.out.trans (hev.mono hwo)
              exact h3.grown HG5.out (by have := hev.size; omega) (fun k hk => by have := (hH k (Sd.row_block h2 k hk)).1.1; omega)
end Go.Proofs.YtbgimkjodpjnfaaDoor.Conf
