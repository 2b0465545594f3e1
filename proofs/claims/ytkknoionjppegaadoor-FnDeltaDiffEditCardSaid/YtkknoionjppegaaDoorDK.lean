/- The entries of a scanner are laid side by side. -/
import Derived.Test.YtkknoionjppegaaDoorDJ
namespace Go.Proofs.YtkknoionjppegaaDoor.Delta
open Go.RowKit Go.Proofs.YtkknoionjppegaaDoorW.PrintWords Go.Proofs.YtkknoionjppegaaDoorW.PrintLast Go.Proofs.YtkknoionjppegaaDoorW.PrintMore

theorem total_take (N T : List Nat) (i : Nat) : total N (T.take i) ≤ total N T := by
  have h : total N T = total N (T.take i) + total N (T.drop i) := by
    unfold total
    rw [← List.sum_append, ← List.map_append, List.take_append_drop]
  omega
/-- The index at ix, while it is filled from the scanner at sc. -/
structure Cpy (w : World) (ix sc tb en nx ie sz m mk cnt C : Nat) (T E N IE : List Nat) : Prop where
  scan : Scan w sc tb en nx sz m mk cnt T E N
  ixs : w.heap[ix]? = some (.cells #[.slice (some ⟨tb, 0, none⟩) sz sz, .slice (some ⟨ie, 0, none⟩) (C + 1) (C + 1), .int .i64 mk] 45 (0, 0))
  ri : IRow w ie IE
  li : IE.length = C + 1
  d1 : ix ≠ sc ∧ ix ≠ tb ∧ ix ≠ en ∧ ix ≠ nx ∧ ix ≠ ie
  d2 : ie ≠ sc ∧ ie ≠ tb ∧ ie ≠ en ∧ ie ≠ nx
section
variable {w : World} {ix sc tb en nx ie sz m mk cnt C : Nat} {T E N IE : List Nat}
theorem Cpy.setT (h : Cpy w ix sc tb en nx ie sz m mk cnt C T E N IE) (i v : Nat) : Cpy (w.setCell ⟨tb, i, none⟩ (.int .i64 v)) ix sc tb en nx ie sz m mk cnt C (T.set i v) E N IE :=
  ⟨h.scan.setT i v, by rw [Below.heap_setCell _ _ _ _ h.d1.2.1]; exact h.ixs, h.ri.other h.d2.2.1 _, h.li, h.d1, h.d2⟩
theorem Cpy.setI (h : Cpy w ix sc tb en nx ie sz m mk cnt C T E N IE) (i v : Nat) : Cpy (w.setCell ⟨ie, i, none⟩ (.int .i64 v)) ix sc tb en nx ie sz m mk cnt C T E N (IE.set i v) :=
  ⟨⟨by rw [Below.heap_setCell _ _ _ _ (Ne.symm h.d2.1)]; exact h.scan.S, h.scan.rt.other (Ne.symm h.d2.2.1) _, h.scan.re.other (Ne.symm h.d2.2.2.1) _, h.scan.rn.other (Ne.symm h.d2.2.2.2) _, h.scan.lt, h.scan.le, h.scan.ln, h.scan.d1, h.scan.d2⟩, by rw [Below.heap_setCell _ _ _ _ h.d1.2.2.2.2]; exact h.ixs, h.ri.set i v, by rw [List.length_set]; exact h.li, h.d1, h.d2⟩
theorem Cpy.drewN (h : Cpy w ix sc tb en nx ie sz m mk cnt C T E N IE) (k : Nat) : Cpy (w.drewN k) ix sc tb en nx ie sz m mk cnt C T E N IE := ⟨h.scan.drewN k, h.ixs, h.ri, h.li, h.d1, h.d2⟩
end
/-- The state of the filling. -/
def CpyAt (w w' : World) (ix sc tb en nx ie sz m mk cnt C : Nat) (T0 E N : List Nat) (gq i nxt : Nat) : Prop :=
  i + gq = sz ∧ nxt = 1 + total N (T0.take i) ∧ ∃ T IE, (∀ j, i ≤ j → T.getD j 0 = T0.getD j 0) ∧ (∀ j, j < i → T.getD j 0 ≤ C) ∧ Cpy w' ix sc tb en nx ie sz m mk cnt C T E N IE ∧ Keep w w' (fun k => k = tb ∨ k = ie)
set_option maxHeartbeats 8000000 in
set_option maxRecDepth 100000 in
theorem copy_calls (ix sc tb en nx ie sz m mk cnt C : Nat) (T0 E N IE : List Nat) (w : World) (hS : Cpy w ix sc tb en nx ie sz m mk cnt C T0 E N IE) (hG : Good T0 N cnt) (hC : total N T0 ≤ C) (hcm : cnt < m) (hsz : sz ≤ 65536) (hm : m ≤ 10000000) (hCb : C ≤ 10000000) :
    Calls Tryd.prog 39 #[.pointer (some ⟨ix, 0, none⟩), .pointer (some ⟨sc, 0, none⟩)] w fun e w' => e = .returned (.tuple #[]) ∧ ∃ nxt, CpyAt w w' ix sc tb en nx ie sz m mk cnt C T0 E N 0 sz nxt := by
  have HTl := Lib.hid hS.scan.lt
  have HS := Lib.hid hS
  have HG := Lib.hid hG
  have HC := Lib.hid hC
  clear hS hG hC
  go_enter Tryd.func39, Tryd.ntmps39
  go_wp2_with fail
  go_loopg [4, 5] sz (fun gq v4 v5 w' => ∃ (i nxt : Nat), v4 = .int .i64 nxt ∧ v5 = .int .i64 i ∧ Aside0 (CpyAt w w' ix sc tb en nx ie sz m mk cnt C T0 E N gq i nxt))
  case atStart => exact ⟨0, 1, rfl, rfl, ⟨by omega, by simp [total], T0, IE, fun _ _ => rfl, fun j hj => by omega, HS.out, Keep.refl _ _⟩⟩
  case round =>
    clear HS
    obtain ⟨i, nxt, rfl, rfl, HA⟩ := hrel
    obtain ⟨hi, hn, T, IE, h1, h2, hS, hK⟩ := HA.out
    have c0 := cell_of hS.ixs 0 (u := .slice (some ⟨tb, 0, none⟩) sz sz) rfl
    have HS := Lib.hid hS
    have HK := Lib.hid hK
    have HI := Lib.hid (⟨hi, hn, h1, h2⟩ : i + gk = sz ∧ nxt = 1 + total N (T0.take i) ∧ (∀ j, i ≤ j → T.getD j 0 = T0.getD j 0) ∧ (∀ j, j < i → T.getD j 0 ≤ C))
    have hnb : nxt ≤ 10000001 := by have := total_take N T0 i; have := HC.out; omega
    clear HA hn h1 h2 hS hK
    obtain ⟨wo, rfl⟩ : ∃ wo : World, wo = wr := ⟨_, rfl⟩
    cases gk with
    | zero =>
      have hie : i = sz := by omega
      subst hie
      have hlt : decide (i < i) = false := by simp
      clear hi
      go_wp2_with fail
      go_end0
      exact ⟨rfl, nxt, by omega, HI.out.2.1, T, IE, HI.out.2.2.1, HI.out.2.2.2, HS.out, HK.out⟩
    | succ gg =>
      have hlt : i < sz := by omega
      have hlt2 : decide (i < sz) = true := by simpa using hlt
      obtain ⟨h0, hh0⟩ : ∃ h0, h0 = T.getD i 0 := ⟨_, rfl⟩
      have ct : wo.cell? ⟨tb, i, none⟩ = some (.int .i64 (h0 : Nat)) := by rw [hh0]; exact (HS.out.scan.rt.get i (by rw [HS.out.scan.lt]; exact hlt)).1
      have ft := (HS.out.scan.rt.get i (by rw [HS.out.scan.lt]; exact hlt)).2
      have HH0 : Hid (h0 = T0.getD i 0 ∧ h0 ≤ cnt ∧ i < T0.length) := Lib.hid (by
        have e : h0 = T0.getD i 0 := hh0.trans (HI.out.2.2.1 i (Nat.le_refl _))
        exact ⟨e, by rw [e]; exact HG.out.1 i, by rw [HTl.out]; exact hlt⟩)
      have hib : i ≤ 65536 := by omega
      clear hi hh0
      by_cases hz : h0 = 0
      · subst hz
        go_wp2_with fail
        go_roundg gg
        case measure => omega
        case rel =>
          refine ⟨i + 1, nxt, rfl, by go_num, ⟨by have := HI.out.1; omega, ?_, T, IE, fun j hj => HI.out.2.2.1 j (by omega), fun j hj => ?_, HS.out, HK.out⟩⟩
          · rw [total_snoc _ _ _ HH0.out.2.2, ← HH0.out.1, clen_zero]
            exact HI.out.2.1
          · rcases Nat.lt_or_ge j i with h | h
            · exact HI.out.2.2.2 j h
            · have : j = i := by omega
              subst this
              rw [HI.out.2.2.1 j (Nat.le_refl _), ← HH0.out.1]
              omega
      · have z1 : ((h0 : Int) == 0) = false := by rw [beq_eq_false_iff_ne]; omega
        have z2 : decide (h0 = 0) = false := by simpa using hz
        have HZ : Hid (0 < h0) := Lib.hid (by omega)
        clear hz
        go_wp2_with fail
        obtain ⟨W1, hW1⟩ : ∃ W1, W1 = wo.setCell ⟨tb, i, none⟩ (.int .i64 (nxt : Nat)) := ⟨_, rfl⟩
        have HS1 : Hid (Cpy W1 ix sc tb en nx ie sz m mk cnt C (T.set i nxt) E N IE) := Lib.hid (by rw [hW1]; exact HS.out.setT i nxt)
        have HK1 : Hid (Keep w W1 (fun k => k = tb ∨ k = ie)) := Lib.hid (by rw [hW1]; exact HK.out.setCell (a := ⟨tb, i, none⟩) (.inl (.inl rfl)) _)
        rw [← hW1]
        clear hW1 c0 ct ft
        have HE : Hid (nxt + clen N h0 = 1 + total N (T0.take (i + 1))) := Lib.hid (by rw [total_snoc _ _ _ HH0.out.2.2, ← HH0.out.1]; have := HI.out.2.1; omega)
        go_loopg [4, 6] h0 (fun gq v4 v6 w' => ∃ (n1 : Nat) (IE1 : List Nat), v4 = .int .i64 n1 ∧ v6 = .int .i64 gq ∧ Aside0 (0 < gq ∧ gq ≤ cnt) ∧ Aside0 (n1 + clen N gq = 1 + total N (T0.take (i + 1))) ∧ Aside0 (Cpy w' ix sc tb en nx ie sz m mk cnt C (T.set i nxt) E N IE1) ∧ Aside0 (Keep w w' (fun k => k = tb ∨ k = ie)))
        case atStart => exact ⟨nxt, IE, rfl, rfl, ⟨HZ.out, HH0.out.2.1⟩, ⟨HE.out⟩, ⟨HS1.out⟩, ⟨HK1.out⟩⟩
        case round =>
          clear HS1 HK1 HS HK
          obtain ⟨n1, IE1, rfl, rfl, HA, HB, HSr, HKr⟩ := hrel
          have HDn : Hid (Down N) := Lib.hid HG.out.2
          have hn1 : n1 < C + 1 := by
            have h1 := clen_step HDn.out HA.out.1
            have h2 := HB.out
            have h3 := total_take N T0 (i + 1)
            have h4 := HC.out
            omega
          have hgm : gk < m := by have := HA.out.2; omega
          have k1 := cell_of HSr.out.ixs 1 (u := .slice (some ⟨ie, 0, none⟩) (C + 1) (C + 1)) rfl
          have s1 := cell_of HSr.out.scan.S 1 (u := .slice (some ⟨en, 0, none⟩) m m) rfl
          have ec := (HSr.out.scan.re.get gk (by rw [HSr.out.scan.le]; exact hgm)).1
          have ic := (HSr.out.ri.get n1 (by rw [HSr.out.li]; exact hn1)).1
          have if_ := (HSr.out.ri.get n1 (by rw [HSr.out.li]; exact hn1)).2
          obtain ⟨ev, hev⟩ : ∃ ev, ev = E.getD gk 0 := ⟨_, rfl⟩
          rw [← hev] at ec
          have hnb1 : n1 ≤ 10000000 := by omega
          have y1 : (n1 : Int) < (C : Int) + 1 := by omega
          have y2 : (0 : Int) ≤ (n1 : Int) := by omega
          have y3 : ¬ ix = ie := HSr.out.d1.2.2.2.2
          have y4 : ¬ sc = ie := fun e => HSr.out.d2.1 e.symm
          have y5 : ¬ en = ie := fun e => HSr.out.d2.2.2.1 e.symm
          have HV : Hid (∀ v, (wr.setCell ⟨ie, n1, none⟩ v).cell? ⟨ix, 1, none⟩ = some (.slice (some ⟨ie, 0, none⟩) (C + 1) (C + 1)) ∧ (wr.setCell ⟨ie, n1, none⟩ v).cell? ⟨sc, 1, none⟩ = some (.slice (some ⟨en, 0, none⟩) m m) ∧ (wr.setCell ⟨ie, n1, none⟩ v).cell? ⟨en, gk, none⟩ = some (.int .i64 (ev : Nat))) := Lib.hid fun v => ⟨(World.cell?_setCell_other _ _ _ _ (fun e => y3 (congrArg Addr.block e).symm)).trans k1, (World.cell?_setCell_other _ _ _ _ (fun e => y4 (congrArg Addr.block e).symm)).trans s1, (World.cell?_setCell_other _ _ _ _ (fun e => y5 (congrArg Addr.block e).symm)).trans ec⟩
          clear hev
          go_wp2_with fail
          go_region_held3 (fun w' => w'.cell? ⟨ix, 1, none⟩ = some (.slice (some ⟨ie, 0, none⟩) (C + 1) (C + 1)) ∧ w'.cell? ⟨sc, 1, none⟩ = some (.slice (some ⟨en, 0, none⟩) m m) ∧ w'.cell? ⟨en, gk, none⟩ = some (.int .i64 (ev : Nat))) (first | (exact ⟨k1, s1, ec⟩) | (exact HV.out _) | go_keep) (fail)
          obtain ⟨W2, hW2⟩ : ∃ W2, W2 = (wr.setCell ⟨ie, n1, none⟩ (.int .i64 (ev : Nat))).drew := ⟨_, rfl⟩
          have HS2 : Hid (Cpy W2 ix sc tb en nx ie sz m mk cnt C (T.set i nxt) E N (IE1.set n1 ev)) := Lib.hid (by rw [hW2]; exact (HSr.out.setI n1 ev).drewN 1)
          have HK2 : Hid (Keep w W2 (fun k => k = tb ∨ k = ie)) := Lib.hid (by rw [hW2]; exact (HKr.out.setCell (a := ⟨ie, n1, none⟩) (.inl (.inr rfl)) _).drewN 1)
          rw [← hW2]
          clear hW2 k1 s1 ec ic if_ HV y1 y2 y3 y4 y5
          have s2 := cell_of HS2.out.scan.S 2 (u := .slice (some ⟨nx, 0, none⟩) m m) rfl
          have nc := (HS2.out.scan.rn.get gk (by rw [HS2.out.scan.ln]; exact hgm)).1
          obtain ⟨h1, hh1⟩ : ∃ h1, h1 = N.getD gk 0 := ⟨_, rfl⟩
          rw [← hh1] at nc
          have HH1 := Lib.hid hh1
          have HCl : Hid (n1 + 1 + clen N h1 = 1 + total N (T0.take (i + 1))) := Lib.hid (by have := clen_step HDn.out HA.out.1; rw [← hh1] at this; have := HB.out; omega)
          clear hh1
          by_cases hz1 : h1 = 0
          · subst hz1
            go_wp2_with fail
            go_roundg gg
            case measure => omega
            case rel =>
              refine ⟨i + 1, n1 + 1, by go_num, by go_num, ⟨by have := HI.out.1; omega, by have := HCl.out; rw [clen_zero] at this; omega, _, _, fun j hj => ?_, fun j hj => ?_, HS2.out, HK2.out⟩⟩
              · rw [getD_set, if_neg (by omega)]
                exact HI.out.2.2.1 j (by omega)
              · rw [getD_set]
                split
                · have h1 := HE.out
                  have h2 := total_take N T0 (i + 1)
                  have h3 := HC.out
                  have h4 := clen_step HDn.out HZ.out
                  omega
                · rename_i hji
                  refine HI.out.2.2.2 j ?_
                  have hl := HS2.out.scan.lt
                  rw [List.length_set] at hl
                  rcases Nat.lt_or_ge j i with h | h
                  · exact h
                  · exact absurd ⟨by omega, by omega⟩ hji
          · have z1' : ((h1 : Int) == 0) = false := by rw [beq_eq_false_iff_ne]; omega
            have z2' : decide (h1 = 0) = false := by simpa using hz1
            have HZ1 : Hid (0 < h1) := Lib.hid (by omega)
            clear hz1
            go_wp2_with fail
            go_roundg h1
            case measure => have h2 := HDn.out gk HA.out.1; rw [← HH1.out] at h2; exact h2
            case rel => exact ⟨n1 + 1, _, by go_num, rfl, ⟨HZ1.out, by have h2 := HDn.out gk HA.out.1; rw [← HH1.out] at h2; have := HA.out.2; omega⟩, ⟨HCl.out⟩, ⟨HS2.out⟩, ⟨HK2.out⟩⟩
end Go.Proofs.YtkknoionjppegaaDoor.Delta
