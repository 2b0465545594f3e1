/- The chains of a scanner are counted, and cut where they are long. -/
import Derived.Test.YtkknoionjppegaaDoorDI
namespace Go.Proofs.YtkknoionjppegaaDoor.Delta
open Go.RowKit Go.Proofs.YtkknoionjppegaaDoorW.PrintWords Go.Proofs.YtkknoionjppegaaDoorW.PrintLast Go.Proofs.YtkknoionjppegaaDoorW.PrintMore

def Down (N : List Nat) : Prop := ∀ e, 0 < e → N.getD e 0 < e
def clenF (N : List Nat) : Nat → Nat → Nat
  | 0, _ => 0
  | f + 1, h => if h = 0 then 0 else 1 + clenF N f (N.getD h 0)
/-- How long the chain from h on is. -/
def clen (N : List Nat) (h : Nat) : Nat := clenF N h h
theorem clenF_enough {N : List Nat} (hd : Down N) : ∀ f h, h ≤ f → clenF N f h = clen N h := by
  intro f
  induction f using Nat.strongRecOn with
  | _ f ih =>
    intro h hh
    rcases Nat.eq_zero_or_pos h with rfl | hp
    · cases f <;> simp [clenF, clen]
    · obtain ⟨f', rfl⟩ : ∃ k, f = k + 1 := ⟨f - 1, by omega⟩
      obtain ⟨h', rfl⟩ : ∃ k, h = k + 1 := ⟨h - 1, by omega⟩
      have hlt := hd (h' + 1) hp
      unfold clen
      simp only [clenF]
      rw [if_neg (by omega), if_neg (by omega), ih f' (by omega) _ (by omega)]
      rcases Nat.lt_or_ge h' (f' + 1) with h1 | h1
      · rw [ih h' (by omega) _ (by omega)]
      · omega
theorem clen_zero (N : List Nat) : clen N 0 = 0 := rfl
theorem clen_step {N : List Nat} (hd : Down N) {h : Nat} (hp : 0 < h) : clen N h = 1 + clen N (N.getD h 0) := by
  obtain ⟨h', rfl⟩ : ∃ k, h = k + 1 := ⟨h - 1, by omega⟩
  have hlt := hd (h' + 1) hp
  conv => lhs; unfold clen
  simp only [clenF]
  rw [if_neg (by omega), clenF_enough hd h' _ (by omega)]
theorem Down.cut {N : List Nat} (hd : Down N) (k : Nat) : Down (N.set k 0) := by
  intro e he
  rw [getD_set]
  split
  · exact he
  · exact hd e he
theorem clen_cut {N : List Nat} (hd : Down N) (k : Nat) : ∀ h, clen (N.set k 0) h ≤ clen N h := by
  intro h
  induction h using Nat.strongRecOn with
  | _ h ih =>
    rcases Nat.eq_zero_or_pos h with rfl | hp
    · exact Nat.le_refl _
    · rw [clen_step (hd.cut k) hp, clen_step hd hp, getD_set]
      split
      · rw [clen_zero]; omega
      · have := ih _ (hd h hp); omega
/-- From h0, s steps lead to h. -/
def Path (N : List Nat) (h0 s h : Nat) : Prop := ∀ N', Down N' → (∀ e, h < e → N'.getD e 0 = N.getD e 0) → clen N' h0 = s + clen N' h
theorem Path.start (N : List Nat) (h0 : Nat) : Path N h0 0 h0 := fun N' _ _ => by omega
theorem Path.step {N : List Nat} (hd : Down N) {h0 s h : Nat} (p : Path N h0 s h) (hp : 0 < h) : Path N h0 (s + 1) (N.getD h 0) := fun N' hd' he => by
  have hlt := hd h hp
  rw [p N' hd' (fun e h1 => he e (by omega)), clen_step hd' hp, he h hlt]
  omega
theorem Path.stop {N : List Nat} (hd : Down N) {h0 s : Nat} (p : Path N h0 s 0) : clen N h0 = s := by
  have := p N hd (fun _ _ => rfl)
  rw [clen_zero] at this
  omega
theorem Path.cut {N : List Nat} (hd : Down N) {h0 s h : Nat} (p : Path N h0 s h) (hp : 0 < h) : clen (N.set h 0) h0 = s + 1 := by
  rw [p _ (hd.cut h) (fun e he => by rw [getD_set, if_neg (by omega)]), clen_step (hd.cut h) hp, getD_set]
  have : (if h = h ∧ h < N.length then 0 else N.getD h 0) = 0 := by
    split
    · rfl
    · rename_i hh
      have : N.length ≤ h := by
        rcases Nat.lt_or_ge h N.length with h1 | h1
        · exact absurd ⟨rfl, h1⟩ hh
        · exact h1
      simp [List.getD_eq_getElem?_getD, List.getElem?_eq_none this]
  rw [this, clen_zero]
def total (N T : List Nat) : Nat := (T.map (clen N)).sum
theorem total_cut {N : List Nat} (hd : Down N) (k : Nat) (T : List Nat) : total (N.set k 0) T ≤ total N T := by
  unfold total
  induction T with
  | nil => exact Nat.le_refl _
  | cons x T ih =>
    have := clen_cut hd k x
    simp only [List.map_cons, List.sum_cons]
    omega
theorem total_snoc (N T : List Nat) (i : Nat) (hi : i < T.length) : total N (T.take (i + 1)) = total N (T.take i) + clen N (T.getD i 0) := by
  unfold total
  rw [List.take_succ_eq_append_getElem hi, List.map_append, List.sum_append]
  simp [List.getD_eq_getElem?_getD, hi]

/-- The state of the count. -/
def CntAt (w w' : World) (sc tb en nx sz m mk cnt : Nat) (T E : List Nat) (gq i C : Nat) : Prop :=
  i + gq = sz ∧ C ≤ 64 * i ∧ ∃ N, total N (T.take i) ≤ C ∧ Scan w' sc tb en nx sz m mk cnt T E N ∧ Good T N cnt ∧ Keep w w' (fun k => k = nx)
set_option maxHeartbeats 8000000 in
set_option maxRecDepth 100000 in
theorem count_calls (sc tb en nx sz m mk cnt : Nat) (T E N : List Nat) (w : World) (hS : Scan w sc tb en nx sz m mk cnt T E N) (hG : Good T N cnt) (hcm : cnt < m) (hsz : sz ≤ 65536) (hm : m ≤ 10000000) :
    Calls Tryd.prog 38 #[.pointer (some ⟨sc, 0, none⟩)] w fun e w' => ∃ C : Nat, e = .returned (.int .i64 C) ∧ CntAt w w' sc tb en nx sz m mk cnt T E 0 sz C := by
  have HS := Lib.hid hS
  have HG := Lib.hid hG
  clear hS hG
  go_enter Tryd.func38, Tryd.ntmps38
  go_wp2_with fail
  go_loopg [2, 3] sz (fun gq v2 v3 w' => ∃ (i C : Nat), v2 = .int .i64 C ∧ v3 = .int .i64 i ∧ Aside0 (CntAt w w' sc tb en nx sz m mk cnt T E gq i C))
  case atStart => exact ⟨0, 0, rfl, rfl, ⟨by omega, by omega, N, by simp [total], HS.out, HG.out, Keep.refl _ _⟩⟩
  case round =>
    clear HS HG
    obtain ⟨i, C, rfl, rfl, HA⟩ := hrel
    obtain ⟨hi, hC, N, ht, hS, hG, hK⟩ := HA.out
    have c0 := cell_of hS.S 0 (u := .slice (some ⟨tb, 0, none⟩) sz sz) rfl
    have HT := Lib.hid ht
    have HS := Lib.hid hS
    have HG := Lib.hid hG
    have HK := Lib.hid hK
    have HI := Lib.hid (⟨hi, hC⟩ : i + gk = sz ∧ C ≤ 64 * i)
    clear HA ht hS hG hK
    obtain ⟨wo, rfl⟩ : ∃ wo : World, wo = wr := ⟨_, rfl⟩
    cases gk with
    | zero =>
      have hie : i = sz := by omega
      subst hie
      have hlt : decide (i < i) = false := by simp
      clear hi hC
      go_wp2_with fail
      go_ret
      exact ⟨C, rfl, by omega, HI.out.2, N, HT.out, HS.out, HG.out, HK.out⟩
    | succ gg =>
      have hlt : i < sz := by omega
      have hlt2 : decide (i < sz) = true := by simpa using hlt
      obtain ⟨h0, hh0⟩ : ∃ h0, h0 = T.getD i 0 := ⟨_, rfl⟩
      have ct : wo.cell? ⟨tb, i, none⟩ = some (.int .i64 (h0 : Nat)) := by rw [hh0]; exact (HS.out.rt.get i (by rw [HS.out.lt]; exact hlt)).1
      have HH0 : Hid (h0 = T.getD i 0 ∧ h0 ≤ cnt) := Lib.hid ⟨hh0, by rw [hh0]; exact HG.out.1 i⟩
      have hib : i ≤ 65536 := by omega
      have hCb : C ≤ 10000000 := by omega
      clear hi hC hh0
      by_cases hz : h0 = 0
      · subst hz
        go_wp2_with fail
        go_roundg gg
        case measure => omega
        case rel =>
          refine ⟨i + 1, C, rfl, by go_num, ⟨by have := HI.out.1; omega, by have := HI.out.2; omega, N, ?_, HS.out, HG.out, HK.out⟩⟩
          rw [total_snoc _ _ _ (by rw [HS.out.lt]; exact hlt), ← HH0.out.1, clen_zero]
          exact HT.out
      · have z1 : ((h0 : Int) == 0) = false := by rw [beq_eq_false_iff_ne]; omega
        have z2 : decide (h0 = 0) = false := by simpa using hz
        have HZ : Hid (0 < h0) := Lib.hid (by omega)
        clear hz
        go_wp2_with fail
        have HHc := Lib.hid (⟨HH0.out.1, HH0.out.2⟩ : h0 = T.getD i 0 ∧ h0 ≤ cnt)
        have fin : ∀ (w2 : World) (N2 : List Nat) (s : Nat), s ≤ 64 → Scan w2 sc tb en nx sz m mk cnt T E N2 → Good T N2 cnt → Keep wo w2 (fun k => k = nx) → total N2 (T.take i) ≤ total N (T.take i) → clen N2 h0 = s → CntAt w w2 sc tb en nx sz m mk cnt T E gg (i + 1) (C + s) := fun w2 N2 s hs h1 h2 h3 h4 h5 => by
          refine ⟨by have := HI.out.1; omega, by have := HI.out.2; omega, N2, ?_, h1, h2, HK.out.trans h3 (fun _ _ h => h)⟩
          rw [total_snoc _ _ _ (by rw [HS.out.lt]; exact hlt), ← HH0.out.1, h5]
          have := HT.out
          omega
        have FIN := Lib.hid fin
        clear fin ct
        go_loopg [4, 5] 64 (fun gq v4 v5 w' => ∃ (h s : Nat), v4 = .int .i64 h ∧ v5 = .int .i64 s ∧ Aside0 (s + gq = 64 ∧ 0 < gq) ∧ Aside0 (0 < h ∧ h ≤ cnt) ∧ Aside0 (Path N h0 s h) ∧ w' = wo)
        case atStart => exact ⟨h0, 0, rfl, rfl, ⟨by omega, by omega⟩, ⟨HZ.out, HHc.out.2⟩, ⟨Path.start N h0⟩, rfl⟩
        case round =>
          obtain ⟨h, s, rfl, rfl, HA, HB, HP, rfl⟩ := hrel
          have hhm : h < m := by have := HB.out.2; omega
          have c2 := cell_of HS.out.S 2 (u := .slice (some ⟨nx, 0, none⟩) m m) rfl
          have cn := (HS.out.rn.get h (by rw [HS.out.ln]; exact hhm)).1
          have fn := (HS.out.rn.get h (by rw [HS.out.ln]; exact hhm)).2
          have HDn : Hid (Down N) := Lib.hid HG.out.2
          by_cases hgk : gk = 1
          · have hs : s = 63 := by have := HA.out.1; omega
            subst hs
            have HC := Lib.hid (FIN.out (wr.setCell ⟨nx, h, none⟩ (.int .i64 0)) (N.set h 0) 64 (by omega) (HS.out.setN h 0) ⟨HG.out.1, HDn.out.cut h⟩ ((Keep.refl wr (fun k => k = nx)).setCell (a := ⟨nx, h, none⟩) (.inl rfl) _) (total_cut HDn.out h _) (HP.out.cut HDn.out HB.out.1))
            clear hgk
            go_wp2_with fail
            go_roundg gg
            case measure => omega
            case rel => exact ⟨i + 1, C + 64, by go_num, by go_num, ⟨HC.out⟩⟩
          · have hs : s < 63 := by have := HA.out; omega
            obtain ⟨h1, hh1⟩ : ∃ h1, h1 = N.getD h 0 := ⟨_, rfl⟩
            rw [← hh1] at cn
            have HH1 := Lib.hid hh1
            have z3 : ((s : Int) + 1 == 64) = false := by rw [beq_eq_false_iff_ne]; omega
            have z4 : decide (s + 1 = 64) = false := by simp; omega
            clear hgk hh1
            by_cases hz1 : h1 = 0
            · have HC : Hid (CntAt w wr sc tb en nx sz m mk cnt T E gg (i + 1) (C + (s + 1))) := Lib.hid (FIN.out wr N (s + 1) (by omega) HS.out HG.out (Keep.refl _ _) (Nat.le_refl _) (Path.stop HDn.out (by have := HP.out.step HDn.out HB.out.1; rw [← HH1.out, hz1] at this; exact this)))
              subst hz1
              go_wp2_with fail
              go_roundg gg
              case measure => omega
              case rel => exact ⟨i + 1, C + (s + 1), by first | rfl | go_num | (congr 1; omega), by go_num, ⟨HC.out⟩⟩
            · have z1 : ((h1 : Int) == 0) = false := by rw [beq_eq_false_iff_ne]; omega
              have z2 : decide (h1 = 0) = false := by simpa using hz1
              have HZ1 : Hid (0 < h1) := Lib.hid (by omega)
              clear hz1
              go_wp2_with fail
              go_roundg (gk - 1)
              case measure => have := HA.out; omega
              case rel => exact ⟨h1, s + 1, rfl, by go_num, ⟨by have := HA.out; omega, by have := HA.out; omega⟩, ⟨HZ1.out, by have h2 := HDn.out h HB.out.1; rw [← HH1.out] at h2; have := HB.out.2; omega⟩, ⟨by rw [HH1.out]; exact HP.out.step HDn.out HB.out.1⟩, rfl⟩
end Go.Proofs.YtkknoionjppegaaDoor.Delta
