/- Options that are read: the last value of a key, and all. -/
import Derived.Test.YtbgimkjodpjnfaaDoorConfC
namespace Go.Proofs.YtbgimkjodpjnfaaDoor.Conf
open Go.RowKit Go.Proofs.YtbgimkjodpjnfaaDoorW.PrintWords Go.Proofs.YtbgimkjodpjnfaaDoor.Sep Go.Proofs.YtbgimkjodpjnfaaDoor.PFnConfSet

def allVals (os : List S45) (key : ByteArray) : List ByteArray := (os.filter (fun o => eqs o.f0 key)).map S45.f1
def lastVal (os : List S45) (key : ByteArray) : ByteArray := (allVals os key).getLastD ⟨#[]⟩
theorem allVals_snoc_yes {os : List S45} {o : S45} {key : ByteArray} (h : eqs o.f0 key = true) : allVals (os ++ [o]) key = allVals os key ++ [o.f1] := by simp [allVals, h]
theorem allVals_snoc_no {os : List S45} {o : S45} {key : ByteArray} (h : eqs o.f0 key = false) : allVals (os ++ [o]) key = allVals os key := by simp [allVals, h]
theorem take_snoc {α : Type} (l : List α) (i : Nat) (h : i < l.length) : l.take (i + 1) = l.take i ++ [l[i]] := List.take_succ_eq_append_getElem h

set_option maxHeartbeats 1000000 in
set_option maxRecDepth 100000 in
theorem get_calls {w : World} {F : Nat → Prop} {os : List S45} {v : Value} (h : sOpts.M w F os [v]) (hn : os.length ≤ 8589934592) (key : ByteArray) (hw : ∀ o ∈ os, Word o.f0) (hk : Word key) :
    Calls Tryd.prog 59 #[v, .string key] w fun e w' => e = .returned (.string (lastVal os key)) ∧ w = w' := by
  obtain ⟨A, c, rfl, hc, hm⟩ := Sd.row_shape h
  have HR := Aside0.mk h
  have HW := Aside0.mk hw
  have HK := Aside0.mk hk
  have HN := Aside0.mk hn
  clear h hw hk hc hm
  go_enter Tryd.func59, Tryd.ntmps59
  go_wp2
  go_loopg [5] os.length (fun g s5 wr => wr = w ∧ ∃ z : Int, s5 = .int .i64 z ∧ Aside0 (z = (g : Int) - 1) ∧ Aside0 (g ≤ os.length ∧ lastVal (os.take g) key = lastVal os key))
  case atStart => exact ⟨rfl, _, rfl, ⟨rfl⟩, ⟨Nat.le_refl _, by rw [List.take_length]⟩⟩
  case round =>
    obtain ⟨rfl, z, rfl, HZ, HI⟩ := hrel
    cases gk with
    | zero =>
      obtain rfl : z = -1 := by have := HZ.out; omega
      go_wp2
      go_ret
      refine ⟨?_, rfl⟩
      rw [← HI.out.2]
      rfl
    | succ g =>
      obtain rfl : z = (g : Int) := by have := HZ.out; omega
      have hg : g < os.length := by have := HI.out.1; omega
      obtain ⟨ad, u, Fi, rfl, hcell, hM⟩ := Sd.row_get HR.out g _ (List.getElem?_eq_getElem hg)
      have hko := HW.out _ (List.getElem_mem hg)
      obtain ⟨b, rfl, _, hb⟩ := pOpt_open hM
      have hc1 := cell_of hb 1 rfl
      have hIk := isKey_calls hM key hko HK.out
      have HIk := Aside0.mk hIk
      obtain ⟨o, ho⟩ : ∃ o, o = os[g] := ⟨_, rfl⟩
      rw [← ho] at hc1 HIk
      have hl : os.take (g + 1) = os.take g ++ [o] := by rw [take_snoc _ _ hg, ho]
      have HL := Aside0.mk hl
      clear hb hM hIk hko ho hl
      cases hk : eqs o.f0 key with
      | true =>
        go_wp2_with (go_at_call 71; refine (HIk.out).mono ?_; rintro e w' ⟨rfl, rfl⟩)
        go_ret
        refine ⟨?_, rfl⟩
        rw [← HI.out.2, HL.out]
        simp [lastVal, allVals_snoc_yes hk]
      | false =>
        go_wp2_with (go_at_call 71; refine (HIk.out).mono ?_; rintro e w' ⟨rfl, rfl⟩)
        go_roundg g
        case measure => omega
        case rel =>
          refine ⟨rfl, _, rfl, ⟨by omega⟩, ⟨by omega, ?_⟩⟩
          rw [← HI.out.2, HL.out]
          simp [lastVal, allVals_snoc_no hk]

theorem R_empty (w : World) (e : Nat) : Kd.string.R e (w.alloc (.cells #[] e)) w.heap.size (fun _ => True) (.slice (some ⟨w.heap.size, 0, none⟩) 0 0) [] :=
  Kd.R_of_own (World.ownsRow_made w #[] 0 (Nat.le_refl _) (by decide) rfl) (fun _ _ => trivial)
set_option maxHeartbeats 1000000 in
set_option maxRecDepth 100000 in
theorem getAll_calls {w : World} {F : Nat → Prop} {os : List S45} {v : Value} (h : sOpts.M w F os [v]) (hn : os.length ≤ 8589934592) (key : ByteArray) (hw : ∀ o ∈ os, Word o.f0) (hk : Word key) :
    Calls Tryd.prog 60 #[v, .string key] w fun e w' => ∃ v', e = .returned v' ∧ Kd.R Kd.string 9 w' w.heap.size (fun _ => True) v' (allVals os key) ∧ Below w.heap.size w w' := by
  obtain ⟨A, c, rfl, hc, hm⟩ := Sd.row_shape h
  have HR := Aside0.mk h
  have HW := Aside0.mk hw
  have HK := Aside0.mk hk
  have HN := Aside0.mk hn
  clear h hw hk hc hm
  go_enter Tryd.func60, Tryd.ntmps60
  go_wp2
  go_loopg [5, 11] os.length (fun g s5 s11 wr => ∃ i : Nat, s11 = .int .i64 i ∧ Aside0 (i + g = os.length) ∧ Aside0 (Kd.R Kd.string 9 wr w.heap.size (fun _ => True) s5 (allVals (os.take i) key)) ∧ Aside0 (Below w.heap.size w wr))
  case atStart => exact ⟨0, rfl, ⟨by omega⟩, ⟨R_empty w 9⟩, ⟨below_alloc (Below.refl _ _) _⟩⟩
  case round =>
    obtain ⟨i, rfl, HI, HO, HB⟩ := hrel
    cases gk with
    | zero =>
      obtain rfl : i = os.length := by have := HI.out; omega
      have hlt : decide (os.length < os.length) = false := by simp
      go_wp2
      go_ret
      exact ⟨_, rfl, by have := HO.out; rw [List.take_length] at this; exact this, HB.out⟩
    | succ g =>
      have hi2 : i < os.length := by have := HI.out; omega
      have hlt : decide (i < os.length) = true := by simp; omega
      have hl2 : os.length ≤ 8589934592 := HN.out
      obtain ⟨ad, u, Fi, rfl, hcell, hM⟩ := Sd.row_get (Sd.below _ HR.out HB.out) i _ (List.getElem?_eq_getElem hi2)
      have hko := HW.out _ (List.getElem_mem hi2)
      obtain ⟨b, rfl, _, hb⟩ := pOpt_open hM
      have hc1 := cell_of hb 1 rfl
      have hIk := isKey_calls hM key hko HK.out
      have HIk := Aside0.mk hIk
      obtain ⟨o, ho⟩ : ∃ o, o = os[i] := ⟨_, rfl⟩
      rw [← ho] at hc1 HIk
      have hl : os.take (i + 1) = os.take i ++ [o] := by rw [take_snoc _ _ hi2, ho]
      have HL := Aside0.mk hl
      have HS : Aside0 (w.heap.size ≤ wr.heap.size) := ⟨HB.out.size⟩
      have HT : Aside0 ((allVals (os.take i) key).length ≤ os.length) := ⟨by unfold allVals; rw [List.length_map]; exact Nat.le_trans (List.length_filter_le _ _) (Nat.le_trans (List.length_take_le _ _) (by omega))⟩
      clear hb hM hIk hko ho hl
      cases hk : eqs o.f0 key with
      | true =>
        go_wp2_with (first | (go_at_call 71; refine (HIk.out).mono ?_; rintro e w' ⟨rfl, rfl⟩) | (at_builtin; refine Kd.R_append Kd.string (w0 := w) w.heap.size rfl (.tmp 18) (.tmp 23) 26 9 (.string (⟨#[]⟩ : ByteArray)) 16 rfl Tryd.underlying26 info9 rfl (by decide) (by omega) u5 (allVals (os.take i) key) o.f1 [.string o.f1] (fun _ => True) (fun _ => False) rfl (by first | (go_simp; done) | (go_simp; rfl)) rfl (fun _ hk => hk.elim) (fun _ _ => trivial) HO.out HB.out HS.out ?aL ?_; (case aL => have := HT.out; omega); rintro v1 w1 hr1 hb1 hg1 -; have HR1 := Aside0.mk hr1; have HB1 := Aside0.mk hb1; clear hr1 hg1 hb1))
        go_roundg g
        case measure => omega
        case rel => exact ⟨i + 1, by go_num, ⟨by have := HI.out; omega⟩, ⟨by rw [HL.out, allVals_snoc_yes hk]; exact HR1.out⟩, HB1⟩
      | false =>
        go_wp2_with (go_at_call 71; refine (HIk.out).mono ?_; rintro e w' ⟨rfl, rfl⟩)
        go_roundg g
        case measure => omega
        case rel => exact ⟨i + 1, by go_num, ⟨by have := HI.out; omega⟩, ⟨by rw [HL.out, allVals_snoc_no hk]; exact HO.out⟩, HB⟩
end Go.Proofs.YtbgimkjodpjnfaaDoor.Conf
