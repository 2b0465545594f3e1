/- A section of a configuration by its name, made where there is none. -/
import Derived.Test.YtbgimkjodpjnfaaDoorConfH
namespace Go.Proofs.YtbgimkjodpjnfaaDoor.Conf
open Go.RowKit Go.Proofs.YtbgimkjodpjnfaaDoorW.PrintWords Go.Proofs.YtbgimkjodpjnfaaDoorW.PrintMore Go.Proofs.YtbgimkjodpjnfaaDoor.Sep Go.Proofs.YtbgimkjodpjnfaaDoor.PFnConfSet

def SecSpot (w0 w : World) (F : Nat → Prop) (p : Value) (l' : List S41) (i : Nat) (x : S41) (r : Value) (Fi : Nat → Prop) : Prop :=
  pSec.M w Fi x [r] ∧ (∀ k, Fi k → (F k ∨ w0.heap.size ≤ k) ∧ k < w.heap.size) ∧ ∀ w' x' Fi', Keep w w' Fi → pSec.M w' Fi' x' [r] → (∀ k, Fi' k → Fi k ∨ w.heap.size ≤ k) → pCfg.M w' (fun k => F k ∨ w0.heap.size ≤ k) (l'.set i x') [p]
def SecOut (w0 : World) (F : Nat → Prop) (l : List S41) (p : Value) (name : ByteArray) (e : Ending) (w : World) : Prop :=
  ∃ l' i x r Fi, e = .returned r ∧ PickP S41.f0 ⟨name, [], []⟩ l name l' i x ∧ SecSpot w0 w F p l' i x r Fi ∧ Keep w0 w F

theorem cfg_focus {w0 w : World} {F H : Nat → Prop} {l : List S41} {b : Nat} {u : Value} (hFb : F b ∧ b < w.heap.size) (hb : w.heap[b]? = some (.cells #[.pointer none, u, .slice none 0 0] 79 (0, 0))) (h2 : sSecs.M w H l [u]) (hH : ∀ k, H k → (F k ∨ w0.heap.size ≤ k) ∧ k < w.heap.size ∧ k ≠ b) (hsz : w0.heap.size ≤ w.heap.size) (i : Nat) (x : S41) (hx : l[i]? = some x) :
    ∃ g c r Fi, u = .slice (some ⟨g, 0, none⟩) l.length c ∧ w.cell? ⟨g, i, none⟩ = some r ∧ pSec.M w Fi x [r] ∧ (∀ k, Fi k → (F k ∨ w0.heap.size ≤ k) ∧ k < w.heap.size) ∧ ∀ w' x' Fi', Keep w w' Fi → pSec.M w' Fi' x' [r] → (∀ k, Fi' k → Fi k ∨ w.heap.size ≤ k) → pCfg.M w' (fun k => F k ∨ w0.heap.size ≤ k) (l.set i x') [.pointer (some ⟨b, 0, none⟩)] := by
  obtain ⟨g, c, r, Fi, rfl, hcell, hM, hFi, hre⟩ := Sd.row_at h2 i x hx
  refine ⟨g, c, r, Fi, rfl, hcell, hM, fun k hk => ⟨(hH k (hFi k hk).1).1, (hFi k hk).2⟩, ?_⟩
  intro w' x' Fi' hk hM' hFi'
  have hrow := hre w' x' Fi' (fun k hlt _ hn => hk.block k hlt hn) hM' hFi'
  have hbF : ¬ Fi b := fun hf => (hH b (hFi b hf).1).2.2 rfl
  refine pCfg_mk (G := fun k => H k ∨ w.heap.size ≤ k) (l.set i x') (.inl hFb.1) ((hk.block b hFb.2 hbF).trans hb) hrow ?_
  rintro k (hkH | hkH)
  · exact ⟨(hH k hkH).1, (hH k hkH).2.2⟩
  · exact ⟨.inr (by omega), by omega⟩

set_option maxHeartbeats 2000000 in
set_option maxRecDepth 100000 in
theorem section_calls {w : World} {F : Nat → Prop} {l : List S41} {p : Value} (h : pCfg.M w F l [p]) (hn : l.length ≤ 8589934591) (name : ByteArray) (hw : ∀ s ∈ l, Word s.f0) (hk : Word name) :
    Calls Tryd.prog 36 #[p, .string name] w (SecOut w F l p name) := by
  obtain ⟨b, u, H, rfl, hFb, hb, h2, hH⟩ := pCfg_open (pCfg.bound h)
  obtain ⟨A, c, rfl, hc, hm⟩ := Sd.row_shape h2
  have c2 := cell_of (v := .slice A l.length c) hb 1 rfl
  have f2 := unfrozen_of hb 1
  have hlt : b < w.heap.size := hFb.2
  have HH := Aside0.mk (And.intro hb (And.intro h2 (And.intro hH hFb)))
  have HN := Aside0.mk hn
  have HW := Aside0.mk hw
  have HK := Aside0.mk hk
  clear hb h h2 hH hFb hc hm hw hk
  go_enter Tryd.func36, Tryd.ntmps36
  go_wp2
  go_loopg [5] l.length (fun g s5 wr => w = wr ∧ ∃ z : Int, s5 = .int .i64 z ∧ Aside0 (z = (g : Int) - 1) ∧ Aside0 (g ≤ l.length) ∧ Aside0 (∀ y ∈ l.drop g, eqs y.f0 name = false))
  case atStart => exact ⟨rfl, _, rfl, ⟨rfl⟩, ⟨Nat.le_refl _⟩, ⟨fun y hy => by rw [List.drop_length] at hy; cases hy⟩⟩
  case round =>
    obtain ⟨rfl, z, rfl, HZ, HI, HX⟩ := hrel
    cases gk with
    | zero =>
      obtain rfl : z = -1 := by have := HZ.out; omega
      have HR0 := Aside0.mk (Sd.row_block HH.out.2.1)
      go_wp2_with (at_builtin; refine Sd.row_append (d := pSec) rfl (.tmp 36) (.tmp 38) 75 67 (.pointer none) 8 rfl Tryd.underlying75 info67 rfl (by decide) (.slice A l.length c) l ⟨name, [], []⟩ (.pointer (some ⟨w.heap.size, 0, none⟩)) H (fun k => k = w.heap.size) rfl (by first | (go_simp; done) | (go_simp; rfl)) ?ay ?ad ?ao ?al ?_; (case ay => exact pSec_mk (G := fun _ => False) (H := fun _ => False) ⟨name, [], []⟩ rfl (heap_alloc_new _ _) (Sd.row_nil _ _ _ _) (Sd.row_nil _ _ _ _) (fun _ h => h.elim) (fun _ h => h.elim) (fun _ h => h.elim)); (case ad => intro k h1 h2; have := (HH.out.2.2.1 k h1).1.2; omega); (case ao => exact Sd.below _ HH.out.2.1 (below_alloc (Below.refl _ _) _)); (case al => have := HN.out; omega); rintro v1 w1 hr1 hg1 - hl1; obtain ⟨g1, cp1, rfl, hl1⟩ := hl1; have hB := grown_at hg1 (fun he => (HH.out.2.2.1 b (HR0.out b he.symm)).2 rfl) ((Below.heap_alloc w _ b hlt).trans HH.out.1); have c2' := cell_of (v := .slice A l.length c) hB 1 rfl; have f2' := unfrozen_of hB 1; have HBB := Aside0.mk hB; have HR1 := Aside0.mk hr1; have HG1 := Aside0.mk hg1; have HL1 := Aside0.mk hl1; clear hr1 hg1 hl1 hB)
      go_ret
      obtain ⟨hb, h2, hH, hFb⟩ := HH.out
      have hsz : w.heap.size + 1 ≤ w1.heap.size := by have := HG1.out.size; simpa using this
      have hR2 := sSecs.bound (Sd.move sSecs (w1 := w1.setCell ⟨b, 1, none⟩ (.slice (some ⟨g1, 0, none⟩) (l.length + 1) cp1)) (fun k hk => Below.heap_setCell _ _ _ _ (by
        rcases hk with hk | hk | hk
        · exact (hH k hk).2
        · intro he
          have : k = b := he
          omega
        · simp only [size_alloc] at hk
          intro he
          have : k = b := he
          omega)) HR1.out)
      obtain ⟨g', c', r, Fi', hu, hc', hM', hFi, hre⟩ := cfg_focus (w0 := w) (F := F) (b := b) (w := w1.setCell ⟨b, 1, none⟩ (.slice (some ⟨g1, 0, none⟩) (l.length + 1) cp1)) ⟨hFb.1, by rw [sz_set]; omega⟩ (heap_set HBB.out 1 _) hR2
        (fun k hk => by
          refine ⟨?_, hk.2, ?_⟩
          · rcases hk.1 with h | h | h
            · exact .inl (hH k h).1.1
            · exact .inr (by omega)
            · simp only [size_alloc] at h
              exact .inr (by omega)
          · rcases hk.1 with h | h | h
            · exact (hH k h).2
            · omega
            · simp only [size_alloc] at h
              omega)
        (by rw [sz_set]; omega) l.length ⟨name, [], []⟩ (by simp)
      have hur : r = .pointer (some ⟨w.heap.size, 0, none⟩) := by
        injection hu with hu _ _
        injection hu with hu
        injection hu with hu _ _
        subst hu
        have hne : b ≠ g1 := by
          rintro rfl
          have h3 := Sd.row_block hR2 b rfl
          rcases h3.1 with h | h | h
          · exact (hH b h).2 rfl
          · omega
          · simp only [size_alloc] at h
            omega
        have hc2 : (w1.setCell ⟨b, 1, none⟩ (.slice (some ⟨g1, 0, none⟩) (l.length + 1) cp1)).cell? ⟨g1, l.length, none⟩ = w1.cell? ⟨g1, l.length, none⟩ := World.cell?_of_block (Below.heap_setCell _ _ _ _ (Ne.symm hne))
        rw [hc2, HL1.out] at hc'
        injection hc' with hc'
        exact hc'.symm
      subst hur
      refine ⟨l ++ [⟨name, [], []⟩], l.length, ⟨name, [], []⟩, .pointer (some ⟨w.heap.size, 0, none⟩), Fi', rfl, .inr ⟨fun y hy => HX.out y (by rw [List.drop_zero]; exact hy), rfl, rfl, rfl⟩, ⟨hM', hFi, hre⟩, ?_⟩
      exact (((Keep.of_below (below_alloc (Below.refl _ _) _) F).grown HG1.out (fun k hk => .inl (hH k (HR0.out k hk)).1.1)).setCell (.inl hFb.1) _)
    | succ g =>
      obtain rfl : z = (g : Int) := by have := HZ.out; omega
      have hg : g < l.length := by have := HI.out; omega
      obtain ⟨ad, u, Fi, rfl, hcell, hM⟩ := Sd.row_get HH.out.2.1 g _ (List.getElem?_eq_getElem hg)
      have HIk := Aside0.mk (isName_calls hM name (HW.out _ (List.getElem_mem hg)) HK.out)
      obtain ⟨o, ho⟩ : ∃ o, o = l[g] := ⟨_, rfl⟩
      rw [← ho] at HIk hM
      have HP := Aside0.mk hM
      have HO := Aside0.mk ho
      clear hM ho
      cases hk : eqs o.f0 name with
      | true =>
        go_wp2_with (go_at_call 58; refine (HIk.out).mono ?_; rintro e w' ⟨rfl, rfl⟩)
        go_ret
        have hx : l[g]? = some o := by rw [List.getElem?_eq_getElem hg, HO.out]
        obtain ⟨hb, h2, hH, hFb⟩ := HH.out
        obtain ⟨g', c', r, Fi', hu, hc', hM', hFi, hre⟩ := cfg_focus (w0 := w) ⟨hFb.1, hFb.2⟩ hb h2 (fun k hk => ⟨.inl (hH k hk).1.1, (hH k hk).1.2, (hH k hk).2⟩) (Nat.le_refl _) g o hx
        have hur : u = r := by
          injection hu with hu _ _
          injection hu with hu
          subst hu
          rw [add_plain] at hcell
          rw [hcell] at hc'
          injection hc'
        subst hur
        exact ⟨l, g, o, u, Fi', rfl, .inl ⟨rfl, hx, hk⟩, ⟨hM', hFi, hre⟩, Keep.refl _ _⟩
      | false =>
        go_wp2_with (go_at_call 58; refine (HIk.out).mono ?_; rintro e w' ⟨rfl, rfl⟩)
        go_roundg g
        case measure => omega
        case rel =>
          refine ⟨rfl, _, rfl, ⟨by omega⟩, ⟨by omega⟩, ⟨fun y hy => ?_⟩⟩
          rw [List.drop_eq_getElem_cons hg, ← HO.out] at hy
          rcases List.mem_cons.1 hy with rfl | hy
          · exact hk
          · exact HX.out y hy
end Go.Proofs.YtbgimkjodpjnfaaDoor.Conf
