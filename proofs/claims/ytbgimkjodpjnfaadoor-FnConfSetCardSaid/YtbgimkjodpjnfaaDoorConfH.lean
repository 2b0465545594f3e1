/- A part of a section by its name, made where there is none. -/
import Derived.Test.YtbgimkjodpjnfaaDoorConfG
namespace Go.Proofs.YtbgimkjodpjnfaaDoor.Conf
open Go.RowKit Go.Proofs.YtbgimkjodpjnfaaDoorW.PrintWords Go.Proofs.YtbgimkjodpjnfaaDoorW.PrintMore Go.Proofs.YtbgimkjodpjnfaaDoor.Sep Go.Proofs.YtbgimkjodpjnfaaDoor.PFnConfSet

/-- The last element with this name; a new one behind all where there is none. -/
def PickP {α : Type} (nm : α → ByteArray) (new : α) (l : List α) (name : ByteArray) (l' : List α) (i : Nat) (x : α) : Prop :=
  (l' = l ∧ l[i]? = some x ∧ eqs (nm x) name = true) ∨ ((∀ y ∈ l, eqs (nm y) name = false) ∧ l' = l ++ [new] ∧ i = l.length ∧ x = new)

/-- What the place of an element is good for: it may be turned, and the whole reads so. -/
def SubSpot (w0 w : World) (F : Nat → Prop) (s : S41) (p : Value) (l' : List S47) (i : Nat) (x : S47) (r : Value) (Fi : Nat → Prop) : Prop :=
  pSub.M w Fi x [r] ∧ (∀ k, Fi k → (F k ∨ w0.heap.size ≤ k) ∧ k < w.heap.size) ∧ ∀ w' x' Fi', Keep w w' Fi → pSub.M w' Fi' x' [r] → (∀ k, Fi' k → Fi k ∨ w.heap.size ≤ k) → pSec.M w' (fun k => F k ∨ w0.heap.size ≤ k) ⟨s.f0, s.f1, l'.set i x'⟩ [p]
def SubOut (w0 : World) (F : Nat → Prop) (s : S41) (p : Value) (name : ByteArray) (e : Ending) (w : World) : Prop :=
  ∃ l' i x r Fi, e = .returned r ∧ PickP S47.f0 ⟨name, []⟩ s.f2 name l' i x ∧ SubSpot w0 w F s p l' i x r Fi ∧ Keep w0 w F

theorem sec_focus {w0 w : World} {F G H : Nat → Prop} {n : ByteArray} {os : List S45} {l : List S47} {b : Nat} {v u : Value} (hFb : F b ∧ b < w.heap.size) (hb : w.heap[b]? = some (.cells #[.string n, v, u] 85 (0, 0))) (h1 : sOpts.M w G os [v]) (h2 : sSubs.M w H l [u]) (hG : ∀ k, G k → (F k ∨ w0.heap.size ≤ k) ∧ k < w.heap.size ∧ k ≠ b) (hH : ∀ k, H k → (F k ∨ w0.heap.size ≤ k) ∧ k < w.heap.size ∧ k ≠ b) (hGH : ∀ k, G k → H k → False) (hsz : w0.heap.size ≤ w.heap.size) (i : Nat) (x : S47) (hx : l[i]? = some x) :
    ∃ g c r Fi, u = .slice (some ⟨g, 0, none⟩) l.length c ∧ w.cell? ⟨g, i, none⟩ = some r ∧ pSub.M w Fi x [r] ∧ (∀ k, Fi k → (F k ∨ w0.heap.size ≤ k) ∧ k < w.heap.size) ∧ ∀ w' x' Fi', Keep w w' Fi → pSub.M w' Fi' x' [r] → (∀ k, Fi' k → Fi k ∨ w.heap.size ≤ k) → pSec.M w' (fun k => F k ∨ w0.heap.size ≤ k) ⟨n, os, l.set i x'⟩ [.pointer (some ⟨b, 0, none⟩)] := by
  obtain ⟨g, c, r, Fi, rfl, hcell, hM, hFi, hre⟩ := Sd.row_at h2 i x hx
  refine ⟨g, c, r, Fi, rfl, hcell, hM, fun k hk => ⟨(hH k (hFi k hk).1).1, (hFi k hk).2⟩, ?_⟩
  intro w' x' Fi' hk hM' hFi'
  have hrow := hre w' x' Fi' (fun k hlt _ hn => hk.block k hlt hn) hM' hFi'
  have hbF : ¬ Fi b := fun hf => (hH b (hFi b hf).1).2.2 rfl
  refine pSec_mk (G := G) (H := fun k => H k ∨ w.heap.size ≤ k) ⟨n, os, l.set i x'⟩ (.inl hFb.1) ((hk.block b hFb.2 hbF).trans hb) ?_ hrow ?_ ?_ ?_
  · exact Sd.move _ (fun k hkG => hk.block k (hG k hkG).2.1 (fun hf => hGH k hkG (hFi k hf).1)) h1
  · exact fun k hkG => ⟨(hG k hkG).1, (hG k hkG).2.2⟩
  · rintro k (hkH | hkH)
    · exact ⟨(hH k hkH).1, (hH k hkH).2.2⟩
    · exact ⟨.inr (by omega), by omega⟩
  · rintro k hkG (hkH | hkH)
    · exact hGH k hkG hkH
    · have := (hG k hkG).2.1
      omega

theorem grown_at {w w1 : World} {g : Nat} {o : Obj} {row : Option Nat} (hg : w.grownBy w1 row) (hne : some g ≠ row) (h : w.heap[g]? = some o) : w1.heap[g]? = some o := (hg.block g (Array.getElem?_eq_some_iff.1 h).1 hne).trans h
set_option maxHeartbeats 2000000 in
set_option maxRecDepth 100000 in
theorem subsection_calls {w : World} {F : Nat → Prop} {s : S41} {p : Value} (h : pSec.M w F s [p]) (hn : s.f2.length ≤ 8589934591) (name : ByteArray) :
    Calls Tryd.prog 39 #[p, .string name] w (SubOut w F s p name) := by
  obtain ⟨b, v, u, G, H, rfl, hFb, hb, h1, h2, hG, hH, hGH⟩ := pSec_open (pSec.bound h)
  obtain ⟨A, c, rfl, hc, hm⟩ := Sd.row_shape h2
  have c2 := cell_of (v := .slice A s.f2.length c) hb 2 rfl
  have f2 := unfrozen_of hb 2
  have hlt : b < w.heap.size := hFb.2
  have HH := Aside0.mk (And.intro hb (And.intro h1 (And.intro h2 (And.intro hG (And.intro hH (And.intro hGH hFb))))))
  have HN := Aside0.mk hn
  clear hb h h1 h2 hG hH hGH hFb hc hm
  go_enter Tryd.func39, Tryd.ntmps39
  go_wp2
  go_loopg [5] s.f2.length (fun g s5 wr => w = wr ∧ ∃ z : Int, s5 = .int .i64 z ∧ Aside0 (z = (g : Int) - 1) ∧ Aside0 (g ≤ s.f2.length) ∧ Aside0 (∀ y ∈ s.f2.drop g, eqs y.f0 name = false))
  case atStart => exact ⟨rfl, _, rfl, ⟨rfl⟩, ⟨Nat.le_refl _⟩, ⟨fun y hy => by rw [List.drop_length] at hy; cases hy⟩⟩
  case round =>
    obtain ⟨rfl, z, rfl, HZ, HI, HX⟩ := hrel
    cases gk with
    | zero =>
      obtain rfl : z = -1 := by have := HZ.out; omega
      have HR0 := Aside0.mk (Sd.row_block HH.out.2.2.1)
      go_wp2_with (at_builtin; refine Sd.row_append (d := pSub) rfl (.tmp 36) (.tmp 38) 83 71 (.pointer none) 8 rfl Tryd.underlying83 info71 rfl (by decide) (.slice A s.f2.length c) s.f2 ⟨name, []⟩ (.pointer (some ⟨w.heap.size, 0, none⟩)) H (fun k => k = w.heap.size) rfl (by first | (go_simp; done) | (go_simp; rfl)) ?ay ?ad ?ao ?al ?_; (case ay => exact pSub_mk (G := fun _ => False) ⟨name, []⟩ rfl (heap_alloc_new _ _) (Sd.row_nil _ _ _ _) (fun _ h => h.elim)); (case ad => intro k h1 h2; have := (HH.out.2.2.2.2.1 k h1).1.2; omega); (case ao => exact Sd.below _ HH.out.2.2.1 (below_alloc (Below.refl _ _) _)); (case al => have := HN.out; omega); rintro v1 w1 hr1 hg1 - hl1; obtain ⟨g1, cp1, rfl, hl1⟩ := hl1; have hB := grown_at hg1 (fun he => (HH.out.2.2.2.2.1 b (HR0.out b he.symm)).2 rfl) ((Below.heap_alloc w _ b hlt).trans HH.out.1); have c2' := cell_of (v := .slice A s.f2.length c) hB 2 rfl; have f2' := unfrozen_of hB 2; have HBB := Aside0.mk hB; have HR1 := Aside0.mk hr1; have HG1 := Aside0.mk hg1; have HL1 := Aside0.mk hl1; clear hr1 hg1 hl1 hB)
      go_ret
      obtain ⟨hb, h1, h2, hG, hH, hGH, hFb⟩ := HH.out
      have hrow := fun k (hk : G k) => fun he : some k = (Value.slice A s.f2.length c).ownBlock => hGH k hk (HR0.out k he.symm)
      have hsz : w.heap.size + 1 ≤ w1.heap.size := by have := HG1.out.size; simpa using this
      have hR2 := sSubs.bound (Sd.move sSubs (w1 := w1.setCell ⟨b, 2, none⟩ (.slice (some ⟨g1, 0, none⟩) (s.f2.length + 1) cp1)) (fun k hk => Below.heap_setCell _ _ _ _ (by
        rcases hk with hk | hk | hk
        · exact (hH k hk).2
        · intro he
          have : k = b := he
          omega
        · simp only [size_alloc] at hk
          intro he
          have : k = b := he
          omega)) HR1.out)
      obtain ⟨g', c', r, Fi', hu, hc', hM', hFi, hre⟩ := sec_focus (w0 := w) (F := F) (b := b) (n := s.f0) (os := s.f1) (v := v) (w := w1.setCell ⟨b, 2, none⟩ (.slice (some ⟨g1, 0, none⟩) (s.f2.length + 1) cp1)) ⟨hFb.1, by rw [sz_set]; omega⟩ (heap_set HBB.out 2 _)
        (Sd.move _ (fun k hk => (Below.heap_setCell _ _ _ _ (hG k hk).2).trans ((HG1.out.block k (by simp; have := (hG k hk).1.2; omega) (hrow k hk)).trans (Below.heap_alloc w _ k (hG k hk).1.2))) h1) hR2
        (fun k hk => ⟨.inl (hG k hk).1.1, by rw [sz_set]; have := (hG k hk).1.2; omega, (hG k hk).2⟩)
        (fun k hk => by
          refine ⟨?_, hk.2, ?_⟩
          · rcases hk.1 with h | h | h
            · exact .inl (hH k h).1.1
            · exact .inr (by omega)
            · simp only [size_alloc] at h
              exact .inr (by omega)
          · rcases hk.1 with h | h | h
            · exact (hH k h).2
            · omega
            · simp only [size_alloc] at h
              omega)
        (fun k hk hk' => by
          rcases hk'.1 with h | h | h
          · exact hGH k hk h
          · have := (hG k hk).1.2
            omega
          · simp only [size_alloc] at h
            have := (hG k hk).1.2
            omega)
        (by rw [sz_set]; omega) s.f2.length ⟨name, []⟩ (by simp)
      have hur : r = .pointer (some ⟨w.heap.size, 0, none⟩) := by
        injection hu with hu _ _
        injection hu with hu
        injection hu with hu _ _
        subst hu
        have hne : b ≠ g1 := by
          rintro rfl
          have h3 := Sd.row_block hR2 b rfl
          rcases h3.1 with h | h | h
          · exact (hH b h).2 rfl
          · omega
          · simp only [size_alloc] at h
            omega
        have hc2 : (w1.setCell ⟨b, 2, none⟩ (.slice (some ⟨g1, 0, none⟩) (s.f2.length + 1) cp1)).cell? ⟨g1, s.f2.length, none⟩ = w1.cell? ⟨g1, s.f2.length, none⟩ := World.cell?_of_block (Below.heap_setCell _ _ _ _ (Ne.symm hne))
        rw [hc2, HL1.out] at hc'
        injection hc' with hc'
        exact hc'.symm
      subst hur
      refine ⟨s.f2 ++ [⟨name, []⟩], s.f2.length, ⟨name, []⟩, .pointer (some ⟨w.heap.size, 0, none⟩), Fi', rfl, .inr ⟨fun y hy => HX.out y (by rw [List.drop_zero]; exact hy), rfl, rfl, rfl⟩, ⟨hM', hFi, hre⟩, ?_⟩
      exact (((Keep.of_below (below_alloc (Below.refl _ _) _) F).grown HG1.out (fun k hk => .inl (hH k (HR0.out k hk)).1.1)).setCell (.inl hFb.1) _)
    | succ g =>
      obtain rfl : z = (g : Int) := by have := HZ.out; omega
      have hg : g < s.f2.length := by have := HI.out; omega
      obtain ⟨ad, u, Fi, rfl, hcell, hM⟩ := Sd.row_get HH.out.2.2.1 g _ (List.getElem?_eq_getElem hg)
      have HIk := Aside0.mk (isSub_calls hM name)
      obtain ⟨o, ho⟩ : ∃ o, o = s.f2[g] := ⟨_, rfl⟩
      rw [← ho] at HIk hM
      have HP := Aside0.mk hM
      have HO := Aside0.mk ho
      clear hM ho
      cases hk : eqs o.f0 name with
      | true =>
        go_wp2_with (go_at_call 61; refine (HIk.out).mono ?_; rintro e w' ⟨rfl, rfl⟩)
        go_ret
        have hx : s.f2[g]? = some o := by rw [List.getElem?_eq_getElem hg, HO.out]
        obtain ⟨hb, h1, h2, hG, hH, hGH, hFb⟩ := HH.out
        obtain ⟨g', c', r, Fi', hu, hc', hM', hFi, hre⟩ := sec_focus (w0 := w) ⟨hFb.1, hFb.2⟩ hb h1 h2 (fun k hk => ⟨.inl (hG k hk).1.1, (hG k hk).1.2, (hG k hk).2⟩) (fun k hk => ⟨.inl (hH k hk).1.1, (hH k hk).1.2, (hH k hk).2⟩) hGH (Nat.le_refl _) g o hx
        have hur : u = r := by
          injection hu with hu _ _
          injection hu with hu
          subst hu
          rw [add_plain] at hcell
          rw [hcell] at hc'
          injection hc'
        subst hur
        exact ⟨s.f2, g, o, u, Fi', rfl, .inl ⟨rfl, hx, hk⟩, ⟨hM', hFi, hre⟩, Keep.refl _ _⟩
      | false =>
        go_wp2_with (go_at_call 61; refine (HIk.out).mono ?_; rintro e w' ⟨rfl, rfl⟩)
        go_roundg g
        case measure => omega
        case rel =>
          refine ⟨rfl, _, rfl, ⟨by omega⟩, ⟨by omega⟩, ⟨fun y hy => ?_⟩⟩
          rw [List.drop_eq_getElem_cons hg, ← HO.out] at hy
          rcases List.mem_cons.1 hy with rfl | hy
          · exact hk
          · exact HX.out y hy
end Go.Proofs.YtbgimkjodpjnfaaDoor.Conf
