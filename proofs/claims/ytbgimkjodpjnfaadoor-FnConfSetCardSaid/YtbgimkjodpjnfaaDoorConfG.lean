/- SetOption of a section, and of a part of one. -/
import Derived.Test.YtbgimkjodpjnfaaDoorConfF
namespace Go.Proofs.YtbgimkjodpjnfaaDoor.Conf
open Go.RowKit Go.Proofs.YtbgimkjodpjnfaaDoorW.PrintWords Go.Proofs.YtbgimkjodpjnfaaDoorW.PrintMore Go.Proofs.YtbgimkjodpjnfaaDoor.Sep Go.Proofs.YtbgimkjodpjnfaaDoor.PFnConfSet

/-- Only blocks of F, and new ones, have turned. -/
structure Keep (w w' : World) (F : Nat → Prop) : Prop where
  os : w'.os = w.os
  tape : w'.tape = w.tape
  output : w'.output = w.output
  size : w.heap.size ≤ w'.heap.size
  block : ∀ k, k < w.heap.size → ¬ F k → w'.heap[k]? = w.heap[k]?
theorem Keep.of_below {w w' : World} (h : Below w.heap.size w w') (F : Nat → Prop) : Keep w w' F := ⟨h.os, h.tape, h.output, h.size, fun k hk _ => h.block k hk⟩
theorem Keep.refl (w : World) (F : Nat → Prop) : Keep w w F := ⟨rfl, rfl, rfl, Nat.le_refl _, fun _ _ _ => rfl⟩
theorem Keep.mono {w w' : World} {F G : Nat → Prop} (h : Keep w w' F) (hFG : ∀ k, F k → G k) : Keep w w' G := ⟨h.os, h.tape, h.output, h.size, fun k hk hn => h.block k hk (fun hf => hn (hFG k hf))⟩
theorem Keep.trans {w w1 w2 : World} {F G : Nat → Prop} (h : Keep w w1 F) (h' : Keep w1 w2 G) (hG : ∀ k, k < w.heap.size → G k → F k) : Keep w w2 F :=
  ⟨h'.os.trans h.os, h'.tape.trans h.tape, h'.output.trans h.output, Nat.le_trans h.size h'.size, fun k hk hn => (h'.block k (Nat.lt_of_lt_of_le hk h.size) (fun hg => hn (hG k hk hg))).trans (h.block k hk hn)⟩
theorem Keep.setCell {w w1 : World} {F : Nat → Prop} (h : Keep w w1 F) {a : Addr} (ha : F a.block ∨ w.heap.size ≤ a.block) (u : Value) : Keep w (w1.setCell a u) F :=
  ⟨h.os, h.tape, h.output, by simpa [World.setCell] using h.size, fun k hk hn => (Below.heap_setCell w1 a u k (by rintro rfl; rcases ha with h | h; exact hn h; omega)).trans (h.block k hk hn)⟩
theorem Keep.grown {w w1 w2 : World} {F : Nat → Prop} {row : Option Nat} (h : Keep w w1 F) (hg : w1.grownBy w2 row) (hr : ∀ k, row = some k → F k ∨ w.heap.size ≤ k) : Keep w w2 F :=
  ⟨hg.os.trans h.os, hg.tape.trans h.tape, hg.output.trans h.output, Nat.le_trans h.size hg.size, fun k hk hn => (hg.block k (Nat.lt_of_lt_of_le hk h.size) (fun he => by rcases hr k he.symm with h | h; exact hn h; omega)).trans (h.block k hk hn)⟩
theorem Keep.below {w0 w w' : World} {B : Nat} {F : Nat → Prop} (hb : Below B w0 w) (hB : B ≤ w.heap.size) (h : Keep w w' F) (hF : ∀ k, F k → B ≤ k) : Below B w0 w' :=
  hb.trans ⟨h.os, h.tape, h.output, h.size, fun k hk => h.block k (by omega) (fun hf => by have := hF k hf; omega)⟩
theorem heap_set {w : World} {b t : Nat} {cs : Array Value} {fr : Nat × Nat} (h : w.heap[b]? = some (.cells cs t fr)) (j : Nat) (v : Value) : (w.setCell ⟨b, j, none⟩ v).heap[b]? = some (.cells (cs.setIfInBounds j v) t fr) := by
  simp only [World.setCell, Array.getElem?_modify, if_pos, h]
  rfl
theorem sz_set (w : World) (a : Addr) (v : Value) : (w.setCell a v).heap.size = w.heap.size := by simp [World.setCell]

theorem one_value (w : World) (value : ByteArray) : Kd.C Kd.string (w.alloc (.cells #[.string value] 9)) (some ⟨w.heap.size, 0, none⟩) 1 [value] := by
  refine ⟨rfl, by omega, fun _ => ⟨_, rfl, fun j p hj => ?_⟩⟩
  have hj0 : j = 0 := by
    have := (List.getElem?_eq_some_iff.1 hj).1
    simpa using this
  subst hj0
  obtain rfl : value = p := by simpa using hj
  refine ⟨[.string value], rfl, rfl, fun i u hu => ?_⟩
  have hi0 : i = 0 := by
    have := (List.getElem?_eq_some_iff.1 hu).1
    simpa using this
  subst hi0
  obtain rfl : Value.string value = u := by simpa using hu
  exact cell_of (heap_alloc_new w (.cells #[.string value] 9)) 0 rfl

set_option maxHeartbeats 1000000 in
set_option maxRecDepth 100000 in
theorem secSet_calls {w : World} {F : Nat → Prop} {s : S41} {p : Value} (h : pSec.M w F s [p]) (hn : s.f1.length ≤ 8589934591) (key value : ByteArray) (hw : ∀ o ∈ s.f1, Word o.f0) (hk : Word key) :
    Calls Tryd.prog 45 #[p, .string key, .string value] w fun e w' => e = .returned p ∧ pSec.M w' (fun k => F k ∨ w.heap.size ≤ k) ⟨s.f0, setOpts s.f1 key value, s.f2⟩ [p] ∧ Keep w w' F := by
  obtain ⟨b, v, u, G, H, rfl, hFb, hb, h1, h2, hG, hH, hGH⟩ := pSec_open (pSec.bound h)
  have c1 := cell_of (v := v) hb 1 rfl
  have hlt : b < w.heap.size := hFb.2
  have hba := below_alloc (Below.refl w.heap.size w) (.cells #[.string value] 9)
  have HC := Aside0.mk (withSetted_calls (Sd.below _ h1 hba) hn key value hw hk _ 1 (one_value w value) (Nat.le_refl _))
  have HH := Aside0.mk (And.intro hb (And.intro h1 (And.intro h2 (And.intro hG (And.intro hH (And.intro hGH hFb))))))
  clear hb h h1 h2 hw hk hn hG hH hGH hFb hba
  go_enter Tryd.func45, Tryd.ntmps45
  go_wp2_with (go_at_call 62; refine HC.out.mono ?_; rintro e w2 ⟨v', rfl, hr, hb⟩; obtain ⟨A', c', rfl, _, _⟩ := Sd.row_shape hr; have HR1 := Aside0.mk hr; have HB1 := Aside0.mk hb; have hB := (hb.block b (by simp; omega)).trans ((Below.heap_alloc w _ b hlt).trans HH.out.1); have c1' := cell_of (v := v) hB 1 rfl; have f1' := unfrozen_of hB 1; have HBB := Aside0.mk hB; clear hr hb hB)
  go_ret
  obtain ⟨hb, h1, h2, hG, hH, hGH, hFb⟩ := HH.out
  have hb0 : Below w.heap.size w w2 := below_step (below_alloc (Below.refl _ _) _) HB1.out
  refine ⟨rfl, pSec_mk (G := fun k => G k ∨ w.heap.size < k) (H := H) ⟨s.f0, setOpts s.f1 key value, s.f2⟩ (.inl hFb.1) (heap_set HBB.out 1 _) ?_ ?_ ?_ ?_ ?_, ?_⟩
  · refine Sd.move _ (fun k hk => Below.heap_setCell _ _ _ _ ?_) (sOpts.mono (fun k hk => ?_) HR1.out)
    · rcases hk with hk | hk
      · exact (hG k hk).2
      · intro he
        have : k = b := he
        omega
    · simp only [size_alloc] at hk
      rcases hk with hk | hk
      · exact .inl hk
      · exact .inr (by omega)
  · refine Sd.move _ (fun k hk => Below.heap_setCell _ _ _ _ (hH k hk).2) (Sd.below _ h2 hb0)
  · rintro k (hk | hk)
    · exact ⟨.inl (hG k hk).1.1, (hG k hk).2⟩
    · exact ⟨.inr (by omega), by omega⟩
  · exact fun k hk => ⟨.inl (hH k hk).1.1, (hH k hk).2⟩
  · rintro k (hk | hk) hk'
    · exact hGH k hk hk'
    · have := (hH k hk').1.2
      omega
  · exact (Keep.of_below hb0 F).setCell (.inl hFb.1) _

set_option maxHeartbeats 1000000 in
set_option maxRecDepth 100000 in
theorem subSet_calls {w : World} {F : Nat → Prop} {s : S47} {p : Value} (h : pSub.M w F s [p]) (hn : s.f1.length ≤ 8589934591) (key value : ByteArray) (hw : ∀ o ∈ s.f1, Word o.f0) (hk : Word key) (A : Option Addr) (c : Nat) (hv : Kd.C Kd.string w A 1 [value]) (hc : 1 ≤ c) :
    Calls Tryd.prog 46 #[p, .string key, .slice A 1 c] w fun e w' => e = .returned p ∧ pSub.M w' (fun k => F k ∨ w.heap.size ≤ k) ⟨s.f0, setOpts s.f1 key value⟩ [p] ∧ Keep w w' F := by
  obtain ⟨b, v, G, rfl, hFb, hb, h1, hG⟩ := pSub_open (pSub.bound h)
  have c1 := cell_of (v := v) hb 1 rfl
  have hlt : b < w.heap.size := hFb.2
  have HC := Aside0.mk (withSetted_calls h1 hn key value hw hk A c hv hc)
  have HH := Aside0.mk (And.intro hb (And.intro h1 (And.intro hG hFb)))
  clear hb h h1 hw hk hn hG hFb hv hc
  go_enter Tryd.func46, Tryd.ntmps46
  go_wp2_with (go_at_call 62; refine HC.out.mono ?_; rintro e w2 ⟨v', rfl, hr, hb⟩; obtain ⟨A', c', rfl, _, _⟩ := Sd.row_shape hr; have HR1 := Aside0.mk hr; have HB1 := Aside0.mk hb; have hB := (hb.block b hlt).trans HH.out.1; have c1' := cell_of (v := v) hB 1 rfl; have f1' := unfrozen_of hB 1; have HBB := Aside0.mk hB; clear hr hb hB)
  go_ret
  obtain ⟨hb, h1, hG, hFb⟩ := HH.out
  refine ⟨rfl, pSub_mk (G := fun k => G k ∨ w.heap.size ≤ k) ⟨s.f0, setOpts s.f1 key value⟩ (.inl hFb.1) (heap_set HBB.out 1 _) ?_ ?_, ?_⟩
  · refine Sd.move _ (fun k hk => Below.heap_setCell _ _ _ _ ?_) HR1.out
    rcases hk with hk | hk
    · exact (hG k hk).2
    · intro he
      have : k = b := he
      omega
  · rintro k (hk | hk)
    · exact ⟨.inl (hG k hk).1.1, (hG k hk).2⟩
    · exact ⟨.inr (by omega), by omega⟩
  · exact (Keep.of_below HB1.out F).setCell (.inl hFb.1) _
end Go.Proofs.YtbgimkjodpjnfaaDoor.Conf
