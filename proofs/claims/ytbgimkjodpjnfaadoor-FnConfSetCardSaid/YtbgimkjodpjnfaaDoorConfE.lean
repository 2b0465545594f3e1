/- Options that are set and added. -/
import Derived.Test.YtbgimkjodpjnfaaDoorConfD
import Derived.Test.YtbgimkjodpjnfaaDoorPFnConfSetx4
namespace Go.Proofs.YtbgimkjodpjnfaaDoor.Conf
open Go.RowKit Go.Proofs.YtbgimkjodpjnfaaDoorW.PrintWords Go.Proofs.YtbgimkjodpjnfaaDoor.Sep Go.Proofs.YtbgimkjodpjnfaaDoor.PFnConfSet

set_option maxHeartbeats 400000 in
theorem secOption_calls {w : World} {F : Nat → Prop} {s : S41} {p : Value} (h : pSec.M w F s [p]) (hn : s.f1.length ≤ 8589934592) (key : ByteArray) (hw : ∀ o ∈ s.f1, Word o.f0) (hk : Word key) :
    Calls Tryd.prog 37 #[p, .string key] w fun e w' => e = .returned (.string (lastVal s.f1 key)) ∧ w = w' := by
  obtain ⟨b, v, u, G, H, rfl, _, hb, h1, _⟩ := pSec_open h
  have c1 := cell_of hb 1 rfl
  have HC := Aside0.mk (get_calls h1 hn key hw hk)
  clear hb h h1 hw hk hn
  go_enter Tryd.func37, Tryd.ntmps37
  go_wp2_with (go_at_call 59; refine HC.out.mono ?_; rintro e w' ⟨rfl, rfl⟩)
  go_ret
  exact ⟨rfl, rfl⟩
set_option maxHeartbeats 400000 in
theorem subOption_calls {w : World} {F : Nat → Prop} {s : S47} {p : Value} (h : pSub.M w F s [p]) (hn : s.f1.length ≤ 8589934592) (key : ByteArray) (hw : ∀ o ∈ s.f1, Word o.f0) (hk : Word key) :
    Calls Tryd.prog 40 #[p, .string key] w fun e w' => e = .returned (.string (lastVal s.f1 key)) ∧ w = w' := by
  obtain ⟨b, v, G, rfl, _, hb, h1, _⟩ := pSub_open h
  have c1 := cell_of hb 1 rfl
  have HC := Aside0.mk (get_calls h1 hn key hw hk)
  clear hb h h1 hw hk hn
  go_enter Tryd.func40, Tryd.ntmps40
  go_wp2_with (go_at_call 59; refine HC.out.mono ?_; rintro e w' ⟨rfl, rfl⟩)
  go_ret
  exact ⟨rfl, rfl⟩
set_option maxHeartbeats 400000 in
theorem secAll_calls {w : World} {F : Nat → Prop} {s : S41} {p : Value} (h : pSec.M w F s [p]) (hn : s.f1.length ≤ 8589934592) (key : ByteArray) (hw : ∀ o ∈ s.f1, Word o.f0) (hk : Word key) :
    Calls Tryd.prog 38 #[p, .string key] w fun e w' => ∃ v', e = .returned v' ∧ Kd.R Kd.string 9 w' w.heap.size (fun _ => True) v' (allVals s.f1 key) ∧ Below w.heap.size w w' := by
  obtain ⟨b, v, u, G, H, rfl, _, hb, h1, _⟩ := pSec_open h
  have c1 := cell_of hb 1 rfl
  have HC := Aside0.mk (getAll_calls h1 hn key hw hk)
  clear hb h h1 hw hk hn
  go_enter Tryd.func38, Tryd.ntmps38
  go_wp2_with (go_at_call 60; refine HC.out.mono ?_; rintro e w' ⟨v', rfl, hr, hb⟩; have HR1 := Aside0.mk hr; have HB1 := Aside0.mk hb; clear hr hb)
  go_ret
  exact ⟨_, rfl, HR1.out, HB1.out⟩
set_option maxHeartbeats 400000 in
theorem subAll_calls {w : World} {F : Nat → Prop} {s : S47} {p : Value} (h : pSub.M w F s [p]) (hn : s.f1.length ≤ 8589934592) (key : ByteArray) (hw : ∀ o ∈ s.f1, Word o.f0) (hk : Word key) :
    Calls Tryd.prog 41 #[p, .string key] w fun e w' => ∃ v', e = .returned v' ∧ Kd.R Kd.string 9 w' w.heap.size (fun _ => True) v' (allVals s.f1 key) ∧ Below w.heap.size w w' := by
  obtain ⟨b, v, G, rfl, _, hb, h1, _⟩ := pSub_open h
  have c1 := cell_of hb 1 rfl
  have HC := Aside0.mk (getAll_calls h1 hn key hw hk)
  clear hb h h1 hw hk hn
  go_enter Tryd.func41, Tryd.ntmps41
  go_wp2_with (go_at_call 60; refine HC.out.mono ?_; rintro e w' ⟨v', rfl, hr, hb⟩; have HR1 := Aside0.mk hr; have HB1 := Aside0.mk hb; clear hr hb)
  go_ret
  exact ⟨_, rfl, HR1.out, HB1.out⟩

set_option maxHeartbeats 1000000 in
set_option maxRecDepth 100000 in
theorem withAdded_calls {w : World} {F : Nat → Prop} {os : List S45} {v : Value} (h : sOpts.M w F os [v]) (hn : os.length ≤ 8589934592) (key value : ByteArray) :
    Calls Tryd.prog 73 #[v, .string key, .string value] w fun e w' => ∃ v', e = .returned v' ∧ sOpts.M w' (fun k => F k ∨ w.heap.size ≤ k) (os ++ [⟨key, value⟩]) [v'] ∧ w.grownBy w' v.ownBlock ∧ (v'.ownBlock = v.ownBlock ∨ ∃ b, v'.ownBlock = some b ∧ w.heap.size ≤ b) := by
  have HR := Aside0.mk (sOpts.bound h)
  have HN := Aside0.mk hn
  clear h hn
  go_enter Tryd.func73, Tryd.ntmps73
  go_wp2_with (at_builtin; refine Sd.row_append (d := pOpt) rfl (.tmp 7) (.tmp 12) 81 108 (.pointer none) 8 rfl Tryd.underlying81 info108 rfl (by decide) v os ⟨key, value⟩ (.pointer (some ⟨w.heap.size, 0, none⟩)) (fun k => F k ∧ k < w.heap.size) (fun k => k = w.heap.size) rfl (by first | (go_simp; done) | (go_simp; rfl)) ?ay ?ad ?ao ?al ?_; (case ay => exact pOpt_mk _ rfl (heap_alloc_new _ _)); (case ad => intro k h1 h2; omega); (case ao => exact Sd.below _ HR.out (below_alloc (Below.refl _ _) _)); (case al => have := HN.out; omega); rintro v1 w1 hr1 hg1 ha1 -; have HR1 := Aside0.mk hr1; have HG1 := Aside0.mk hg1; have HA1 := Aside0.mk ha1; clear hr1 hg1 ha1)
  go_ret
  refine ⟨_, rfl, sOpts.mono (fun k hk => ?_) HR1.out, World.grownBy.trans (World.grownBy_alloc w _ _) HG1.out, ?_⟩
  · simp only [size_alloc] at hk
    rcases hk with hk | hk | hk
    · exact .inl hk.1
    · exact .inr (by omega)
    · exact .inr (by omega)
  · rcases HA1.out with h | ⟨b, h1, h2⟩
    · exact .inl h
    · exact .inr ⟨b, h1, by simp only [size_alloc] at h2; omega⟩
end Go.Proofs.YtbgimkjodpjnfaaDoor.Conf
