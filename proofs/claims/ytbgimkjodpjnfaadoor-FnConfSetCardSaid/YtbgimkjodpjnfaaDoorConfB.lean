/- The small methods of the configuration's package. -/
import Derived.Test.YtbgimkjodpjnfaaDoorConfA
namespace Go.Proofs.YtbgimkjodpjnfaaDoor.Conf
open Go.RowKit Go.Proofs.YtbgimkjodpjnfaaDoorW.PrintWords Go.Proofs.YtbgimkjodpjnfaaDoor.Sep Go.Proofs.YtbgimkjodpjnfaaDoor.PFnConfSet

theorem cell_of {w : World} {b t : Nat} {cs : Array Value} {fr : Nat × Nat} (h : w.heap[b]? = some (.cells cs t fr)) (j : Nat) {v : Value} (hv : cs[j]? = some v) : w.cell? ⟨b, j, none⟩ = some v := by
  simp [World.cell?, h, hv]
theorem unfrozen_of {w : World} {b t : Nat} {cs : Array Value} (h : w.heap[b]? = some (.cells cs t (0, 0))) (j : Nat) : w.frozen? ⟨b, j, none⟩ = false := by
  simp [World.frozen?, h]

set_option maxHeartbeats 400000 in
theorem isKey_calls {w : World} {F : Nat → Prop} {o : S45} {p : Value} (h : pOpt.M w F o [p]) (key : ByteArray) (ho : Word o.f0) (hk : Word key) :
    Calls Tryd.prog 71 #[p, .string key] w fun e w' => e = .returned (.bool (eqs o.f0 key)) ∧ w = w' := by
  obtain ⟨b, rfl, _, hb⟩ := pOpt_open h
  have c0 := cell_of hb 0 rfl
  clear hb h
  go_enter Tryd.func71, Tryd.ntmps71
  go_wp2_with (go_at_call 70; refine (fold_word ho hk _).mono ?_; rintro e w' ⟨rfl, rfl⟩)
  go_ret
  exact ⟨rfl, rfl⟩
set_option maxHeartbeats 400000 in
theorem isName_calls {w : World} {F : Nat → Prop} {o : S41} {p : Value} (h : pSec.M w F o [p]) (key : ByteArray) (ho : Word o.f0) (hk : Word key) :
    Calls Tryd.prog 58 #[p, .string key] w fun e w' => e = .returned (.bool (eqs o.f0 key)) ∧ w = w' := by
  obtain ⟨b, v, u, G, H, rfl, _, hb, _⟩ := pSec_open h
  have c0 := cell_of hb 0 rfl
  clear hb h
  go_enter Tryd.func58, Tryd.ntmps58
  go_wp2_with (go_at_call 70; refine (fold_word ho hk _).mono ?_; rintro e w' ⟨rfl, rfl⟩)
  go_ret
  exact ⟨rfl, rfl⟩
set_option maxHeartbeats 400000 in
theorem isSub_calls {w : World} {F : Nat → Prop} {o : S47} {p : Value} (h : pSub.M w F o [p]) (key : ByteArray) :
    Calls Tryd.prog 61 #[p, .string key] w fun e w' => e = .returned (.bool (eqs o.f0 key)) ∧ w = w' := by
  obtain ⟨b, v, G, rfl, _, hb, _⟩ := pSub_open h
  have c0 := cell_of hb 0 rfl
  clear hb h
  go_enter Tryd.func61, Tryd.ntmps61
  go_wp2
  go_ret
  exact ⟨rfl, rfl⟩
end Go.Proofs.YtbgimkjodpjnfaaDoor.Conf
