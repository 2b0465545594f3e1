/- The law FnDeltaDiffEdit returns true at every input: the tied card, with no further condition. -/
import Derived.Test.YtkknoionjppegaaDoorEE
import Derived.Test.YtkknoionjppegaaDoorEF
import Derived.Test.YtkknoionjppegaaDoorCards
import Derived.Test.YtkknoionjppegaaDoorTie
import Derived.ProofKit
import Derived.OpenShut
import Derived.ShutString
import Derived.ChangeOld
import Derived.SizedLaws
import Derived.LaidMore
import Derived.Lay
import Derived.SevenTiedAt
import Derived.Stop.Joined
import Derived.OpenVars
namespace Go.Proofs.YtkknoionjppegaaDoor.fnDeltaDiffEdit
open Go.ChangeShapes Go.WideShapes Go.ChangeAt Go.RowKit
open Go.ChangeMaps (open_string shut_string)

theorem own : ownKnob Tryd.prog.godebug = none := by kernel_rfl
theorem laidOut : laidOutB Tryd.prog = true := by kernel_rfl

theorem trodVars_len {H : Type} {enc : TypeId × Value → H} {P : Program} {w : World} {spare : Nat → Bool} : ∀ (ns : List String) (gs : List (DataW H)) (q : List MemPlace), DataW.TrodVars enc P w spare ns gs q → gs.length = ns.length
  | [], [], _, _ => rfl
  | [], _ :: _, _, h => h.elim
  | _ :: _, [], _, h => h.elim
  | _ :: ns, _ :: gs, _, h => by
    obtain ⟨_, _, _, _, _, _, _, _, _, _, h, _⟩ := h
    simp [trodVars_len ns gs _ h]
set_option maxRecDepth 100000 in
theorem laid_edit {W : World} (h : laidMetH Tryd.prog Rows.fnDeltaDiffEditRow.laid W) : ∃ T0, Delta.Laid W T0 := by
  rw [MakeChecks.laidMetH_plain _ _ _ (by kernel_rfl)] at h
  obtain ⟨ps, hv, _, _⟩ := h
  obtain ⟨q1, v1⟩ := Delta.laid_rest hv
  have hL := Delta.laid_L v1 (by kernel_rfl) (by kernel_rfl)
  obtain ⟨q2, v2⟩ := Delta.laid_rest v1
  obtain ⟨T0, hT⟩ := Delta.laid_T v2 (by kernel_rfl) (by kernel_rfl)
  obtain ⟨q3, v3⟩ := Delta.laid_rest v2
  obtain ⟨q4, v4⟩ := Delta.laid_rest v3
  obtain ⟨q5, v5⟩ := Delta.laid_rest v4
  have hO : Delta.CTab W 3 4 0 := Delta.laid_P v5 (by omega) Delta.allO (by kernel_rfl) (by kernel_rfl)
  obtain ⟨q6, v6⟩ := Delta.laid_rest v5
  have hZ : Delta.CTab W 4 3 4 := Delta.laid_P v6 (by omega) Delta.allZ (by kernel_rfl) (by kernel_rfl)
  exact ⟨T0, hT, hL, hO, hZ⟩
theorem i64_wf {n : Int} (h : (Lit.int .i64 n).wf = true) : -9223372036854775808 ≤ n ∧ n ≤ 9223372036854775807 := by
  have hw : IntKind.i64.min ≤ n ∧ n ≤ IntKind.i64.max := by simpa [Lit.wf, IntKind.bits, IntKind.signed] using h
  rw [show IntKind.i64.min = -9223372036854775808 from by decide, show IntKind.i64.max = 9223372036854775807 from by decide] at hw
  exact hw
set_option maxRecDepth 100000 in
theorem lifted (os : Os) (started : os.Started) (H : Type) (enc : TypeId × Value → H) :
    ReturnsInHanded {} Tryd.checked os 3 .any (fun w args => (Rows.fnDeltaDiffEditSpec.pre enc Tryd.prog Tryd.f3 Rows.fnDeltaDiffEditRow.domain false w args ∧ laidMetH Tryd.prog Rows.fnDeltaDiffEditRow.laid w) ∧ sizedMet enc Tryd.prog Tryd.f3 (OpenSpec.ofChange Rows.fnDeltaDiffEditSpec) false w args)
      (Rows.fnDeltaDiffEditSpec.post enc Tryd.prog Tryd.f3 false true false false) := by
  refine returnsInHanded_of_change_and (C := Tryd.checked) (X := fun w _ => laidMetH Tryd.prog Rows.fnDeltaDiffEditRow.laid w) (fun _ _ _ hh h => h.of_heap hh) own started (by kernel_rfl) Tryd.func3
    (ChangeSpec.witness_shaped (enc := enc) (C := Tryd.checked) (os := os) (X := fun w _ => laidMetH Tryd.prog Rows.fnDeltaDiffEditRow.laid w) false (World.laidAll Tryd.prog os Rows.fnDeltaDiffEditRow.laid) #[.slice none 0 0, .slice none 0 0, .int .i64 0, .int .i64 0] 8 (World.laidAll_os _ _ _)
      (World.shaped_of_ZipB (by kernel_rfl) (by kernel_rfl)) (by kernel_rfl) (by kernel_rfl) (by kernel_rfl)
      (by rw [MakeChecks.laidMetH_plain _ _ _ (by kernel_rfl)]; exact laidMet_laidAll _ (by kernel_rfl) (by kernel_rfl))) ?_
  intro W base args ds gs before hval0 hW _ _ hL _
  have hval : ∀ (j : Nat) t v, Tryd.f3.params[j]? = some t → args[j]? = some v → Value.okWide Tryd.prog W .any base t v := hval0
  have hW' := hW
  obtain ⟨p, q, hA0, hV, rfl, hfz, hnd⟩ := hW
  have hA : DataW.TrodAll enc Tryd.prog W 0 (fun _ => true) true Tryd.f3.params.toList args.toList ds p := hA0
  rw [Tryd.params3] at hA hval
  obtain ⟨v0, vs0, d0, ds0, p0, q0, hargs, rfl, rfl, h0, r0⟩ := trodAll_cons hA
  obtain ⟨v1, vs1, d1, ds1, p1, q1, rfl, rfl, rfl, h1, r1⟩ := trodAll_cons r0
  obtain ⟨v2, vs2, d2, ds2, p2, q2, rfl, rfl, rfl, h2, r2⟩ := trodAll_cons r1
  obtain ⟨v3, vs3, d3, ds3, p3, q3, rfl, rfl, rfl, h3, r3⟩ := trodAll_cons r2
  obtain ⟨rfl, rfl, rfl⟩ := trodAll_nil r3
  obtain rfl : args = #[v0, v1, v2, v3] := by cases args; simp_all
  have hgl : gs.length = 7 := trodVars_len _ _ _ hV
  obtain ⟨g1, g2, g3, g4, g5, g6, g7, rfl⟩ : ∃ g1 g2 g3 g4 g5 g6 g7, gs = [g1, g2, g3, g4, g5, g6, g7] := by
    match gs, hgl with
    | [g1, g2, g3, g4, g5, g6, g7], _ => exact ⟨g1, g2, g3, g4, g5, g6, g7, rfl⟩
  have k0 := h0
  have k1 := h1
  have lt0 : ∀ x ∈ p0, x.block < W.heap.size := by obtain ⟨m, hm⟩ := k0; exact DataW.trod_lt m _ _ _ hm
  have lt1 : ∀ x ∈ p1, x.block < W.heap.size := by obtain ⟨m, hm⟩ := k1; exact DataW.trod_lt m _ _ _ hm
  obtain ⟨b0, n0, c0, rfl⟩ := okWide_slice Tryd.underlying22 (hval 0 22 v0 rfl rfl)
  obtain ⟨A0, m0, l0, e0, hl0, hC0, hb0⟩ := Delta.open_bytes h0 ⟨b0, n0, c0, rfl⟩
  obtain ⟨b1, n1, c1, rfl⟩ := okWide_slice Tryd.underlying22 (hval 1 22 v1 rfl rfl)
  obtain ⟨A1, m1, l1, e1, hl1, hC1, hb1⟩ := Delta.open_bytes h1 ⟨b1, n1, c1, rfl⟩
  obtain ⟨fr, rfl, rfl, rfl, hfr⟩ := open_int Tryd.underlying3 (hval 2 3 v2 rfl rfl) h2
  obtain ⟨sz, rfl, rfl, rfl, hsz⟩ := open_int Tryd.underlying3 (hval 3 3 v3 rfl rfl) h3
  rw [e0] at k0 ⊢
  rw [e1] at k1 ⊢
  obtain ⟨T0, hE⟩ := laid_edit hL
  clear hA0 hval0
  refine (Delta.edit_calls A0 A1 m0 m1 T0 l0 l1 fr sz W hC0 hC1 hl0 hl1 hb0 hb1 hE (i64_wf hfr) (i64_wf hsz)).mono fun e W' ⟨he, bel⟩ => ?_
  subst he
  rw [e0, e1] at hW'
  exact ⟨_, rfl, _, _, _, [], _, _, hW', trodAll_mk1 (shut_bool Tryd.underlying4 _),
    (trodAll_cons_mk (Below.trod laidOut (by kernel_rfl) (of_decide_eq_true (by kernel_rfl)) k0 bel lt0) (trodAll_cons_mk (Below.trod laidOut (by kernel_rfl) (of_decide_eq_true (by kernel_rfl)) k1 bel lt1) (trodAll_cons_mk (shut_int Tryd.underlying3 hfr) (trodAll_cons_mk (shut_int Tryd.underlying3 hsz) trodAll_mk0)))),
    Below.trodVars laidOut bel (by kernel_rfl) hV, bel.frame _, fun h => by cases h⟩

theorem said : Rows.FnDeltaDiffEditSaid :=
  OpenClaim.holds_of_wide 3 Tryd.f3 rfl rfl rfl rfl rfl rfl rfl ⟨rfl, rfl, rfl, rfl, rfl⟩ rfl rfl rfl rfl rfl (by kernel_rfl) Tryd.func3 (by kernel_rfl)
    (of_decide_eq_true (by kernel_rfl)) (by unfold Func.isWrapper; first | (rw [if_pos (by decide +kernel)]; kernel_rfl) | (rw [if_neg (by decide +kernel)]; exact ⟨rfl, rfl⟩))
    (fun os started H enc _ => lifted os started H enc)

/-- No parameter wants a stand-in; the program's own looks are as the card says. -/
theorem plain (f : FuncId) (fn : Func) (hf : Tryd.pinned.checked.prog.funcNamed "loop.example/pub-g01474/laws.FnDeltaDiffEdit" = some f) (hfn : Tryd.pinned.checked.prog.funcs[f]? = some fn) :
    false = Tryd.pinned.checked.prog.looks [] ∧ ∀ (j : Nat) t, fn.params[j]? = some t → Tryd.pinned.checked.prog.wantsStandIn t = false := by
  obtain rfl : f = 3 := Option.some.inj ((show Tryd.prog.funcNamed "loop.example/pub-g01474/laws.FnDeltaDiffEdit" = some 3 by kernel_rfl).symm.trans hf) |>.symm
  obtain rfl : fn = Tryd.f3 := (Option.some.inj (Tryd.func3.symm.trans hfn)).symm
  refine ⟨by kernel_rfl, fun j t ht => ?_⟩
  rw [Tryd.params3] at ht
  have hm : t ∈ [22, 22, 3, 3] := by
    have := Array.mem_of_getElem? ht
    simpa using this
  have hall : ([22, 22, 3, 3].all fun u => !Tryd.prog.wantsStandIn u) = true := by kernel_rfl
  exact (show Tryd.prog.wantsStandIn t = false by simpa using List.all_eq_true.1 hall t hm)

theorem card : Rows.FnDeltaDiffEditCardSaid :=
  Claim7.holds_tied_plain_at .later [] _ _ _ _ said (fun _ h => by cases h) (by kernel_rfl) (fun _ h => by cases h) fnDeltaDiffEdit_row_tie rfl ⟨rfl, rfl⟩ (by kernel_rfl) rfl plain (by kernel_rfl)
#print axioms card
end Go.Proofs.YtkknoionjppegaaDoor.fnDeltaDiffEdit
