/- Options told as plain ones. -/
import Derived.Test.YtbgimkjodpjnfaaDoorConfJ
import Derived.Test.YtbgimkjodpjnfaaDoorSepB
import Derived.Deep.RegionHeld3
namespace Go.Proofs.YtbgimkjodpjnfaaDoor.Conf
open Go.RowKit Go.Proofs.YtbgimkjodpjnfaaDoorW.PrintWords Go.Proofs.YtbgimkjodpjnfaaDoorW.PrintMore Go.Proofs.YtbgimkjodpjnfaaDoor.Sep Go.Proofs.YtbgimkjodpjnfaaDoor.PFnConfSet

theorem info45 : (Tryd.prog.info? 45).map (fun i => (i.zero, i.size, i.bytes)) = some (some (.agg #[.string ⟨#[]⟩, .string ⟨#[]⟩]), 2, 32) := by kernel_rfl

theorem grown_new {wr w1 : World} {o : Obj} {row : Option Nat} (h1 : w1.os = wr.os) (h2 : w1.tape = wr.tape) (h3 : w1.output = wr.output) (h4 : (wr.alloc o).heap.size ≤ w1.heap.size) (h5 : ∀ k, k < (wr.alloc o).heap.size → some k ≠ row → w1.heap[k]? = (wr.alloc o).heap[k]?) : wr.grownBy w1 row :=
  ⟨h1, h2, h3, by rw [size_alloc] at h4; omega, fun k hk hn => (h5 k (by rw [size_alloc]; omega) hn).trans (Below.heap_alloc wr o k hk)⟩
theorem opt_keep {wr w1 : World} {b : Nat} {o : S45} {row : Option Nat} (hb : wr.heap[b]? = some (.cells #[.string o.f0, .string o.f1] 109 (0, 0))) (hg : wr.grownBy w1 row) (hne : some b ≠ row) : w1.cell? ⟨b, 0, none⟩ = some (.string o.f0) ∧ w1.cell? ⟨b, 1, none⟩ = some (.string o.f1) :=
  ⟨cell_of (grown_at hg hne hb) 0 rfl, cell_of (grown_at hg hne hb) 1 rfl⟩
theorem kd_own {d : Kd S45} {e base : Nat} {w : World} {ok : Nat → Prop} {v : Value} {xs : List S45} (h : d.R e w base ok v xs) : w.ownsRow base e d.sz v xs.length (Kd.R_own h).choose := (Kd.R_own h).choose_spec
theorem kd_ne {α : Type} {d : Kd α} {e base : Nat} {w : World} {ok : Nat → Prop} {v : Value} {xs : List α} (h : d.R e w base ok v xs) {g t : Nat} {cells : Array Value} (hb : w.heap[g]? = some (.cells cells t (0, 0))) (ht : e ≠ t) : some g ≠ v.ownBlock := Kd.R_ne h hb ht
set_option maxHeartbeats 2000000 in
set_option maxRecDepth 100000 in
theorem plainOptions_calls {w : World} {F : Nat → Prop} {os : List S45} {v : Value} (h : sOpts.M w F os [v]) (hn : os.length ≤ 8589934592) :
    Calls Tryd.prog 42 #[v] w fun e w' => ∃ v', e = .returned v' ∧ Kd.R k45 45 w' w.heap.size (fun _ => True) v' os ∧ Below w.heap.size w w' := by
  obtain ⟨A, c, rfl, hc, hm⟩ := Sd.row_shape h
  have HR := Aside0.mk h
  have HN := Aside0.mk hn
  clear h hc hm hn
  go_enter Tryd.func42, Tryd.ntmps42
  go_wp2
  go_loopg [3, 8] os.length (fun g s3 s8 wr => ∃ i : Nat, s8 = .int .i64 i ∧ Aside0 (i + g = os.length) ∧ Aside0 (Kd.R k45 45 wr w.heap.size (fun _ => True) s3 (os.take i)) ∧ Aside0 (Below w.heap.size w wr))
  case atStart => exact ⟨0, rfl, ⟨by omega⟩, ⟨Kd.R_nil _ _ _ _ _⟩, ⟨Below.refl _ _⟩⟩
  case round =>
    obtain ⟨i, rfl, HI, HO, HB⟩ := hrel
    cases gk with
    | zero =>
      obtain rfl : i = os.length := by have := HI.out; omega
      have hlt : decide (os.length < os.length) = false := by simp
      go_wp2
      go_ret
      exact ⟨_, rfl, by have := HO.out; rw [List.take_length] at this; exact this, HB.out⟩
    | succ g =>
      have hi2 : i < os.length := by have := HI.out; omega
      have hlt : decide (i < os.length) = true := by simp; omega
      have hl2 : os.length ≤ 8589934592 := HN.out
      obtain ⟨ad, u, Fi, rfl, hcell, hM⟩ := Sd.row_get (Sd.below _ HR.out HB.out) i _ (List.getElem?_eq_getElem hi2)
      obtain ⟨o, ho⟩ : ∃ o, o = os[i] := ⟨_, rfl⟩
      rw [← ho] at hM
      obtain ⟨b, rfl, _, hb⟩ := pOpt_open hM
      have hc0 := cell_of (v := .string o.f0) hb 0 rfl
      have hc1 := cell_of (v := .string o.f1) hb 1 rfl
      have hl : os.take (i + 1) = os.take i ++ [o] := by rw [take_snoc _ _ hi2, ho]
      have HL := Aside0.mk hl
      have HS : Aside0 (w.heap.size ≤ wr.heap.size) := ⟨HB.out.size⟩
      have HT : Aside0 ((os.take i).length ≤ os.length) := ⟨by rw [List.length_take]; omega⟩
      have HBk := Aside0.mk hb
      clear hM ho hl hb
      go_wp2_with fail
      go_region_held3 (fun w' => w'.cell? ⟨b, 0, none⟩ = some (.string o.f0) ∧ w'.cell? ⟨b, 1, none⟩ = some (.string o.f1)) (first | go_keep | (exact HK1.out)) ((refine kd_append_step k45 w.heap.size ?hw (.tmp 12) (.tmp 22) 28 45 (.agg #[.string ⟨#[]⟩, .string ⟨#[]⟩]) 32 ?ho Tryd.underlying28 info45 ?hz ?h0 ?h1 u3 (os.take i) o [.string o.f0, .string o.f1] wr.heap.size (fun _ => True) (fun _ => False) ?hs ?hx ?ag ?hp ?hok ?hfr ?aO ?aS ?aL ?_; (case hw => rfl); (case ho => rfl); (case hz => rfl); (case h0 => decide); (case h1 => omega); (case hp => exact k45_mkM _ _ _ o); (case hok => exact fun _ hk => hk.elim); (case hfr => exact fun _ _ => trivial); (case hs => rfl); (case hx => rfl); (case ag => exact heap_alloc_new wr _); (case aO => (with_reducible repeat (first | apply Kd.R_alloc | apply Kd.R_drewN | apply Kd.R_drew)); exact HO.out); (case aS => have := HS.out; simp; omega); (case aL => have := HT.out; have := HN.out; omega); intro v1 w1 hr1 hg1 ha1; have HR1 := Aside0.mk hr1; have HX1 := Aside0.mk (grown_new (wr := wr) (w1 := w1) (row := u3.ownBlock) (o := .cells #[.string o.f0, .string o.f1] 45) hg1.os hg1.tape hg1.output hg1.size hg1.block); have HK1 := Aside0.mk (opt_keep HBk.out HX1.out (kd_ne HO.out HBk.out (by decide))); clear hr1 hg1 ha1))
      go_wp2
      go_roundg g
      case measure => omega
      case rel => exact ⟨i + 1, by go_num, ⟨by have := HI.out; omega⟩, ⟨by rw [HL.out]; exact HR1.out⟩, ⟨HB.out.grown HX1.out HS.out (fun k hk => own_base (kd_own HO.out) k hk)⟩⟩
end Go.Proofs.YtbgimkjodpjnfaaDoor.Conf
