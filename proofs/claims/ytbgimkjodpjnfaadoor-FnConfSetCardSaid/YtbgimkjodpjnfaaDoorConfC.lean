/- The making of options out of plain ones. -/
import Derived.Test.YtbgimkjodpjnfaaDoorConfB
namespace Go.Proofs.YtbgimkjodpjnfaaDoor.Conf
open Go.RowKit Go.Proofs.YtbgimkjodpjnfaaDoorW.PrintWords Go.Proofs.YtbgimkjodpjnfaaDoor.Sep Go.Proofs.YtbgimkjodpjnfaaDoor.PFnConfSet

theorem info108 : (Tryd.prog.info? 108).map (fun i => (i.zero, i.size, i.bytes)) = some (some (.pointer none), 1, 8) := by kernel_rfl
theorem info71 : (Tryd.prog.info? 71).map (fun i => (i.zero, i.size, i.bytes)) = some (some (.pointer none), 1, 8) := by kernel_rfl
theorem info67 : (Tryd.prog.info? 67).map (fun i => (i.zero, i.size, i.bytes)) = some (some (.pointer none), 1, 8) := by kernel_rfl

set_option maxHeartbeats 1000000 in
set_option maxRecDepth 100000 in
theorem optionsOf_calls (A : Option Addr) (c : Nat) (l : List S45) (w : World) (hr : Kd.C k45 w A l.length l) (hn : l.length ≤ 4294967296) :
    Calls Tryd.prog 44 #[.slice A l.length c] w fun e w' => ∃ v, e = .returned v ∧ sOpts.M w' (fun k => w.heap.size ≤ k) l [v] ∧ Below w.heap.size w w' := by
  have HR := Aside0.mk hr
  have HN := Aside0.mk hn
  clear hr hn
  go_enter Tryd.func44, Tryd.ntmps44
  go_wp2
  go_loopg [3, 8] l.length (fun g s3 s8 wr => ∃ i : Nat, i + g = l.length ∧ s8 = .int .i64 i ∧ Aside0 (sOpts.M wr (fun k => w.heap.size ≤ k) (l.take i) [s3]) ∧ Aside0 (Below w.heap.size w wr))
  case atStart => exact ⟨0, by omega, rfl, ⟨Sd.row_nil _ _ _ _⟩, ⟨Below.refl _ _⟩⟩
  case round =>
    obtain ⟨i, hi, rfl, HO, HB⟩ := hrel
    cases gk with
    | zero =>
      have hlt : decide (l.length < l.length) = false := by simp
      obtain rfl : i = l.length := by omega
      clear hi
      go_wp2
      go_ret
      exact ⟨_, rfl, by have := HO.out; rw [List.take_length] at this; exact this, HB.out⟩
    | succ g =>
      have hlt : decide (i < l.length) = true := by simp; omega
      obtain ⟨ad, e, hx0, hx1⟩ := at_T45 HR.out i (by omega) (by omega)
      cases e
      replace hx0 := (HB.out.cell (World.block_lt_of_cell? w _ hx0)).trans hx0
      replace hx1 := (HB.out.cell (World.block_lt_of_cell? w _ hx1)).trans hx1
      simp only [Int.toNat_natCast] at hx0 hx1
      have HI := Aside0.mk hi
      have hi2 : i < l.length := by omega
      have hl2 : l.length ≤ 4294967296 := HN.out
      clear hi
      have HS : Aside0 (w.heap.size ≤ wr.heap.size) := ⟨HB.out.size⟩
      have HO0 : Aside0 (∀ k, u3.ownBlock = some k → w.heap.size ≤ k) := ⟨Sd.row_block HO.out⟩
      have HT : Aside0 ((l.take i).length = i) := ⟨by rw [List.length_take]; have := HI.out; omega⟩
      go_wp2_with (at_builtin; refine Sd.row_append (d := pOpt) rfl (.tmp 12) (.tmp 19) 81 108 (.pointer none) 8 rfl Tryd.underlying81 info108 rfl (by decide) u3 (l.take i) (rd_T45 l (i : Int)) (.pointer (some ⟨wr.heap.size + 1, 0, none⟩)) (fun k => w.heap.size ≤ k ∧ k < wr.heap.size) (fun k => k = wr.heap.size + 1) rfl (by first | (go_simp; done) | (go_simp; rfl)) ?ay ?ad ?ao ?al ?_; (case ay => exact pOpt_mk _ rfl (blk_new2 _ _ _)); (case ad => intro k h1 h2; omega); (case ao => exact Sd.below _ (sOpts.bound HO.out) (below_alloc (below_alloc (Below.refl _ _) _) _)); (case al => rw [HT.out]; have := HI.out; have := HN.out; omega); rintro v1 w1 hr1 hg1 - -; have HR1 := Aside0.mk hr1; have HG1 := Aside0.mk hg1; clear hr1 hg1)
      go_roundg g
      case measure => omega
      case rel =>
        refine ⟨i + 1, by have := HI.out; omega, by go_num, ⟨?_⟩, ⟨?_⟩⟩
        · have hi : i < l.length := by have := HI.out; omega
          have e : l.take (i + 1) = l.take i ++ [rd_T45 l (i : Int)] := by
            rw [List.take_succ_eq_append_getElem hi]
            simp [rd_T45, List.getD_eq_getElem?_getD, hi]
          rw [e]
          refine sOpts.mono (fun k hk => ?_) HR1.out
          have := HS.out
          simp only [size_alloc] at hk
          omega
        · refine Below.grown (below_alloc (below_alloc HB.out _) _) HG1.out (by have := HS.out; simp only [size_alloc]; omega) (fun k hk => ?_)
          exact HO0.out k hk
end Go.Proofs.YtbgimkjodpjnfaaDoor.Conf
