/- Appending inside a region that draws its order, whatever the world is written as. No condition. -/
import Derived.Test.YtbgimkjodpjnfaaDoorSep
namespace Go.Proofs.YtbgimkjodpjnfaaDoor.Sep
open Go.RowKit Go.Proofs.YtbgimkjodpjnfaaDoorW.PrintWords
section
variable {P : Program} {ops : Array Oper} {o : Oper} {a : Act} {Q : Exit → Act → World → Prop} {Kc : Act → World → Prop} {E : Prop} {α : Type}
theorem append_run {W : World} (base : Nat) (s x : Operand) (t e : TypeId) (z : Value) (size bytes : Nat)
    (ho : o.op = .call { callee := .builtin .append, args := #[s, x], argTypes := #[t, t] })
    (ht : P.underlying t = some (.slice e)) (hinfo : (P.info? e).map (fun i => (i.zero, i.size, i.bytes)) = some (some z, size, bytes)) (hz : z.cells.size = size) (hs0 : 0 < size) (hb0 : 0 < bytes)
    (v : Value) (n : Nat) (xs ys : List Value) (g : Nat) (hs : a.eval s = v) (hx : a.eval x = .slice (some ⟨g, 0, none⟩) 1 1) (hys : ys.length = size) (hg : W.heap[g]? = some (.cells ys.toArray e (0, 0))) (h1 : ∀ u ∈ ys, u.oneCell' = true)
    (HO : W.ownsRow base e size v n xs) (hbase : base ≤ W.heap.size) (hl : (n + 1) * bytes ≤ 140737488355328) :
    ∃ v1 w1, (execOp a.eval o).run P W = .ok (.value v1) w1 ∧ w1.ownsRow base e size v1 (n + 1) (xs ++ ys) ∧ W.grownBy w1 v.ownBlock ∧ (v1.ownBlock = v.ownBlock ∨ ∃ b, v1.ownBlock = some b ∧ W.heap.size ≤ b) := by
  obtain ⟨i0, hi, hzz⟩ := Option.map_eq_some_iff.1 hinfo
  simp only [Prod.mk.injEq] at hzz
  obtain ⟨hz0, hz1, hz2⟩ := hzz
  have hlen : n + 1 ≤ 140737488355328 := Nat.le_trans (Nat.le_mul_of_pos_right _ hb0) hl
  obtain ⟨v1, w1, hr, hown, hgr, _, hat⟩ := run_append_own_at (P := P) W base t o.type e i0 z size bytes ht hi hz0 hz1 hz2 hz hs0 v n xs HO ⟨g, 0, none⟩ 1 1 ys (by rw [hys]; simp)
    (by simpa using World.news_of_block (cs := ys.toArray) (t := e) (fr := (0, 0)) hg) h1 (by simp only [maxLen]; omega) hl hbase
  refine ⟨v1, w1, ?_, hown, hgr, ?_⟩
  · unfold execOp
    simp only [ho, resolve, invoke, builtin, Sem.run_bind, Sem.run_pure, Result.andThen_ok, List.map_toArray, List.map_cons, List.map_nil, hs, hx, hr]
  · rcases hat with hat | hat
    · exact .inl hat
    · exact .inr ⟨_, hat, Nat.le_refl _⟩
/-- For a Kd row, as one step of a region. -/
theorem kd_append_step (d : Kd α) {W : World} (base : Nat) (hw : Region.wanted o (yielded ops a.tmps) = true) (s x : Operand) (t e : TypeId) (z : Value) (bytes : Nat)
    (ho : o.op = .call { callee := .builtin .append, args := #[s, x], argTypes := #[t, t] })
    (ht : P.underlying t = some (.slice e)) (hinfo : (P.info? e).map (fun i => (i.zero, i.size, i.bytes)) = some (some z, d.sz, bytes)) (hz : z.cells.size = d.sz) (hs0 : 0 < d.sz) (hb0 : 0 < bytes)
    (v : Value) (xs : List α) (p : α) (cs : List Value) (g : Nat) (ok okp : Nat → Prop) (hs : a.eval s = v) (hx : a.eval x = .slice (some ⟨g, 0, none⟩) 1 1) (hg : W.heap[g]? = some (.cells cs.toArray e (0, 0))) (hp : d.M W base okp p cs) (hokp : ∀ k, okp k → ok k ∧ some k ≠ v.ownBlock) (hfresh : ∀ k, W.heap.size ≤ k → ok k)
    (HO : d.R e W base ok v xs) (hbase : base ≤ W.heap.size) (hl : (xs.length + 1) * bytes ≤ 140737488355328)
    (h : ∀ v1 w1, d.R e w1 base ok v1 (xs ++ [p]) → W.grownBy w1 v.ownBlock → (v1.ownBlock = v.ownBlock ∨ ∃ b, v1.ownBlock = some b ∧ W.heap.size ≤ b) → Kc (a.put o.dst v1) w1) :
    if Region.wanted o (yielded ops a.tmps) = true then Oper.wp P o a W Kc Q else E := by
  obtain ⟨h0, inner, hown, hr⟩ := HO
  obtain ⟨v1, w1, hrun, hown1, hg1, hat1⟩ := append_run (P := P) base s x t e z d.sz bytes ho ht hinfo hz hs0 hb0 v xs.length inner cs g hs hx (d.K_len (d.K_of_M hp)) hg (d.K_one (d.K_of_M hp)) hown hbase hl
  rw [if_pos hw]
  unfold Oper.wp
  rw [hrun]
  exact h v1 w1 (Kd.R_appended h0 hr hp hokp hfresh hown1 hg1 hat1) hg1 hat1
/-- For a row with footprints, as one step of a region. -/
theorem row_append_step {d : Sd α} {W : World} (hw : Region.wanted o (yielded ops a.tmps) = true) (s x : Operand) (t e : TypeId) (z : Value) (bytes : Nat)
    (ho : o.op = .call { callee := .builtin .append, args := #[s, x], argTypes := #[t, t] })
    (ht : P.underlying t = some (.slice e)) (hinfo : (P.info? e).map (fun i => (i.zero, i.size, i.bytes)) = some (some z, 1, bytes)) (hz : z.cells.size = 1) (hb0 : 0 < bytes)
    (v : Value) (xs : List α) (y : α) (u : Value) (g : Nat) (F G : Nat → Prop) (hs : a.eval s = v) (hx : a.eval x = .slice (some ⟨g, 0, none⟩) 1 1) (hg : W.heap[g]? = some (.cells #[u] e (0, 0))) (hy : d.M W G y [u]) (hFG : ∀ k, F k → G k → False)
    (HO : (Sd.row e d).M W F xs [v]) (hl : (xs.length + 1) * bytes ≤ 140737488355328)
    (h : ∀ v1 w1, (Sd.row e d).M w1 (fun k => F k ∨ G k ∨ W.heap.size ≤ k) (xs ++ [y]) [v1] → W.grownBy w1 v.ownBlock → (v1.ownBlock = v.ownBlock ∨ ∃ b, v1.ownBlock = some b ∧ W.heap.size ≤ b) → Kc (a.put o.dst v1) w1) :
    if Region.wanted o (yielded ops a.tmps) = true then Oper.wp P o a W Kc Q else E := by
  obtain ⟨v', vs, Fs, hv, hown, h1, h2, h3, h4⟩ := HO
  obtain rfl : v = v' := by simpa using hv
  obtain ⟨v1, w1, hrun, hown1, hg1, hat1⟩ := append_run (P := P) 0 s x t e z 1 bytes ho ht hinfo hz (by omega) hb0 v xs.length vs [u] g hs hx rfl hg (d.one hy) hown (Nat.zero_le _) hl
  rw [if_pos hw]
  unfold Oper.wp
  rw [hrun]
  exact h v1 w1 (Sd.row_snoc hown h1 h2 h3 h4 hy hFG hown1 hg1 hat1) hg1 hat1
end
end Go.Proofs.YtbgimkjodpjnfaaDoor.Sep
