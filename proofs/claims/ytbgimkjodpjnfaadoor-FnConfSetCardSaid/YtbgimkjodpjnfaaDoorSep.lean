/- Readings of memory with disjoint footprints: pointers to structs, and slices of such pointers, each with the set of blocks that it may use; what a change elsewhere leaves as it was. No condition. -/
import Derived.Test.YtbgimkjodpjnfaaDoorPFnConfSetx0
namespace Go.Proofs.YtbgimkjodpjnfaaDoor.Sep
open Go.RowKit Go.Proofs.YtbgimkjodpjnfaaDoorW.PrintWords

/-- A kind of datum, with its footprint F: every block that the reading touches lies in F. -/
structure Sd (α : Type) where
  sz : Nat
  M : World → (Nat → Prop) → α → List Value → Prop
  len : ∀ {w F x cs}, M w F x cs → cs.length = sz
  one : ∀ {w F x cs}, M w F x cs → ∀ u ∈ cs, u.oneCell' = true
  mono : ∀ {w F F' x cs}, (∀ k, F k → F' k) → M w F x cs → M w F' x cs
  bound : ∀ {w : World} {F x cs}, M w F x cs → M w (fun k => F k ∧ k < w.heap.size) x cs
  move : ∀ {w w1 : World} {F x cs}, (∀ k, F k → w1.heap[k]? = w.heap[k]?) → M w F x cs → M w1 F x cs

theorem size_alloc (w : World) (o : Obj) : (w.alloc o).heap.size = w.heap.size + 1 := by simp
theorem blk_new2 (w : World) (o o' : Obj) : ((w.alloc o).alloc o').heap[w.heap.size + 1]? = some o' := by
  have := heap_alloc_new (w.alloc o) o'
  rwa [size_alloc] at this
namespace Sd
section
variable {α β : Type}
/-- Whatever changed outside F, or is new. -/
theorem step (d : Sd α) {w w1 : World} {F : Nat → Prop} {x : α} {cs : List Value} (h : d.M w F x cs) (hm : ∀ k, F k → k < w.heap.size → w1.heap[k]? = w.heap[k]?) : d.M w1 F x cs :=
  d.mono (fun _ hk => hk.1) (d.move (fun k hk => hm k hk.1 hk.2) (d.bound h))
theorem below (d : Sd α) {w w1 : World} {F : Nat → Prop} {x : α} {cs : List Value} (h : d.M w F x cs) (hb : Below w.heap.size w w1) : d.M w1 F x cs := d.step h (fun k _ hk => hb.block k hk)

def scalar (enc : α → Value) (h1 : ∀ x, (enc x).oneCell' = true) : Sd α where
  sz := 1
  M := fun _ _ x cs => cs = [enc x]
  len := fun h => by rw [h]; rfl
  one := fun h u hu => by
    rw [h] at hu
    rw [List.mem_singleton.1 hu]
    exact h1 _
  mono := fun _ h => h
  bound := fun h => h
  move := fun _ h => h
def str : Sd ByteArray := scalar Value.string (fun _ => rfl)
def con (v : Value) (h1 : v.oneCell' = true) : Sd Unit := scalar (fun _ => v) (fun _ => h1)
def pair (a : Sd α) (b : Sd β) : Sd (α × β) where
  sz := a.sz + b.sz
  M := fun w F x cs => ∃ F1 F2 : Nat → Prop, ∃ c0 c1, cs = c0 ++ c1 ∧ (∀ k, F1 k → F k) ∧ (∀ k, F2 k → F k) ∧ (∀ k, F1 k → F2 k → False) ∧ a.M w F1 x.1 c0 ∧ b.M w F2 x.2 c1
  len := by
    rintro w F x cs ⟨F1, F2, c0, c1, rfl, _, _, _, h0, h1⟩
    rw [List.length_append, a.len h0, b.len h1]
  one := by
    rintro w F x cs ⟨F1, F2, c0, c1, rfl, _, _, _, h0, h1⟩ u hu
    rcases List.mem_append.1 hu with hu | hu
    · exact a.one h0 u hu
    · exact b.one h1 u hu
  mono := by
    rintro w F F' x cs hF ⟨F1, F2, c0, c1, rfl, p, q, r, h0, h1⟩
    exact ⟨F1, F2, c0, c1, rfl, fun k hk => hF k (p k hk), fun k hk => hF k (q k hk), r, h0, h1⟩
  bound := by
    rintro w F x cs ⟨F1, F2, c0, c1, rfl, p, q, r, h0, h1⟩
    exact ⟨_, _, c0, c1, rfl, fun k hk => ⟨p k hk.1, hk.2⟩, fun k hk => ⟨q k hk.1, hk.2⟩, fun k hk hk' => r k hk.1 hk'.1, a.bound h0, b.bound h1⟩
  move := by
    rintro w w1 F x cs hm ⟨F1, F2, c0, c1, rfl, p, q, r, h0, h1⟩
    exact ⟨F1, F2, c0, c1, rfl, p, q, r, a.move (fun k hk => hm k (p k hk)) h0, b.move (fun k hk => hm k (q k hk)) h1⟩
def iso (d : Sd α) (f : β → α) : Sd β where
  sz := d.sz
  M := fun w F x cs => d.M w F (f x) cs
  len := d.len
  one := d.one
  mono := d.mono
  bound := d.bound
  move := d.move
/-- A pointer to a struct of type t in a block of its own. -/
def ptr (t : Nat) (d : Sd α) : Sd α where
  sz := 1
  M := fun w F x cs => ∃ b cells, cs = [.pointer (some ⟨b, 0, none⟩)] ∧ F b ∧ w.heap[b]? = some (.cells cells t (0, 0)) ∧ d.M w (fun k => F k ∧ k ≠ b) x cells.toList
  len := by
    rintro w F x cs ⟨b, cells, rfl, _⟩
    rfl
  one := by
    rintro w F x cs ⟨b, cells, rfl, _⟩ u hu
    rw [List.mem_singleton.1 hu]
    rfl
  mono := by
    rintro w F F' x cs hF ⟨b, cells, rfl, hb, hc, hd⟩
    exact ⟨b, cells, rfl, hF b hb, hc, d.mono (fun k hk => ⟨hF k hk.1, hk.2⟩) hd⟩
  bound := by
    rintro w F x cs ⟨b, cells, rfl, hb, hc, hd⟩
    exact ⟨b, cells, rfl, ⟨hb, (Array.getElem?_eq_some_iff.1 hc).1⟩, hc, d.mono (fun k hk => ⟨⟨hk.1.1, hk.2⟩, hk.1.2⟩) (d.bound hd)⟩
  move := by
    rintro w w1 F x cs hm ⟨b, cells, rfl, hb, hc, hd⟩
    exact ⟨b, cells, rfl, hb, (hm b hb).trans hc, d.move (fun k hk => hm k hk.1) hd⟩
/-- A slice of one-cell elements, their footprints apart. -/
def row (e : Nat) (d : Sd α) : Sd (List α) where
  sz := 1
  M := fun w F xs cs => ∃ v vs, ∃ Fs : Nat → Nat → Prop, cs = [v] ∧ w.ownsRow 0 e 1 v xs.length vs ∧ (∀ k, v.ownBlock = some k → F k) ∧ (∀ i k, Fs i k → F k ∧ v.ownBlock ≠ some k) ∧ (∀ i j k, i ≠ j → Fs i k → Fs j k → False) ∧ ∀ i x, xs[i]? = some x → ∃ u, vs[i]? = some u ∧ d.M w (Fs i) x [u]
  len := by
    rintro w F x cs ⟨v, vs, Fs, rfl, _⟩
    rfl
  one := by
    rintro w F x cs ⟨v, vs, Fs, rfl, ho, _⟩ u hu
    rw [List.mem_singleton.1 hu]
    obtain ⟨A, c, rfl⟩ := own_slice ho
    rfl
  mono := by
    rintro w F F' x cs hF ⟨v, vs, Fs, rfl, ho, h1, h2, h3, h4⟩
    exact ⟨v, vs, Fs, rfl, ho, fun k hk => hF k (h1 k hk), fun i k hk => ⟨hF k (h2 i k hk).1, (h2 i k hk).2⟩, h3, h4⟩
  bound := by
    rintro w F x cs ⟨v, vs, Fs, rfl, ho, h1, h2, h3, h4⟩
    refine ⟨v, vs, fun i k => Fs i k ∧ k < w.heap.size, rfl, ho, fun k hk => ⟨h1 k hk, own_lt ho k hk⟩, fun i k hk => ⟨⟨(h2 i k hk.1).1, hk.2⟩, (h2 i k hk.1).2⟩, fun i j k hij hi hj => h3 i j k hij hi.1 hj.1, fun i x hx => ?_⟩
    obtain ⟨u, hu, hM⟩ := h4 i x hx
    exact ⟨u, hu, d.bound hM⟩
  move := by
    rintro w w1 F x cs hm ⟨v, vs, Fs, rfl, ho, h1, h2, h3, h4⟩
    refine ⟨v, vs, Fs, rfl, own_move ho (fun k hk => hm k (h1 k hk)), h1, h2, h3, fun i x hx => ?_⟩
    obtain ⟨u, hu, hM⟩ := h4 i x hx
    exact ⟨u, hu, d.move (fun k hk => hm k (h2 i k hk).1) hM⟩
end
section
variable {α : Type} {d : Sd α} {e : Nat} {w : World} {F : Nat → Prop} {v : Value} {xs : List α}
theorem row_nil (d : Sd α) (e : Nat) (w : World) (F : Nat → Prop) : (row e d).M w F [] [.slice none 0 0] :=
  ⟨_, [], fun _ _ => False, rfl, own_nil _ _ _ _, fun k hk => by simp [Value.ownBlock] at hk, fun _ _ h => h.elim, fun _ _ _ _ h => h.elim, fun i x hx => by simp at hx⟩
theorem row_block (h : (row e d).M w F xs [v]) : ∀ k, v.ownBlock = some k → F k := by
  obtain ⟨v', vs, Fs, hv, _, h1, _⟩ := h
  obtain rfl : v = v' := by simpa using hv
  exact h1
/-- What the walk asks of a slice: its shape, its length's bound, its cells. -/
theorem row_shape (h : (row e d).M w F xs [v]) : ∃ A c, v = .slice A xs.length c ∧ xs.length ≤ c ∧ xs.length ≤ 9223372036854775807 := by
  obtain ⟨v', vs, Fs, hv, ho, _⟩ := h
  obtain rfl : v = v' := by simpa using hv
  rcases ho.2 with ⟨rfl, h0⟩ | ⟨g, cap, cur, rfl, _, _, h1, h2, _⟩
  · exact ⟨none, 0, by rw [h0], by omega, by omega⟩
  · exact ⟨_, cap, rfl, h1, by simp only [maxLen] at h2; omega⟩
/-- All elements, each with its footprint. -/
theorem row_parts {A : Option Addr} {n c : Nat} (h : (row e d).M w F xs [.slice A n c]) : ∃ Fs : Nat → Nat → Prop, (∀ i k, Fs i k → F k ∧ k < w.heap.size) ∧ (∀ i j k, i ≠ j → Fs i k → Fs j k → False) ∧
    ∀ i x, xs[i]? = some x → ∃ ad u, A = some ad ∧ w.cell? (ad.add i) = some u ∧ d.M w (Fs i) x [u] := by
  obtain ⟨v', vs, Fs, hv, ho, h1, h2, h3, h4⟩ := (row e d).bound h
  obtain rfl : Value.slice A n c = v' := by simpa using hv
  refine ⟨Fs, fun i k hk => (h2 i k hk).1, h3, fun i x hx => ?_⟩
  obtain ⟨u, hu, hM⟩ := h4 i x hx
  have hi : i < xs.length := (List.getElem?_eq_some_iff.1 hx).1
  obtain ⟨g, c', hf, _⟩ := ho.form (by omega)
  injection hf with hA _ _
  subst hA
  exact ⟨_, u, rfl, ho.cells (g := g) rfl i u hu, hM⟩
/-- Element i, where it is only read. -/
theorem row_get {A : Option Addr} {n c : Nat} (h : (row e d).M w F xs [.slice A n c]) (i : Nat) (x : α) (hx : xs[i]? = some x) : ∃ ad u Fi, A = some ad ∧ w.cell? (ad.add i) = some u ∧ d.M w Fi x [u] := by
  obtain ⟨v', vs, Fs, hv, ho, h1, h2, h3, h4⟩ := h
  obtain rfl : Value.slice A n c = v' := by simpa using hv
  obtain ⟨u, hu, hM⟩ := h4 i x hx
  have hi : i < xs.length := (List.getElem?_eq_some_iff.1 hx).1
  obtain ⟨g, c', hf, _⟩ := ho.form (by omega)
  injection hf with hA _ _
  subst hA
  exact ⟨_, u, _, rfl, ho.cells (g := g) rfl i u hu, hM⟩
/-- Element i: its cell, its reading, and what may be put in its place later. -/
theorem row_at (h : (row e d).M w F xs [v]) (i : Nat) (x : α) (hx : xs[i]? = some x) : ∃ g c u Fi, v = .slice (some ⟨g, 0, none⟩) xs.length c ∧ w.cell? ⟨g, i, none⟩ = some u ∧ d.M w Fi x [u] ∧ (∀ k, Fi k → F k ∧ k < w.heap.size) ∧
    (∀ (w' : World) (x' : α) (Fi' : Nat → Prop), (∀ k, k < w.heap.size → F k → ¬ Fi k → w'.heap[k]? = w.heap[k]?) → d.M w' Fi' x' [u] → (∀ k, Fi' k → Fi k ∨ w.heap.size ≤ k) →
      (row e d).M w' (fun k => F k ∨ w.heap.size ≤ k) (xs.set i x') [v]) := by
  obtain ⟨v', vs, Fs, hv, ho, h1, h2, h3, h4⟩ := h
  obtain rfl : v = v' := by simpa using hv
  obtain ⟨u, hu, hM⟩ := h4 i x hx
  have hi : i < xs.length := (List.getElem?_eq_some_iff.1 hx).1
  obtain ⟨g, c, rfl, _⟩ := ho.form (by omega)
  have hcell := ho.cells (g := g) rfl i u hu
  rw [add_plain] at hcell
  refine ⟨g, c, u, fun k => Fs i k ∧ k < w.heap.size, rfl, hcell, d.bound hM, fun k hk => ⟨(h2 i k hk.1).1, hk.2⟩, ?_⟩
  intro w' x' Fi' hkeep hM' hFi'
  have hglt := own_lt ho g rfl
  refine ⟨_, vs, fun j k => if j = i then Fi' k else Fs j k ∧ k < w.heap.size, rfl, ?_, fun k hk => .inl (h1 k hk), ?_, ?_, ?_⟩
  · rw [List.length_set]
    refine own_move ho (fun k hk => ?_)
    have hk' : g = k := by simpa [Value.ownBlock] using hk
    subst hk'
    exact hkeep g hglt (h1 g rfl) (fun hf => (h2 i g hf.1).2 rfl)
  · intro j k hk
    by_cases hj : j = i
    · rw [if_pos hj] at hk
      rcases hFi' k hk with hk | hk
      · exact ⟨.inl (h2 i k hk.1).1, (h2 i k hk.1).2⟩
      · refine ⟨.inr hk, fun he => ?_⟩
        have : g = k := by simpa [Value.ownBlock] using he
        omega
    · rw [if_neg hj] at hk
      exact ⟨.inl (h2 j k hk.1).1, (h2 j k hk.1).2⟩
  · intro j1 j2 k hne hk1 hk2
    by_cases e1 : j1 = i
    · have e2 : j2 ≠ i := fun h => hne (e1.trans h.symm)
      rw [if_pos e1] at hk1
      rw [if_neg e2] at hk2
      rcases hFi' k hk1 with hk | hk
      · exact h3 i j2 k (Ne.symm e2) hk.1 hk2.1
      · omega
    · rw [if_neg e1] at hk1
      by_cases e2 : j2 = i
      · rw [if_pos e2] at hk2
        rcases hFi' k hk2 with hk | hk
        · exact h3 i j1 k (Ne.symm e1) hk.1 hk1.1
        · omega
      · rw [if_neg e2] at hk2
        exact h3 j1 j2 k hne hk1.1 hk2.1
  · intro j y hy
    by_cases hj : j = i
    · subst hj
      rw [List.getElem?_set_self hi] at hy
      obtain rfl : x' = y := by simpa using hy
      exact ⟨u, hu, by simpa using hM'⟩
    · rw [List.getElem?_set_ne (Ne.symm hj)] at hy
      obtain ⟨uj, huj, hMj⟩ := h4 j y hy
      refine ⟨uj, huj, ?_⟩
      simp only [if_neg hj]
      exact d.move (fun k hk => hkeep k hk.2 (h2 j k hk.1).1 (fun hf => h3 i j k (Ne.symm hj) hf.1 hk.1)) (d.bound hMj)
/-- What an append leaves. -/
theorem row_snoc {w1 : World} {v1 : Value} {G : Nat → Prop} {x : α} {u : Value} {vs : List Value} {Fs : Nat → Nat → Prop} (ho : w.ownsRow 0 e 1 v xs.length vs) (h1 : ∀ k, v.ownBlock = some k → F k) (h2 : ∀ i k, Fs i k → F k ∧ v.ownBlock ≠ some k) (h3 : ∀ i j k, i ≠ j → Fs i k → Fs j k → False) (h4 : ∀ i x, xs[i]? = some x → ∃ u, vs[i]? = some u ∧ d.M w (Fs i) x [u])
    (hx : d.M w G x [u]) (hFG : ∀ k, F k → G k → False) (hown : w1.ownsRow 0 e 1 v1 (xs.length + 1) (vs ++ [u])) (hg : w.grownBy w1 v.ownBlock) (hat : v1.ownBlock = v.ownBlock ∨ ∃ b, v1.ownBlock = some b ∧ w.heap.size ≤ b) :
    (row e d).M w1 (fun k => F k ∨ G k ∨ w.heap.size ≤ k) (xs ++ [x]) [v1] := by
  have hl : vs.length = xs.length := by have := ho.1; omega
  have hv1 : ∀ k, v1.ownBlock = some k → v.ownBlock = some k ∨ w.heap.size ≤ k := by
    intro k hk
    rcases hat with hat | ⟨b, hb, hle⟩
    · exact .inl (hat ▸ hk)
    · rw [hb] at hk
      injection hk with hk
      exact .inr (by omega)
  refine ⟨v1, vs ++ [u], fun i k => if i < xs.length then Fs i k ∧ k < w.heap.size else i = xs.length ∧ G k ∧ k < w.heap.size, rfl, by rw [List.length_append]; exact hown, ?_, ?_, ?_, ?_⟩
  · intro k hk
    rcases hv1 k hk with h | h
    · exact .inl (h1 k h)
    · exact .inr (.inr h)
  · intro i k hk
    by_cases hi : i < xs.length
    · rw [if_pos hi] at hk
      refine ⟨.inl (h2 i k hk.1).1, fun he => ?_⟩
      rcases hv1 k he with h | h
      · exact (h2 i k hk.1).2 h
      · omega
    · rw [if_neg hi] at hk
      refine ⟨.inr (.inl hk.2.1), fun he => ?_⟩
      rcases hv1 k he with h | h
      · exact hFG k (h1 k h) hk.2.1
      · have := hk.2.2
        omega
  · intro i j k hij hi hj
    by_cases ci : i < xs.length
    · rw [if_pos ci] at hi
      by_cases cj : j < xs.length
      · rw [if_pos cj] at hj
        exact h3 i j k hij hi.1 hj.1
      · rw [if_neg cj] at hj
        exact hFG k (h2 i k hi.1).1 hj.2.1
    · rw [if_neg ci] at hi
      by_cases cj : j < xs.length
      · rw [if_pos cj] at hj
        exact hFG k (h2 j k hj.1).1 hi.2.1
      · rw [if_neg cj] at hj
        omega
  · intro i y hy
    by_cases hi : i < xs.length
    · rw [List.getElem?_append_left hi] at hy
      obtain ⟨u', hu', hM⟩ := h4 i y hy
      refine ⟨u', by rw [List.getElem?_append_left (by omega)]; exact hu', ?_⟩
      simp only [if_pos hi]
      exact d.move (fun k hk => hg.block k hk.2 (fun he => (h2 i k hk.1).2 he.symm)) (d.bound hM)
    · have hi' : i = xs.length := by
        have := (List.getElem?_eq_some_iff.1 hy).1
        rw [List.length_append, List.length_singleton] at this
        omega
      subst hi'
      rw [List.getElem?_append_right (Nat.le_refl _), Nat.sub_self] at hy
      obtain rfl : x = y := by simpa using hy
      refine ⟨u, by rw [List.getElem?_append_right (by omega), hl, Nat.sub_self]; rfl, ?_⟩
      simp only [if_neg hi]
      exact d.mono (fun k hk => ⟨trivial, hk⟩) (d.move (fun k hk => hg.block k hk.2 (fun he => hFG k (h1 k he.symm) hk.1)) (d.bound hx))
end
section
variable {P : Program} {ops : Array Oper} {rest : List Oper} {o : Oper} {a : Act} {Q : Exit → Act → World → Prop} {α : Type}
/-- append(v, p) on a row, in a walk; behind 'at_builtin'; the goal's world is 'W.alloc' of the variadic's box; the new element's footprint is G. -/
theorem row_append {d : Sd α} {W : World} (hgd : o.guard = none) (s x : Operand) (t e : TypeId) (z : Value) (bytes : Nat)
    (ho : o.op = .call { callee := .builtin .append, args := #[s, x], argTypes := #[t, t] })
    (ht : P.underlying t = some (.slice e)) (hinfo : (P.info? e).map (fun i => (i.zero, i.size, i.bytes)) = some (some z, 1, bytes)) (hz : z.cells.size = 1) (hb0 : 0 < bytes)
    (v : Value) (xs : List α) (y : α) (u : Value) (F G : Nat → Prop) (hs : a.eval s = v) (hx : a.eval x = .slice (some ⟨W.heap.size, 0, none⟩) 1 1) (hy : d.M W G y [u]) (hFG : ∀ k, F k → G k → False)
    (HO : (row e d).M W F xs [v]) (hl : (xs.length + 1) * bytes ≤ 140737488355328)
    (h : ∀ v1 w1, (row e d).M w1 (fun k => F k ∨ G k ∨ W.heap.size ≤ k) (xs ++ [y]) [v1] → W.grownBy w1 v.ownBlock → (v1.ownBlock = v.ownBlock ∨ ∃ b, v1.ownBlock = some b ∧ W.heap.size ≤ b) → (∃ g c, v1 = .slice (some ⟨g, 0, none⟩) (xs.length + 1) c ∧ w1.cell? ⟨g, xs.length, none⟩ = some u) → wpList P ops Q rest (a.put o.dst v1) w1) :
    wpList P ops Q (o :: rest) a (W.alloc (.cells #[u] e)) := by
  obtain ⟨v', vs, Fs, hv, hown, h1, h2, h3, h4⟩ := HO
  obtain rfl : v = v' := by simpa using hv
  refine print_append_cells (w0 := W) 0 hgd s x t e z 1 bytes ho ht hinfo hz (by omega) hb0 v xs.length vs [u] hs hx rfl (d.one hy) hown (Below.mono (Below.refl _ _) (Nat.le_refl _)) (Nat.zero_le _) hl ?_
  intro v1 w1 hown1 _ hg1 hat1
  refine h v1 w1 (row_snoc hown h1 h2 h3 h4 hy hFG hown1 hg1 hat1) hg1 hat1 ?_
  have hl0 : vs.length = xs.length := by have := hown.1; omega
  obtain ⟨g, c, rfl, _⟩ := hown1.form (by omega)
  have hcell := hown1.cells (g := g) rfl xs.length u (by rw [List.getElem?_append_right (by omega), hl0, Nat.sub_self]; rfl)
  rw [add_plain] at hcell
  exact ⟨g, c, rfl, hcell⟩
end
end Sd
end Go.Proofs.YtbgimkjodpjnfaaDoor.Sep
