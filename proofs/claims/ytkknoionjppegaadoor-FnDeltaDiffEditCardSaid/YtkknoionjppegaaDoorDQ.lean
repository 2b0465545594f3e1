/- The steps of the search for a delta: what is written, and what it makes. -/
import Derived.Test.YtkknoionjppegaaDoorDP
namespace Go.Proofs.YtkknoionjppegaaDoor.Delta
open Go.RowKit Go.Proofs.YtkknoionjppegaaDoorW.PrintWords Go.Proofs.YtkknoionjppegaaDoorW.PrintLast Go.Proofs.YtkknoionjppegaaDoorW.PrintMore Go.Proofs.YtkknoionjppegaaDoor.PFnDeltaDiffRead

theorem R_rd {w : World} {base : Nat} {ok : Nat → Prop} {v : Value} {xs : List Int} (h : Kd.R (Kd.int .u8) 5 w base ok v xs) : ∃ A c, v = .slice A xs.length c ∧ xs.length ≤ c ∧ Rd w A xs.length xs ∧ ∀ a, A = some a → base ≤ a.block := by
  obtain ⟨A, c, rfl, hl, hC⟩ := Kd.R_reads h
  refine ⟨A, c, rfl, hl, hC, fun a ha => ?_⟩
  subst ha
  have h1 := (Kd.R_bound h).1
  rcases h.2 with ⟨inner, ho, _⟩
  rcases ho.2 with ⟨hv, _⟩ | ⟨g, cap, cur, hv, hg, _⟩
  · cases hv
  · cases hv
    exact hg
theorem init_any (A T0 : Addr) (n c ix : Nat) (xs : List Int) (w : World) (hix : w.heap[ix]? = some (.cells #[.slice none 0 0, .slice none 0 0, .int .i64 0] 45 (0, 0))) (hnc : n ≤ c) (hn2 : n ≤ 1000000) (hR : Rd w (some A) n xs) (hx : ∀ x ∈ xs, 0 ≤ x ∧ x < 256) (hT : Tab w T0) (hL : LTab w) (hA : A.block < w.heap.size) (hT0 : T0.block < w.heap.size) :
    Calls Tryd.prog 22 #[.pointer (some ⟨ix, 0, none⟩), .slice (some A) n c] w fun e w' => e = .returned (.tuple #[]) ∧ Keep w w' (fun k => k = ix) ∧ (16 ≤ n → ∃ tb ie sz mk C T IE, IdxAt w' ix tb ie sz mk C T IE ∧ w.heap.size ≤ tb ∧ w.heap.size ≤ ie) := by
  by_cases h : 16 ≤ n
  · refine (init_calls A T0 n c ix xs w hix h hnc hn2 hR hx hT hL hA hT0).mono ?_
    rintro e w' ⟨he, tb, ie, sz, mk, C, T, IE, h1, h2, h3, h4⟩
    exact ⟨he, h4, fun _ => ⟨tb, ie, sz, mk, C, T, IE, h1, h2, h3⟩⟩
  · refine (init_small A n c ix w hix (by omega)).mono ?_
    rintro e w' ⟨he, hk⟩
    exact ⟨he, hk, fun h' => absurd h' h⟩

/-- Where the rows lie. -/
def Rows2 (wb w' : World) (b1 r10 b2 r1 r2 : Nat) : Prop := (r1 = r10 ∨ wb.heap.size ≤ r1) ∧ (r2 = b2 ∨ wb.heap.size ≤ r2) ∧ Keep wb w' (fun k => k = b1 ∨ k = b2 ∨ k = r10)
theorem Rows2.step1 {wb w w' : World} {b1 r10 b2 r1 r2 r' : Nat} (h : Rows2 wb w b1 r10 b2 r1 r2) (hr : r' = r1 ∨ w.heap.size ≤ r') (k : Keep w w' (fun k => k = b1 ∨ k = r1)) : Rows2 wb w' b1 r10 b2 r' r2 := by
  obtain ⟨h1, h2, h3⟩ := h
  have := h3.size
  refine ⟨?_, h2, h3.trans k (fun j hj hk => ?_)⟩
  · rcases hr with rfl | hr
    · exact h1
    · exact .inr (by omega)
  · rcases hk with rfl | rfl
    · exact .inl rfl
    · rcases h1 with rfl | h1
      · exact .inr (.inr rfl)
      · omega
theorem Rows2.step2 {wb w w' : World} {b1 r10 b2 r1 r2 r' : Nat} (h : Rows2 wb w b1 r10 b2 r1 r2) (hr : r' = r2 ∨ w.heap.size ≤ r') (k : Keep w w' (fun k => k = b2 ∨ k = r2)) : Rows2 wb w' b1 r10 b2 r1 r' := by
  obtain ⟨h1, h2, h3⟩ := h
  have := h3.size
  refine ⟨h1, ?_, h3.trans k (fun j hj hk => ?_)⟩
  · rcases hr with rfl | hr
    · exact h2
    · exact .inr (by omega)
  · rcases hk with rfl | rfl
    · exact .inr (.inl rfl)
    · rcases h2 with rfl | h2
      · exact .inr (.inl rfl)
      · omega
theorem Rows2.below {wb w w' : World} {b1 r10 b2 r1 r2 : Nat} (h : Rows2 wb w b1 r10 b2 r1 r2) (k : Below w.heap.size w w') : Rows2 wb w' b1 r10 b2 r1 r2 :=
  ⟨h.1, h.2.1, h.2.2.trans (Keep.of_below k (fun _ => False)) (fun _ _ h => h.elim)⟩
theorem Two.below {w w' : World} {b1 r1 b2 r2 : Nat} {x y : List Int} (h : Two w b1 r1 b2 r2 x y) (k : Below w.heap.size w w') : Two w' b1 r1 b2 r2 x y :=
  ⟨h.B1.keep (Keep.of_below k (fun _ => False)) (fun h => h) (fun h => h), h.B2.keep (Keep.of_below k (fun _ => False)) (fun h => h) (fun h => h), h.n1, h.n2, h.n3, h.n4⟩

/-- The state of the search at place i. -/
def DiffAt (wb w' : World) (b1 r10 b2 : Nat) (H src tgt : List Int) (i : Nat) : Prop :=
  ∃ r1 r2 ops ib, Two w' b1 r1 b2 r2 (H ++ encs ops) ib ∧ Goods src ops ∧ makes src ops ++ ib = tgt.take i ∧ 127 * (encs ops).length ≤ 128 * (makes src ops).length ∧ Rows2 wb w' b1 r10 b2 r1 r2
/-- The state while t bytes of a copy of j bytes from oo on have been written. -/
def MidAt (wb w' : World) (b1 r10 b2 : Nat) (H src tgt : List Int) (i oo t : Nat) : Prop :=
  ∃ r1 r2 ops, Two w' b1 r1 b2 r2 (H ++ encs ops) [] ∧ Goods src ops ∧ makes src ops = tgt.take i ++ (src.drop oo).take t ∧ ((t = 0 ∧ 127 * (encs ops).length ≤ 128 * (makes src ops).length + 126) ∨ (0 < t ∧ 127 * (encs ops).length + 1016 ≤ 128 * (makes src ops).length)) ∧ Rows2 wb w' b1 r10 b2 r1 r2
section
variable {wb w : World} {b1 r10 b2 i oo t : Nat} {H src tgt : List Int}
theorem take_le (tgt : List Int) (i : Nat) : (tgt.take i).length ≤ tgt.length := by rw [List.length_take]; omega
/-- One byte more is kept for an insertion. -/
theorem DiffAt.push (h : DiffAt wb w b1 r10 b2 H src tgt i) (hi : i < tgt.length) (ht : tgt.length ≤ 1000000) :
    Calls Tryd.prog 24 #[.pointer (some ⟨b2, 0, none⟩), .int .u8 tgt[i]] w fun e w' => e = .returned .nilIface ∧ DiffAt wb w' b1 r10 b2 H src tgt (i + 1) := by
  obtain ⟨r1, r2, ops, ib, hT, hg, hm, hp, hr⟩ := h
  have hl : ib.length ≤ 1000000 := by
    have h1 := congrArg List.length hm
    rw [List.length_append] at h1
    have h2 := take_le tgt i
    omega
  refine (writeByte_calls b2 r2 ib _ w hT.B2 (by omega)).mono ?_
  rintro e w' ⟨he, r', hr', hB, hk⟩
  exact ⟨he, r1, r', ops, ib ++ [tgt[i]], (hT.swap.write1 hr' hB hk).swap, hg, by rw [← List.append_assoc, hm, List.take_succ_eq_append_getElem hi], hp, hr.step2 hr' hk⟩
theorem enc_small {ops : List Op} (hm : (makes src ops).length ≤ 3000000) (hp : 127 * (encs ops).length ≤ 128 * (makes src ops).length + 126) (hH : H.length ≤ 100) : (H ++ encs ops).length ≤ 10000000 := by
  rw [List.length_append]
  omega
/-- What is kept is written. -/
theorem DiffAt.flush (h : DiffAt wb w b1 r10 b2 H src tgt i) (ht : tgt.length ≤ 1000000) (hH : H.length ≤ 100) (hb : b2 < wb.heap.size) (oo : Nat) :
    Calls Tryd.prog 25 #[.pointer (some ⟨b2, 0, none⟩), .pointer (some ⟨b1, 0, none⟩)] w fun e w' => e = .returned (.tuple #[]) ∧ MidAt wb w' b1 r10 b2 H src tgt i oo 0 := by
  obtain ⟨r1, r2, ops, ib, hT, hg, hm, hp, hr⟩ := h
  have hl : (makes src ops).length + ib.length ≤ 1000000 := by
    have h1 := congrArg List.length hm
    rw [List.length_append] at h1
    have h2 := take_le tgt i
    omega
  refine (encodeInsert_calls b1 r1 b2 r2 _ ib w hT (enc_small (src := src) (by omega) (by omega) hH) (by omega)).mono ?_
  rintro e w' ⟨he, r', hr', hT', hk⟩
  obtain ⟨ops2, g2, e2, m2, n2⟩ := insBytes_ops src ib
  refine ⟨he, r', r2, ops ++ ops2, by rw [encs_append, ← e2, ← List.append_assoc]; exact hT', hg.append g2, by rw [makes_append, m2, hm]; simp, .inl ⟨rfl, ?_⟩, ?_⟩
  · rw [encs_append, makes_append, ← e2, m2, List.length_append, List.length_append]
    omega
  · obtain ⟨h1, h2, h3⟩ := hr
    have := h3.size
    refine ⟨?_, h2, h3.trans hk (fun j hj hk => ?_)⟩
    · rcases hr' with rfl | hr'
      · exact h1
      · exact .inr (by omega)
    · rcases hk with rfl | rfl | rfl
      · exact .inl rfl
      · rcases h1 with rfl | h1
        · exact .inr (.inr rfl)
        · omega
      · exact .inr (.inl rfl)
theorem MidAt.below {w' : World} (h : MidAt wb w b1 r10 b2 H src tgt i oo t) (k : Below w.heap.size w w') : MidAt wb w' b1 r10 b2 H src tgt i oo t := by
  obtain ⟨r1, r2, ops, h1, h2, h3, h4, h5⟩ := h
  exact ⟨r1, r2, ops, h1.below k, h2, h3, h4, h5.below k⟩
theorem take_take_drop (xs : List Int) (oo t n : Nat) : (xs.drop oo).take t ++ (xs.drop (oo + t)).take n = (xs.drop oo).take (t + n) := by
  rw [← List.drop_drop, List.take_add]
/-- A copy is written. -/
theorem MidAt.copy (h : MidAt wb w b1 r10 b2 H src tgt i oo t) (n c : Nat) (A : Option Addr) (hR : Rd w A (copyBytes (oo + t) n).length (copyBytes (oo + t) n)) (hA : ∀ a, A = some a → a.block ≠ b1) (hn : 1 ≤ n) (hn2 : n ≤ 65536) (hs : oo + t + n ≤ src.length) (ht : tgt.length ≤ 1000000) (hsl : src.length ≤ 1000000) (hH : H.length ≤ 100) (hbig : 65536 ≤ n ∨ 16 ≤ t + n) :
    Calls Tryd.prog 20 #[.pointer (some ⟨b1, 0, none⟩), .slice A (copyBytes (oo + t) n).length c] w fun e w' => e = .returned (.tuple #[.int .i64 ((copyBytes (oo + t) n).length : Nat), .nilIface]) ∧ ∃ r1 r2 ops, Two w' b1 r1 b2 r2 (H ++ encs ops) [] ∧ Goods src ops ∧ makes src ops = tgt.take i ++ (src.drop oo).take (t + n) ∧ 127 * (encs ops).length ≤ 128 * (makes src ops).length ∧ (65536 ≤ n → 127 * (encs ops).length + 1016 ≤ 128 * (makes src ops).length) ∧ Rows2 wb w' b1 r10 b2 r1 r2 := by
  obtain ⟨r1, r2, ops, hT, hg, hm, hp, hr⟩ := h
  have hl : (makes src ops).length ≤ 2000000 := by
    have h1 := congrArg List.length hm
    rw [List.length_append, List.length_take, List.length_take, List.length_drop] at h1
    omega
  have hc8 := copyBytes_len (oo + t) n
  have hsm := enc_small (H := H) (src := src) (ops := ops) (by omega) (by omega) hH
  refine (write_calls b1 r1 _ _ A _ c w hT.B1 hR hA (by omega)).mono ?_
  rintro e w' ⟨he, r', hr', hB, hk⟩
  have hml : ((src.drop (oo + t)).take n).length = n := by rw [List.length_take, List.length_drop]; omega
  have hE : encs (ops ++ [.copy (oo + t) n]) = encs ops ++ copyBytes (oo + t) n := by rw [encs_append]; simp [encs, Op.enc]
  have hM : makes src (ops ++ [.copy (oo + t) n]) = makes src ops ++ (src.drop (oo + t)).take n := by rw [makes_append]; simp [makes, Op.make]
  refine ⟨he, r', r2, ops ++ [.copy (oo + t) n], by rw [hE, ← List.append_assoc]; exact hT.write1 hr' hB hk, hg.append (fun op h => by rw [List.mem_singleton] at h; subst h; exact ⟨hn, hn2, hs⟩), by rw [hM, hm, List.append_assoc, take_take_drop], ?_, ?_, hr.step1 hr' hk⟩
  · rw [hE, hM, List.length_append, List.length_append, hml]
    omega
  · intro hb
    rw [hE, hM, List.length_append, List.length_append, hml]
    omega
end
end Go.Proofs.YtkknoionjppegaaDoor.Delta
