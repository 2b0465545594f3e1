/- What DecodeIndex hands to Decode. -/
import Derived.Test.YtllikhbafaohgaaGreatDoorIW
namespace Go.Proofs.YtllikhbafaohgaaGreatDoor.Idx
open Go.RowKit Go.Proofs.YtllikhbafaohgaaGreatDoorW.PrintWords Go.Proofs.YtllikhbafaohgaaGreatDoorW.PrintLast Go.Proofs.YtllikhbafaohgaaGreatDoorW.PrintMore
set_option linter.unusedVariables false
set_option linter.unusedSimpArgs false

/-- The bytes of an index lie at A. -/
structure Src (w : World) (A : Addr) (n cap : Nat) (D : List Int) : Prop where
  len : D.length = n
  le : n ≤ cap
  small : n ≤ 1000000000
  byte : ∀ x ∈ D, 0 ≤ x ∧ x < 256
  cells : ∀ (j : Nat) (v : Value), (nums .u8 D)[j]? = some v → w.cell? (A.add j) = some v
  lt : A.block < w.heap.size
  l22 : 22 ≤ w.heap.size
def dcOf (w : World) (A : Addr) (n cap : Nat) (D : List Int) (h p t N : Nat) : DC := ⟨⟨w.heap.size + 1, p, p + 1, A, n, cap, D⟩, h, t, N⟩
def idxW (w : World) (A : Addr) (n cap : Nat) : World := (w.alloc (.cells (idxCells 0) 47)).alloc (.cells #[.slice (some A) n cap, .int .i64 0, .int .i64 (-1)] 78)
theorem idxW_below (w : World) (A : Addr) (n cap : Nat) : Below w.heap.size w (idxW w A n cap) := below_alloc (below_alloc (Below.refl _ _) _) _
theorem idxW_size (w : World) (A : Addr) (n cap : Nat) : (idxW w A n cap).heap.size = w.heap.size + 2 := by unfold idxW; rw [World.size_alloc, World.size_alloc]
theorem idxW_rdr (w : World) (A : Addr) (n cap : Nat) : (idxW w A n cap).heap[w.heap.size + 1]? = some (.cells #[.slice (some A) n cap, .int .i64 0, .int .i64 (-1)] 78 (0, 0)) := heap_new2 w _ _
theorem idxW_idx (w : World) (A : Addr) (n cap : Nat) : (idxW w A n cap).heap[w.heap.size]? = some (.cells (idxCells 0) 47 (0, 0)) := by
  unfold idxW
  exact (Below.heap_alloc _ _ _ (by rw [World.size_alloc]; omega)).trans (heap_alloc_new w _)
theorem ready_of {w w3 : World} {A : Addr} {n cap h p t q k : Nat} {D : List Int} {q7 : Addr} (S : Src w A n cap D) (he : w.cell? ⟨7, 0, none⟩ = some (.iface 179 (.pointer (some q7)))) (L : Laid (idxW w A n cap) w3 (w.heap.size + 1) h p t q k) :
    Ready w3 (dcOf w A n cap D h p t w3.heap.size) k w.heap.size q (.slice none 0 0) q7 ∧ Below w.heap.size w w3 := by
  obtain ⟨o1, o2, o3, o4⟩ := L.ord
  rw [idxW_size] at o1
  have hlt := S.lt
  have h22 := S.l22
  have e3 := lt_of_block L.dec
  have hb : Below w.heap.size w w3 := (idxW_below w A n cap).trans (L.below.mono (by rw [idxW_size]; omega))
  have hx : w3.heap[w.heap.size]? = some (.cells (idxCells 0) 47 (0, 0)) := (L.below.block _ (by rw [idxW_size]; omega)).trans (idxW_idx w A n cap)
  have hr : w3.heap[w.heap.size + 1]? = some (.cells #[.slice (some A) n cap, .int .i64 0, .int .i64 (-1)] 78 (0, 0)) := (L.below.block _ (by rw [idxW_size]; omega)).trans (idxW_rdr w A n cap)
  obtain ⟨Z, hZ1, hZ2⟩ := L.row
  have hh : HashAt w3 w3.heap.size h (.slice none 0 0) [] := ⟨L.hash, ⟨rfl, .inl ⟨rfl, none, rfl, (fun a h => by cases h)⟩⟩, by omega, Nat.le_refl _⟩
  refine ⟨⟨⟨⟨S.len, S.le, S.small, ?_, ?_, ?_, ?_, ?_, ?_, S.byte⟩, ?_, ?_, ?_, ?_, ?_, ?_, ?_, ?_, ?_, ?_, ?_, ?_, ?_, ?_, ?_, ?_, ?_, ?_⟩, ⟨⟨0, 0, 0, Z, ⟨-1, hr⟩, ⟨-1, -1, L.bio⟩, hZ2, hZ1, Nat.le_refl _, by omega, rfl, Nat.zero_le _, fun j v hj => by omega, fun j v hv => ?_⟩, (by rw [List.take_zero]; exact hh), L.tee⟩, L.dec, ⟨?_, ?_, ?_, ?_, ?_, ?_, fun h => by cases h⟩, hx, ⟨?_, ?_, ?_, ?_, ?_, ?_, fun h => by cases h⟩, ?_, ?_, ?_, ?_⟩, hb⟩
  all_goals (first | (dsimp only [dcOf]; omega) | omega | exact (hb.cell (show 7 < w.heap.size by omega)).trans he | exact (hb.cell (by rw [add_block]; exact hlt)).trans (S.cells j v hv))
end Go.Proofs.YtllikhbafaohgaaGreatDoor.Idx
