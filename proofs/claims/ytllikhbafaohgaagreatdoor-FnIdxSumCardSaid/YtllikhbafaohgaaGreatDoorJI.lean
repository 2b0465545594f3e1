/- DecodeIndex, of what lies in memory. -/
import Derived.Test.YtllikhbafaohgaaGreatDoorJH
import Derived.Test.YtllikhbafaohgaaGreatDoorIT
namespace Go.Proofs.YtllikhbafaohgaaGreatDoor.Idx
open Go.RowKit Go.Proofs.YtllikhbafaohgaaGreatDoorW.PrintWords Go.Proofs.YtllikhbafaohgaaGreatDoorW.PrintLast Go.Proofs.YtllikhbafaohgaaGreatDoorW.PrintMore
set_option linter.unusedVariables false
set_option linter.unusedSimpArgs false

/-- The four errors that the package's variables hold. -/
structure Errs (w : World) (a0 a1 a2 a7 : Addr) : Prop where
  c0 : w.cell? ⟨0, 0, none⟩ = some (.iface 179 (.pointer (some a0)))
  c1 : w.cell? ⟨1, 0, none⟩ = some (.iface 179 (.pointer (some a1)))
  c2 : w.cell? ⟨2, 0, none⟩ = some (.iface 179 (.pointer (some a2)))
  c7 : w.cell? ⟨7, 0, none⟩ = some (.iface 179 (.pointer (some a7)))
  b0 : ∃ c t, w.heap[a0.block]? = some (.cells c t (0, 0))
  b1 : ∃ c t, w.heap[a1.block]? = some (.cells c t (0, 0))
  b2 : ∃ c t, w.heap[a2.block]? = some (.cells c t (0, 0))
  l22 : 22 ≤ w.heap.size
theorem Errs.keep {w w' : World} {a0 a1 a2 a7 : Addr} (h : Errs w a0 a1 a2 a7) {B : Nat} {F : Nat → Prop} (k : Keep w w' F) (hF : ∀ j, F j → B ≤ j) (hB : 22 ≤ B) (h0 : a0.block < B) (h1 : a1.block < B) (h2 : a2.block < B) : Errs w' a0 a1 a2 a7 := by
  have hn : ∀ j, j < B → ¬ F j := fun j hj hf => by have := hF j hf; omega
  exact ⟨k.cell h.c0 (hn 0 (by omega)), k.cell h.c1 (hn 1 (by omega)), k.cell h.c2 (hn 2 (by omega)), k.cell h.c7 (hn 7 (by omega)), h.b0.imp fun _ h => h.imp fun _ h => (k.block _ (lt_of_block h) (hn _ h0)).trans h, h.b1.imp fun _ h => h.imp fun _ h => (k.block _ (lt_of_block h) (hn _ h1)).trans h, h.b2.imp fun _ h => h.imp fun _ h => (k.block _ (lt_of_block h) (hn _ h2)).trans h, Nat.le_trans h.l22 k.size⟩
theorem fr_low {w w3 : World} {A : Addr} {n cap h p t q k N : Nat} {D : List Int} (L : Laid (idxW w A n cap) w3 (w.heap.size + 1) h p t q k) : ∀ j, (Fr0 (dcOf w A n cap D h p t N) (.slice none 0 0) j ∨ j = k ∨ j = w.heap.size) → w.heap.size ≤ j := by
  intro j hj
  obtain ⟨o1, o2, o3, o4⟩ := L.ord
  rw [idxW_size] at o1
  rcases hj with ((h | h | h) | h | h) | h | h
  · have : j = p := h
    omega
  · have : j = p + 1 := h
    omega
  · have : j = w.heap.size + 1 := h
    omega
  · have : j = _ := h
    dsimp only [dcOf] at this
    omega
  · cases h
  · omega
  · omega
theorem decodeIndex_fine {w : World} {A a0 a1 a2 a7 : Addr} {n cap cnt : Nat} {pos len : Nat → Nat} {D : List Int} (S : Src w A n cap D) (E : Errs w a0 a1 a2 a7) (hD : D.take 4 = [68, 73, 82, 67]) (hv : bigOf ((D.drop 4).take 4) % 4294967296 = 2) (hc : bigOf ((D.drop 8).take 4) % 4294967296 = (cnt : Int)) (hcnt : cnt ≤ 1000) (hL : Lay D n cnt pos len) (h0 : pos 0 = 12) (hend : pos cnt + 20 = n) (hS : (D.drop (pos cnt)).take 20 = sha1Of (D.take (pos cnt))) :
    Calls Tryz.prog 8 #[.slice (some A) n cap] w fun e w' => (∃ u v, e = .returned (.tuple #[u, v, .int .i64 0])) ∧ Below w.heap.size w w' := by
  refine decodeIndex_good E.l22 fun w3 h p t q k L => ?_
  obtain ⟨R, hb⟩ := ready_of S E.c7 L
  refine (decode_good R hD hv hc hcnt hL h0 hend hS).mono fun e w' ⟨h1, ⟨M, ev, ps, h2, h3, _⟩, h4⟩ => ⟨h1, ⟨M, ev, ps, h2, by omega⟩, below_keep hb h4 (fr_low L)⟩
theorem decodeIndex_head {w : World} {A a0 a1 a2 a7 : Addr} {n cap : Nat} {D : List Int} (S : Src w A n cap D) (E : Errs w a0 a1 a2 a7) (hn : 8 ≤ n) (hD : D.take 4 ≠ [68, 73, 82, 67]) :
    Calls Tryz.prog 8 #[.slice (some A) n cap] w fun e w' => ∃ r : Int, 0 < r ∧ e = .returned (.tuple #[.int .u32 0, .slice none 0 0, .int .i64 r]) ∧ Below w.heap.size w w' := by
  refine decodeIndex_bad (a := a0) (a0 := a0) (a1 := a1) (a2 := a2) E.l22 ⟨E.c0, E.c1, E.c2, E.b0, E.b0, E.b1, E.b2⟩ fun w3 h p t q k L => ?_
  obtain ⟨R, hb⟩ := ready_of S E.c7 L
  have h22 := E.l22
  refine (decode_head R hn hD ((hb.cell (show 0 < w.heap.size by omega)).trans E.c0) ⟨_, _, rfl⟩).mono fun e w' ⟨h1, h4⟩ => ⟨h1, below_keep hb h4 (fr_low L)⟩
theorem decodeIndex_sum {w : World} {A a0 a1 a2 a7 : Addr} {n cap cnt : Nat} {pos len : Nat → Nat} {D : List Int} (S : Src w A n cap D) (E : Errs w a0 a1 a2 a7) (hD : D.take 4 = [68, 73, 82, 67]) (hv : bigOf ((D.drop 4).take 4) % 4294967296 = 2) (hc : bigOf ((D.drop 8).take 4) % 4294967296 = (cnt : Int)) (hcnt : cnt ≤ 1000) (hL : Lay D n cnt pos len) (h0 : pos 0 = 12) (hend : pos cnt + 20 = n) (hS : (D.drop (pos cnt)).take 20 ≠ sha1Of (D.take (pos cnt))) :
    Calls Tryz.prog 8 #[.slice (some A) n cap] w fun e w' => ∃ r : Int, 0 < r ∧ e = .returned (.tuple #[.int .u32 0, .slice none 0 0, .int .i64 r]) ∧ Below w.heap.size w w' := by
  refine decodeIndex_bad (a := a2) (a0 := a0) (a1 := a1) (a2 := a2) E.l22 ⟨E.c0, E.c1, E.c2, E.b2, E.b0, E.b1, E.b2⟩ fun w3 h p t q k L => ?_
  obtain ⟨R, hb⟩ := ready_of S E.c7 L
  have h22 := E.l22
  refine (decode_sum R hD hv hc hcnt hL h0 hend hS ((hb.cell (show 2 < w.heap.size by omega)).trans E.c2)).mono fun e w' ⟨h1, h4⟩ => ⟨h1, below_keep hb h4 (fr_low L)⟩
end Go.Proofs.YtllikhbafaohgaaGreatDoor.Idx
