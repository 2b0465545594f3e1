/- The lines of a text of one packet line. -/
import Derived.Test.YtbgimkjodpjnfaaDoorProtoG
namespace Go.Proofs.YtbgimkjodpjnfaaDoor.Proto
open Go.RowKit Go.Proofs.YtbgimkjodpjnfaaDoorW.PrintWords Go.Proofs.YtbgimkjodpjnfaaDoorW.PrintLast Go.Proofs.YtbgimkjodpjnfaaDoorW.PrintMore Go.Proofs.YtbgimkjodpjnfaaDoor.PFnProtoFirstRead

/-- The two errors of package io that are met, and that they are two. -/
structure Errs (w : World) (a1 a2 : Addr) : Prop where
  e1 : w.cell? ⟨1, 0, none⟩ = some (.iface 170 (.pointer (some a1)))
  e2 : w.cell? ⟨2, 0, none⟩ = some (.iface 170 (.pointer (some a2)))
  b1 : ∃ c t, w.heap[a1.block]? = some (.cells c t (0, 0))
  b2 : ∃ c t, w.heap[a2.block]? = some (.cells c t (0, 0))
  ne : a1 ≠ a2
theorem lt_of_block {w : World} {k : Nat} {x : Obj} (h : w.heap[k]? = some x) : k < w.heap.size := (Array.getElem?_eq_some_iff.1 h).1
theorem Errs.below {w w' : World} {a1 a2 : Addr} (h : Errs w a1 a2) (hb : Below w.heap.size w w') : Errs w' a1 a2 := by
  obtain ⟨c1, t1, h1⟩ := h.b1
  obtain ⟨c2, t2, h2⟩ := h.b2
  exact ⟨(hb.cell (World.block_lt_of_cell? w _ h.e1)).trans h.e1, (hb.cell (World.block_lt_of_cell? w _ h.e2)).trans h.e2, ⟨c1, t1, (hb.block _ (lt_of_block h1)).trans h1⟩, ⟨c2, t2, (hb.block _ (lt_of_block h2)).trans h2⟩, h.ne⟩
theorem Errs.apart {w : World} {a1 a2 : Addr} (h : Errs w a1 a2) : NeErr w (.iface 170 (.pointer (some a1))) (.iface 170 (.pointer (some a2))) := by
  obtain ⟨c1, t1, h1⟩ := h.b1
  obtain ⟨c2, t2, h2⟩ := h.b2
  exact err_other h.ne h1 h2
theorem below_keep {w w1 w2 : World} {F : Nat → Prop} (h : Below w.heap.size w w1) (k : Keep w1 w2 F) (hF : ∀ j, F j → w.heap.size ≤ j) : Below w.heap.size w w2 :=
  ⟨k.os.trans h.os, k.tape.trans h.tape, k.output.trans h.output, Nat.le_trans h.size k.size, fun j hj => (k.block j (Nat.lt_of_lt_of_le hj h.size) (fun hf => by have := hF j hf; omega)).trans (h.block j hj)⟩

set_option maxHeartbeats 1000000 in
set_option maxRecDepth 100000 in
theorem newReader_calls (A : Addr) (n c : Nat) (w : World) : Calls Tryd.prog 30 #[.slice (some A) n c] w fun e w' => e = .returned (.pointer (some ⟨w.heap.size, 0, none⟩)) ∧ w' = w.alloc (.cells #[.slice (some A) n c, .int .i64 0, .int .i64 (-1)] 104) := by
  go_enter Tryd.func30, Tryd.ntmps30
  go_wp2_with fail
  go_ret
  exact ⟨rfl, rfl⟩
theorem info36' : (Tryd.prog.info? 36).map (fun i => (i.zero, i.size, i.bytes)) = some (some (.slice none 0 0), 1, 24) := by kernel_rfl
theorem heap_new2 (w : World) (o1 o2 : Obj) : ((w.alloc o1).alloc o2).heap[w.heap.size + 1]? = some o2 := by
  have := heap_alloc_new (w.alloc o1) o2
  rwa [show (w.alloc o1).heap.size = w.heap.size + 1 from by show (w.heap.push o1).size = _; simp] at this
theorem two_C {w : World} {pb t : Nat} {fr : Nat × Nat} (h : w.heap[pb]? = some (.cells (vals [97, 10]).toArray t fr)) : Kd.C (Kd.int .u8) w (some ⟨pb, 0, none⟩) 2 [97, 10] := bytes_C (l := [97, 10]) h 2 (by simp) (by simp)
theorem empty_R {base : Nat} (w : World) (hb : base ≤ w.heap.size) : (Kd.int .u8).R 5 (w.alloc (.cells #[] 5)) base (fun k => w.heap.size ≤ k) (.slice (some ⟨w.heap.size, 0, none⟩) 0 0) [] :=
  Kd.R_of_own (World.ownsRow_made w #[] 0 hb (by decide) rfl) (fun k hk => by
    have : k = w.heap.size := by simpa [Value.ownBlock] using hk.symm
    omega)
theorem size_le_alloc (w : World) (o : Obj) : w.heap.size ≤ (w.alloc o).heap.size := by show w.heap.size ≤ (w.heap.push o).size; simp
theorem grown_old {w w' : World} {row : Option Nat} {k : Nat} {x : Obj} (h : w.grownBy w' row) (hk : w.heap[k]? = some x) (hr : some k ≠ row) : w'.heap[k]? = some x := (h.block k (lt_of_block hk) hr).trans hk
theorem lines_mid {w w3 w5 : World} {q g n cap i : Nat} {A : Addr} {pr : Int} {ev pv v5 : Value} {y0 y1 y2 y3 : Int} (hs3 : Scn w3 q g ev pv y0 y1 y2 y3) (hr3 : Rdr w3 g A n cap i pr) (hr5 : (Kd.int .u8).R 5 w5 w.heap.size (fun k => w3.heap.size ≤ k) v5 ([] ++ [97, 10])) (hg5 : (w3.alloc (.cells #[] 5)).grownBy w5 (Value.slice (some ⟨w3.heap.size, 0, none⟩) 0 0).ownBlock) :
    ∃ A5 c5, v5 = .slice A5 2 c5 ∧ Scn w5 q g ev pv y0 y1 y2 y3 ∧ Rdr w5 g A n cap i pr ∧ (Kd.slice 5 (Kd.int .u8)).M w5 w.heap.size (fun k => w3.heap.size ≤ k) [97, 10] [v5] ∧ ∀ k, w5.heap.size ≤ k → k ≠ q ∧ k ≠ g := by
  obtain ⟨A5, c5, he5⟩ := Kd.R_slice hr5
  have hq := lt_of_block hs3
  have hg := lt_of_block hr3
  have hs5 : Scn w5 q g ev pv y0 y1 y2 y3 := grown_old hg5 (alloc_old hs3 _) (by simp [Value.ownBlock]; omega)
  have hr5' : Rdr w5 g A n cap i pr := grown_old hg5 (alloc_old hr3 _) (by simp [Value.ownBlock]; omega)
  exact ⟨A5, c5, he5, hs5, hr5', ⟨_, rfl, hr5⟩, fun k hk => ⟨by have := lt_of_block hs5; omega, by have := lt_of_block hr5'; omega⟩⟩
def aLine : List UInt8 := [48, 48, 48, 54, 97, 10]

set_option maxHeartbeats 8000000 in
set_option maxRecDepth 100000 in
theorem readLines_calls {w : World} {X : Nat} {fr : Nat × Nat} {a1 a2 : Addr} (hX : w.heap[X]? = some (.cells (vals aLine).toArray 5 fr)) (hE : Errs w a1 a2) :
    Calls Tryd.prog 28 #[.slice (some ⟨X, 0, none⟩) 6 6] w fun e w' => ∃ v, e = .returned (.tuple #[v, .bool true]) ∧ Kd.R (Kd.slice 5 (Kd.int .u8)) 36 w' w.heap.size (fun _ => True) v [[97, 10]] ∧ Below w.heap.size w w' := by
  have HX := Aside0.mk hX
  have HE := Aside0.mk hE
  clear hX hE
  go_enter Tryd.func28, Tryd.ntmps28
  go_wp2_with (first
    | (go_at_call 30; refine (newReader_calls _ _ _ _).mono ?_; rintro e w1 ⟨rfl, hw1⟩; subst hw1)
    | (go_at_call 47; refine (newScanner_calls _ _).mono ?_; rintro e w2 ⟨rfl, hw2⟩; subst hw2))
  obtain ⟨W2, hW2⟩ : ∃ W2, W2 = (w.alloc (.cells #[.slice (some ⟨X, 0, none⟩) 6 6, .int .i64 0, .int .i64 (-1)] 104)).alloc (.cells #[.iface 62 (.pointer (some ⟨w.heap.size, 0, none⟩)), .nilIface, .slice none 0 0, .int .u8 0, .int .u8 0, .int .u8 0, .int .u8 0] 113) := ⟨_, rfl⟩
  rw [← hW2]
  obtain ⟨q, hq⟩ : ∃ q, q = w.heap.size + 1 := ⟨_, rfl⟩
  obtain ⟨g, hg⟩ : ∃ g, g = w.heap.size := ⟨_, rfl⟩
  have HB2 : Aside0 (Below w.heap.size w W2) := ⟨by rw [hW2]; exact below_alloc (below_alloc (Below.refl _ _) _) _⟩
  have HR2 : Aside0 (Rdr W2 g ⟨X, 0, none⟩ 6 6 0 (-1)) := ⟨by rw [hW2, hg]; exact alloc_old (heap_alloc_new w _) _⟩
  have HS2 : Aside0 (Scn W2 q g .nilIface (.slice none 0 0) 0 0 0 0) := ⟨by rw [hW2, hq, hg]; exact heap_new2 w _ _⟩
  have hXl : X < w.heap.size := lt_of_block HX.out
  have h1l : 1 < w.heap.size := World.block_lt_of_cell? w _ HE.out.e1
  have h2l : 2 < w.heap.size := World.block_lt_of_cell? w _ HE.out.e2
  have HN : Aside0 (q ≠ g ∧ X ≠ q ∧ X ≠ g ∧ 1 ≠ g ∧ 1 ≠ q ∧ w.heap.size ≤ g ∧ w.heap.size ≤ q ∧ q < W2.heap.size ∧ g < W2.heap.size) := ⟨by
    refine ⟨by omega, by omega, by omega, by omega, by omega, by omega, by omega, lt_of_block HS2.out, lt_of_block HR2.out⟩⟩
  rw [← hq, ← hg]
  have HX2 : Aside0 (W2.heap[X]? = some (.cells (vals aLine).toArray 5 fr)) := ⟨(HB2.out.block X hXl).trans HX.out⟩
  have HE2 : Aside0 (Errs W2 a1 a2) := ⟨HE.out.below HB2.out⟩
  clear hW2 hq hg hXl h1l h2l
  have hcell : ∀ (j : Nat) (v : Value), (vals aLine)[j]? = some v → W2.cell? ((⟨X, 0, none⟩ : Addr).add j) = some v := fun j v hv => by
    have e : (⟨X, 0, none⟩ : Addr).add j = ⟨X, j, none⟩ := by unfold Addr.add; split <;> simp_all
    rw [e]; exact cell_of HX2.out j (by simpa using hv)
  have HC := Aside0.mk (scan_some (w := W2) (g := g) (A := ⟨X, 0, none⟩) (n := 6) (cap := 6) (i := 0) (pr := -1) (q := q) (x0 := 0) (x1 := 0) (x2 := 0) (x3 := 0) (b0 := 48) (b1 := 48) (b2 := 48) (b3 := 54) (d0 := 0) (d1 := 0) (d2 := 0) (d3 := 6) (te := 170) (a1 := a1) [97, 10]
    ⟨HR2.out, HS2.out, HN.out.1, HN.out.2.1, HN.out.2.2.1, fun j v hv => hcell (0 + j) v (by
      match j, hv with
      | 0, hv => exact hv
      | 1, hv => exact hv
      | 2, hv => exact hv
      | 3, hv => exact hv), rfl, by decide, by omega, by omega, by omega, by omega, by simp, by omega⟩
    (.inl ⟨by omega, by omega, by omega⟩) (.inl ⟨by omega, by omega, by omega⟩) (.inl ⟨by omega, by omega, by omega⟩) (.inl ⟨by omega, by omega, by omega⟩) (by simp) (by simp) (by simp)
    (fun j v hv => hcell (0 + 4 + j) v (by
      match j, hv with
      | 0, hv => exact hv
      | 1, hv => exact hv)) (by simp) (by decide) HE2.out.e1 HN.out.2.2.2.1 HN.out.2.2.2.2.1)
  clear hcell HX2
  go_loopg [5] 1 (fun kq v5 w' => (Aside0 (kq = 1) ∧ v5 = .slice none 0 0 ∧ w' = W2) ∨ (Aside0 (∃ pv, Scn w' q g .nilIface pv 48 48 48 54) ∧ Aside0 (Rdr w' g ⟨X, 0, none⟩ 6 6 6 (-1)) ∧ Aside0 ((Kd.slice 5 (Kd.int .u8)).R 36 w' w.heap.size (fun k => k ≠ q ∧ k ≠ g) v5 [[97, 10]]) ∧ Aside0 (Below w.heap.size w w')))
  case atStart => exact .inl ⟨⟨rfl⟩, rfl, rfl⟩
  case round =>
    rcases hrel with ⟨HK, rfl, hww⟩ | ⟨HS, HR, HV, HB⟩
    · subst hww
      go_wp2_with (first
        | (go_at_call 48; refine HC.out.mono ?_; rintro e w3 ⟨rfl, pb, hpb, hr3, hs3, hb3, hk3⟩; have HPB := Aside0.mk hpb; have HR3 := Aside0.mk hr3; have HS3 := Aside0.mk hs3; have HB3 := Aside0.mk hb3; have HB3' := Aside0.mk (below_keep HB2.out hk3 (fun j hj => hj.elim (fun e => by rw [e]; exact HN.out.2.2.2.2.2.1) (fun e => by rw [e]; exact HN.out.2.2.2.2.2.2.1))); have HC5 : Aside0 (Kd.C (Kd.int .u8) (w3.alloc (.cells #[] 5)) (some ⟨pb, 0, none⟩) 2 [97, 10]) := ⟨two_C (alloc_old hb3 _)⟩; have HO5 : Aside0 ((Kd.int .u8).R 5 (w3.alloc (.cells #[] 5)) w.heap.size (fun k => w3.heap.size ≤ k) (.slice (some ⟨w3.heap.size, 0, none⟩) 0 0) []) := ⟨empty_R w3 HB3'.out.size⟩; have HK6 : Aside0 (∀ k, w3.heap.size ≤ k → (k ≠ q ∧ k ≠ g) ∧ some k ≠ (Value.slice none 0 0).ownBlock) := ⟨fun k hk => ⟨⟨by have := lt_of_block hs3; omega, by have := lt_of_block hr3; omega⟩, by simp [Value.ownBlock]⟩⟩; have HF5 : Aside0 (∀ k, (w3.alloc (.cells #[] 5)).heap.size ≤ k → w3.heap.size ≤ k) := ⟨fun k hk => Nat.le_trans (size_le_alloc w3 _) hk⟩; have HB5 : Aside0 (Below w.heap.size w (w3.alloc (.cells #[] 5))) := ⟨below_alloc HB3'.out _⟩; clear hpb hr3 hs3 hb3 hk3)
        | (go_at_call 49; refine (scannerBytes_calls (alloc_old HS3.out _)).mono ?_; rintro e w4 ⟨rfl, rfl⟩)
        | (at_builtin; refine Kd.R_append_rows (Kd.int .u8) (w0 := w) w.heap.size rfl (.tmp 13) (.tmp 15) 36 5 (.int .u8 0) 1 rfl Tryd.underlying36 info5 rfl (by decide) (by omega) (.slice (some ⟨w3.heap.size, 0, none⟩) 0 0) [] [97, 10] _ _ _ (fun k => w3.heap.size ≤ k) (fun _ => False) rfl rfl ?aO ?aR (fun _ _ h => h) (fun _ h => h.elim) ?aF ?aB ?aS ?aL ?_; (case aR => exact HC5.out); (case aO => exact HO5.out); (case aF => exact HF5.out); (case aB => exact HB5.out); (case aS => exact HB5.out.size); (case aL => simp); rintro v5 w5 hr5 hb5 hg5 -; obtain ⟨A5, c5, rfl, hs5, hrd5, hp6, hf6⟩ := lines_mid HS3.out HR3.out hr5 hg5; have HS5 := Aside0.mk hs5; have HRd5 := Aside0.mk hrd5; have HP6 := Aside0.mk hp6; have HBB5 := Aside0.mk hb5; have HF6 := Aside0.mk hf6; clear hr5 hb5 hg5 hs5 hrd5 hp6 hf6)
        | (at_builtin; refine Kd.R_append (Kd.slice 5 (Kd.int .u8)) (w0 := w) w.heap.size rfl (.tmp 12) (.tmp 17) 54 36 (.slice none 0 0) 24 rfl Tryd.underlying54 info36' rfl (by decide) (by omega) (.slice none 0 0) [] [97, 10] [.slice A5 2 c5] (fun k => k ≠ q ∧ k ≠ g) (fun k => w3.heap.size ≤ k) rfl (by first | (go_simp; done) | (go_simp; rfl)) HP6.out HK6.out HF6.out (Kd.R_nil _ _ _ _ _) HBB5.out HBB5.out.size (by simp) ?_; rintro v6 w6 hr6 hb6 hg6 -; have HR6 := Aside0.mk hr6; have HB6 := Aside0.mk hb6; have HS6 : Aside0 (Scn w6 q g .nilIface (.slice (some ⟨pb, 0, none⟩) 2 2) 48 48 48 54) := ⟨grown_old hg6 HS5.out (by simp [Value.ownBlock])⟩; have HRd6 : Aside0 (Rdr w6 g ⟨X, 0, none⟩ 6 6 6 (-1)) := ⟨grown_old hg6 HRd5.out (by simp [Value.ownBlock])⟩; clear hr6 hb6 hg6))
      obtain rfl : gk = 1 := HK.out
      go_roundg 0
      case measure => omega
      case rel => exact .inr ⟨⟨_, HS6.out⟩, ⟨HRd6.out⟩, ⟨HR6.out⟩, ⟨HB6.out⟩⟩
    · obtain ⟨pv, hs⟩ := HS.out
      have HErr := Aside0.mk (HE.out.below HB.out)
      have HEnd := Aside0.mk (scan_end HR.out hs HErr.out.e1 HErr.out.e2 HErr.out.apart HN.out.2.2.2.2.1)
      clear hs HS HC HE2 HR2 HS2
      obtain ⟨A5, c5, hv5⟩ := Kd.R_slice HV.out
      obtain rfl : u5 = .slice A5 1 c5 := hv5
      go_wp2_with (go_at_call 48; refine HEnd.out.mono ?_; rintro e w4 ⟨rfl, hs4, hk4⟩; have HS4 := Aside0.mk hs4; have HK4 := Aside0.mk hk4; clear hs4 hk4)
      have HQ : Aside0 (∀ k, Calls Tryd.prog 50 #[.pointer (some ⟨q, 0, none⟩)] (w4.drewN k) fun e w' => e = .returned .nilIface ∧ w' = w4.drewN k) := ⟨fun k => (scannerErr_calls (w := w4.drewN k) HS4.out).mono fun _ _ h => ⟨h.1, h.2.symm⟩⟩
      go_quiet ((go_at_call 50; exact Calls.quiet_of_same (HQ.out _)))
      go_wp2_with fail
      go_ret2
      exact ⟨_, rfl, Kd.R_mono (Kd.R_move (w1 := w4.drewN nq) (Kd.R_bound HV.out) (fun k hk => HK4.out.block k hk.2.2.1 (fun e => hk.1.1 e))) (fun _ _ => trivial), below_keep HB.out (HK4.out.drewN nq) (fun j hj => by rw [hj]; exact HN.out.2.2.2.2.2.2.1)⟩
end Go.Proofs.YtbgimkjodpjnfaaDoor.Proto
