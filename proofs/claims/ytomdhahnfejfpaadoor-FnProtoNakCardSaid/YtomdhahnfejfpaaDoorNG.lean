/- The lines of a text of one packet line, over a bytes.Reader; pktWorks. -/
import Derived.Test.YtomdhahnfejfpaaDoorNF
namespace Go.Proofs.YtomdhahnfejfpaaDoor.Proto
open Go.RowKit Go.Proofs.YtomdhahnfejfpaaDoorW.PrintWords Go.Proofs.YtomdhahnfejfpaaDoorW.PrintLast Go.Proofs.YtomdhahnfejfpaaDoorW.PrintMore Go.Proofs.YtomdhahnfejfpaaDoor.PFnProtoNak

/-- What is asked of the reader and of the slice to be filled. -/
structure Ask (w : World) (g : Nat) (A : Addr) (n cap i : Nat) (pr : Int) (b o m c : Nat) (cur : List Value) (t : TypeId) (xs : List Value) : Prop where
  rdr : Rdr w g A n cap i pr
  blk : w.heap[b]? = some (.cells cur.toArray t (0, 0))
  ne : b ≠ g
  A1 : A.block ≠ b
  A2 : A.block ≠ g
  src : ∀ j v, xs[j]? = some v → w.cell? (A.add (i + j)) = some v
  len : xs.length = m
  one : ∀ v ∈ xs, v.oneCell' = true
  pos : 0 < m
  fits : i + m ≤ n
  ncap : n ≤ cap
  capl : n ≤ 140737488355328
  room : o + m ≤ cur.length
  mc : m ≤ c
set_option maxHeartbeats 4000000 in
set_option maxRecDepth 100000 in
theorem scan_some {w : World} {g : Nat} {A : Addr} {n cap i : Nat} {pr : Int} {q : Nat} {x0 x1 x2 x3 b0 b1 b2 b3 d0 d1 d2 d3 : Int} {te : TypeId} {a1 : Addr} (ys : List UInt8)
    (h : Ask w g A n cap i pr q 3 4 4 [.iface 42 (.pointer (some ⟨g, 0, none⟩)), .nilIface, .slice none 0 0, .int .u8 x0, .int .u8 x1, .int .u8 x2, .int .u8 x3] 58 [.int .u8 b0, .int .u8 b1, .int .u8 b2, .int .u8 b3])
    (h0 : HexD b0 d0) (h1 : HexD b1 d1) (h2 : HexD b2 d2) (h3 : HexD b3 d3) (hN : (ys.length : Int) + 4 = 16 * (16 * (16 * d0 + d1) + d2) + d3) (hy0 : 0 < ys.length) (hy1 : ys.length ≤ 65520)
    (hsrc : ∀ j v, (vals ys)[j]? = some v → w.cell? (A.add (i + 4 + j)) = some v) (hfit : i + 4 + ys.length ≤ n) (hne : ys.take 4 ≠ errBytes) (heof : w.cell? ⟨0, 0, none⟩ = some (.iface te (.pointer (some a1)))) (hg1 : 0 ≠ g) (hq1 : 0 ≠ q) :
    Calls Tryd.prog 14 #[.pointer (some ⟨q, 0, none⟩)] w fun e w' => e = .returned (.bool true) ∧ ∃ pb, w.heap.size ≤ pb ∧ Rdr w' g A n cap (i + 4 + ys.length) (-1) ∧ Scn w' q (.iface 42 (.pointer (some ⟨g, 0, none⟩))) .nilIface (.slice (some ⟨pb, 0, none⟩) ys.length ys.length) b0 b1 b2 b3 ∧ w'.heap[pb]? = some (.cells (vals ys).toArray 5 (0, 0)) ∧ Keep w w' (fun k => k = g ∨ k = q) := by
  have hgq : g ≠ q := h.ne.symm
  have hqw : q < w.heap.size := lt_of_block h.blk
  have cl : ∀ (j : Nat) (w1 w2 : World), Rdr w1 g A n cap j (-1) → Keep w1 w2 (fun k => k = q) → Rdr w2 g A n cap j (-1) := fun j w1 w2 hr hk => (hk.block g (lt_of_block hr) hgq).trans hr
  refine scan_gen (te := te) (a1 := a1) ys (R1 := fun w' => Rdr w' g A n cap (i + 4) (-1)) (R2 := fun w' => Rdr w' g A n cap (i + 4 + ys.length) (-1)) (M := fun k => k = g) ?_ (cl _) (cl _) ?_ hgq.symm hy0 hy1 hne heof hg1 hq1 hqw
  · have hR : ∀ k, Calls Tryd.prog 21 #[.iface 42 (.pointer (some ⟨g, 0, none⟩)), .slice (some ⟨q, 3, none⟩) 4 4] (w.drewN k) fun e w' => e = .returned (.tuple #[.int .i64 4, .nilIface]) ∧ w'.heap[q]? = some (.cells #[.iface 42 (.pointer (some ⟨g, 0, none⟩)), .nilIface, .slice none 0 0, .int .u8 b0, .int .u8 b1, .int .u8 b2, .int .u8 b3] 58 (0, 0)) ∧ (Rdr w' g A n cap (i + 4) (-1) ∧ Keep w w' (fun k => k = g ∨ k = q)) := fun k => by
      refine readFull_bytes (m := 4) (by omega) (by omega) (fun k2 => ?_)
      refine (read_calls g A n cap i pr q 3 4 4 _ 58 [.int .u8 b0, .int .u8 b1, .int .u8 b2, .int .u8 b3] ((w.drewN k).drewN k2) h.rdr h.blk h.ne h.A1 h.A2 h.src 4 h.len (by have := h.fits; omega) h.one h.pos (by have := h.fits; omega) h.ncap h.capl (by simp)).mono fun e w' ⟨e1, e2, e3, e4⟩ => ⟨e1, e3, e2, ⟨e4.os, e4.tape, e4.output, e4.size, e4.block⟩⟩
    have e : (ys.length : Int) + 4 - 4 = ys.length := by omega
    have := payloadLen_gen ((ys.length : Int) + 4) (R := fun w' => Rdr w' g A n cap (i + 4) (-1) ∧ Keep w w' (fun k => k = g ∨ k = q)) (by simpa using h.blk) hR (fun w' o hr => ⟨alloc_old hr.1 o, hr.2.alloc o⟩) h0 h1 h2 h3 hN (by omega) (by omega)
    rw [e] at this
    exact this.mono fun e w' ⟨e1, e2, e3⟩ => ⟨e1, e2, e3.1, e3.2⟩
  · intro W pb Z hr hk hpb hZb hZ
    have hqp : pb ≠ q := by omega
    have hgw : g < w.heap.size := lt_of_block h.rdr
    have hgp : pb ≠ g := by omega
    have hAw : A.block < w.heap.size := by
      obtain ⟨v, hv⟩ : ∃ v, (vals ys)[0]? = some v := ⟨(vals ys)[0]'(by rw [vals_length]; exact hy0), by rw [List.getElem?_eq_getElem]⟩
      have := World.block_lt_of_cell? w _ (hsrc 0 v hv)
      rw [add_block] at this
      exact this
    refine readFull_bytes (m := ys.length) hy0 (by omega) (fun k2 => ?_)
    refine (read_calls g A n cap (i + 4) (-1) pb 0 ys.length ys.length Z.toList 5 (vals ys) (W.drewN k2) hr (by simpa using hZb) hgp (by omega) h.A2 (fun j v hv => hk.cell (hsrc j v hv) (by rw [add_block]; exact fun e => e.elim h.A2 h.A1)) ys.length (vals_length ys) (by omega) (vals_one ys) hy0 (by omega) h.ncap h.capl (by simp [hZ])).mono fun e w' ⟨e1, e2, e3, e4⟩ => ⟨e1, e2, ?_, ⟨e4.os, e4.tape, e4.output, e4.size, e4.block⟩⟩
    have e : splice Z.toList 0 (vals ys) = vals ys := by
      unfold splice
      have : Z.toList.drop (0 + (vals ys).length) = [] := List.drop_eq_nil_of_le (by rw [vals_length]; simp [hZ])
      rw [this]; simp
    rw [e] at e3
    exact e3
/-- The two errors of package io that are met, and that they are two. -/
structure Errs (w : World) (a1 a2 : Addr) : Prop where
  e1 : w.cell? ⟨0, 0, none⟩ = some (.iface 98 (.pointer (some a1)))
  e2 : w.cell? ⟨1, 0, none⟩ = some (.iface 98 (.pointer (some a2)))
  b1 : ∃ c t, w.heap[a1.block]? = some (.cells c t (0, 0))
  b2 : ∃ c t, w.heap[a2.block]? = some (.cells c t (0, 0))
  ne : a1 ≠ a2
theorem Errs.below {w w' : World} {a1 a2 : Addr} (h : Errs w a1 a2) (hb : Below w.heap.size w w') : Errs w' a1 a2 := by
  obtain ⟨c1, t1, h1⟩ := h.b1
  obtain ⟨c2, t2, h2⟩ := h.b2
  exact ⟨(hb.cell (World.block_lt_of_cell? w _ h.e1)).trans h.e1, (hb.cell (World.block_lt_of_cell? w _ h.e2)).trans h.e2, ⟨c1, t1, (hb.block _ (lt_of_block h1)).trans h1⟩, ⟨c2, t2, (hb.block _ (lt_of_block h2)).trans h2⟩, h.ne⟩
theorem Errs.apart {w : World} {a1 a2 : Addr} (h : Errs w a1 a2) : NeErr w (.iface 98 (.pointer (some a1))) (.iface 98 (.pointer (some a2))) := by
  obtain ⟨c1, t1, h1⟩ := h.b1
  obtain ⟨c2, t2, h2⟩ := h.b2
  exact err_other h.ne h1 h2
set_option maxHeartbeats 1000000 in
set_option maxRecDepth 100000 in
theorem newReader_calls (A : Addr) (n c : Nat) (w : World) : Calls Tryd.prog 13 #[.slice (some A) n c] w fun e w' => e = .returned (.pointer (some ⟨w.heap.size, 0, none⟩)) ∧ w' = w.alloc (.cells #[.slice (some A) n c, .int .i64 0, .int .i64 (-1)] 60) := by
  go_enter Tryd.func13, Tryd.ntmps13
  go_wp2_with fail
  go_ret
  exact ⟨rfl, rfl⟩
theorem info36' : (Tryd.prog.info? 22).map (fun i => (i.zero, i.size, i.bytes)) = some (some (.slice none 0 0), 1, 24) := by kernel_rfl
theorem two_C {w : World} {pb t : Nat} {fr : Nat × Nat} (h : w.heap[pb]? = some (.cells (vals [97, 10]).toArray t fr)) : Kd.C (Kd.int .u8) w (some ⟨pb, 0, none⟩) 2 [97, 10] := bytes_C (l := [97, 10]) h 2 (by simp) (by simp)
theorem empty_R {base : Nat} (w : World) (hb : base ≤ w.heap.size) : (Kd.int .u8).R 5 (w.alloc (.cells #[] 5)) base (fun k => w.heap.size ≤ k) (.slice (some ⟨w.heap.size, 0, none⟩) 0 0) [] :=
  Kd.R_of_own (World.ownsRow_made w #[] 0 hb (by decide) rfl) (fun k hk => by
    have : k = w.heap.size := by simpa [Value.ownBlock] using hk.symm
    omega)
theorem lines_mid {w w3 w5 : World} {q g n cap i : Nat} {A : Addr} {pr : Int} {ev pv v5 : Value} {y0 y1 y2 y3 : Int} (hs3 : Scn w3 q (.iface 42 (.pointer (some ⟨g, 0, none⟩))) ev pv y0 y1 y2 y3) (hr3 : Rdr w3 g A n cap i pr) (hr5 : (Kd.int .u8).R 5 w5 w.heap.size (fun k => w3.heap.size ≤ k) v5 ([] ++ [97, 10])) (hg5 : (w3.alloc (.cells #[] 5)).grownBy w5 (Value.slice (some ⟨w3.heap.size, 0, none⟩) 0 0).ownBlock) :
    ∃ A5 c5, v5 = .slice A5 2 c5 ∧ Scn w5 q (.iface 42 (.pointer (some ⟨g, 0, none⟩))) ev pv y0 y1 y2 y3 ∧ Rdr w5 g A n cap i pr ∧ (Kd.slice 5 (Kd.int .u8)).M w5 w.heap.size (fun k => w3.heap.size ≤ k) [97, 10] [v5] ∧ ∀ k, w5.heap.size ≤ k → k ≠ q ∧ k ≠ g := by
  obtain ⟨A5, c5, he5⟩ := Kd.R_slice hr5
  have hq := lt_of_block hs3
  have hg := lt_of_block hr3
  have hs5 : Scn w5 q (.iface 42 (.pointer (some ⟨g, 0, none⟩))) ev pv y0 y1 y2 y3 := grown_old hg5 (alloc_old hs3 _) (by simp [Value.ownBlock]; omega)
  have hr5' : Rdr w5 g A n cap i pr := grown_old hg5 (alloc_old hr3 _) (by simp [Value.ownBlock]; omega)
  exact ⟨A5, c5, he5, hs5, hr5', ⟨_, rfl, hr5⟩, fun k hk => ⟨by have := lt_of_block hs5; omega, by have := lt_of_block hr5'; omega⟩⟩
def aLine : List UInt8 := [48, 48, 48, 54, 97, 10]

set_option maxHeartbeats 8000000 in
set_option maxRecDepth 100000 in
theorem readLines_calls {w : World} {X : Nat} {fr : Nat × Nat} {a1 a2 : Addr} (hX : w.heap[X]? = some (.cells (vals aLine).toArray 5 fr)) (hE : Errs w a1 a2) :
    Calls Tryd.prog 8 #[.slice (some ⟨X, 0, none⟩) 6 6] w fun e w' => ∃ v, e = .returned (.tuple #[v, .bool true]) ∧ Kd.R (Kd.slice 5 (Kd.int .u8)) 22 w' w.heap.size (fun _ => True) v [[97, 10]] ∧ Below w.heap.size w w' := by
  have HX := Aside0.mk hX
  have HE := Aside0.mk hE
  clear hX hE
  go_enter Tryd.func8, Tryd.ntmps8
  go_wp2_with (first
    | (go_at_call 13; refine (newReader_calls _ _ _ _).mono ?_; rintro e w1 ⟨rfl, hw1⟩; subst hw1)
    | (go_at_call 12; refine (newScanner_calls _ _ _).mono ?_; rintro e w2 ⟨rfl, hw2⟩; subst hw2))
  obtain ⟨W2, hW2⟩ : ∃ W2, W2 = (w.alloc (.cells #[.slice (some ⟨X, 0, none⟩) 6 6, .int .i64 0, .int .i64 (-1)] 60)).alloc (.cells #[.iface 42 (.pointer (some ⟨w.heap.size, 0, none⟩)), .nilIface, .slice none 0 0, .int .u8 0, .int .u8 0, .int .u8 0, .int .u8 0] 58) := ⟨_, rfl⟩
  rw [← hW2]
  obtain ⟨q, hq⟩ : ∃ q, q = w.heap.size + 1 := ⟨_, rfl⟩
  obtain ⟨g, hg⟩ : ∃ g, g = w.heap.size := ⟨_, rfl⟩
  have HB2 : Aside0 (Below w.heap.size w W2) := ⟨by rw [hW2]; exact below_alloc (below_alloc (Below.refl _ _) _) _⟩
  have HR2 : Aside0 (Rdr W2 g ⟨X, 0, none⟩ 6 6 0 (-1)) := ⟨by rw [hW2, hg]; exact alloc_old (heap_alloc_new w _) _⟩
  have HS2 : Aside0 (Scn W2 q (.iface 42 (.pointer (some ⟨g, 0, none⟩))) .nilIface (.slice none 0 0) 0 0 0 0) := ⟨by rw [hW2, hq, hg]; exact heap_new2 w _ _⟩
  have hXl : X < w.heap.size := lt_of_block HX.out
  have h1l : 0 < w.heap.size := World.block_lt_of_cell? w _ HE.out.e1
  have h2l : 1 < w.heap.size := World.block_lt_of_cell? w _ HE.out.e2
  have HN : Aside0 (q ≠ g ∧ X ≠ q ∧ X ≠ g ∧ 0 ≠ g ∧ 0 ≠ q ∧ w.heap.size ≤ g ∧ w.heap.size ≤ q ∧ q < W2.heap.size ∧ g < W2.heap.size) := ⟨by
    refine ⟨by omega, by omega, by omega, by omega, by omega, by omega, by omega, lt_of_block HS2.out, lt_of_block HR2.out⟩⟩
  rw [← hq, ← hg]
  have HX2 : Aside0 (W2.heap[X]? = some (.cells (vals aLine).toArray 5 fr)) := ⟨(HB2.out.block X hXl).trans HX.out⟩
  have HE2 : Aside0 (Errs W2 a1 a2) := ⟨HE.out.below HB2.out⟩
  clear hW2 hq hg hXl h1l h2l
  have hcell : ∀ (j : Nat) (v : Value), (vals aLine)[j]? = some v → W2.cell? ((⟨X, 0, none⟩ : Addr).add j) = some v := fun j v hv => by
    have e : (⟨X, 0, none⟩ : Addr).add j = ⟨X, j, none⟩ := by unfold Addr.add; split <;> simp_all
    rw [e]; exact cell_of HX2.out j (by simpa using hv)
  have HC := Aside0.mk (scan_some (w := W2) (g := g) (A := ⟨X, 0, none⟩) (n := 6) (cap := 6) (i := 0) (pr := -1) (q := q) (x0 := 0) (x1 := 0) (x2 := 0) (x3 := 0) (b0 := 48) (b1 := 48) (b2 := 48) (b3 := 54) (d0 := 0) (d1 := 0) (d2 := 0) (d3 := 6) (te := 98) (a1 := a1) [97, 10]
    ⟨HR2.out, HS2.out, HN.out.1, HN.out.2.1, HN.out.2.2.1, fun j v hv => hcell (0 + j) v (by
      match j, hv with
      | 0, hv => exact hv
      | 1, hv => exact hv
      | 2, hv => exact hv
      | 3, hv => exact hv), rfl, by decide, by omega, by omega, by omega, by omega, by simp, by omega⟩
    (.inl ⟨by omega, by omega, by omega⟩) (.inl ⟨by omega, by omega, by omega⟩) (.inl ⟨by omega, by omega, by omega⟩) (.inl ⟨by omega, by omega, by omega⟩) (by simp) (by simp) (by simp)
    (fun j v hv => hcell (0 + 4 + j) v (by
      match j, hv with
      | 0, hv => exact hv
      | 1, hv => exact hv)) (by simp) (by decide) HE2.out.e1 HN.out.2.2.2.1 HN.out.2.2.2.2.1)
  clear hcell HX2
  go_loopg [5] 1 (fun kq v5 w' => (Aside0 (kq = 1) ∧ v5 = .slice none 0 0 ∧ w' = W2) ∨ (Aside0 (∃ pv, Scn w' q (.iface 42 (.pointer (some ⟨g, 0, none⟩))) .nilIface pv 48 48 48 54) ∧ Aside0 (Rdr w' g ⟨X, 0, none⟩ 6 6 6 (-1)) ∧ Aside0 ((Kd.slice 5 (Kd.int .u8)).R 22 w' w.heap.size (fun k => k ≠ q ∧ k ≠ g) v5 [[97, 10]]) ∧ Aside0 (Below w.heap.size w w')))
  case atStart => exact .inl ⟨⟨rfl⟩, rfl, rfl⟩
  case round =>
    rcases hrel with ⟨HK, rfl, hww⟩ | ⟨HS, HR, HV, HB⟩
    · subst hww
      go_wp2_with (first
        | (go_at_call 14; refine HC.out.mono ?_; rintro e w3 ⟨rfl, pb, hpb, hr3, hs3, hb3, hk3⟩; have HPB := Aside0.mk hpb; have HR3 := Aside0.mk hr3; have HS3 := Aside0.mk hs3; have HB3 := Aside0.mk hb3; have HB3' := Aside0.mk (below_keep HB2.out hk3 (fun j hj => hj.elim (fun e => by rw [e]; exact HN.out.2.2.2.2.2.1) (fun e => by rw [e]; exact HN.out.2.2.2.2.2.2.1))); have HC5 : Aside0 (Kd.C (Kd.int .u8) (w3.alloc (.cells #[] 5)) (some ⟨pb, 0, none⟩) 2 [97, 10]) := ⟨two_C (alloc_old hb3 _)⟩; have HO5 : Aside0 ((Kd.int .u8).R 5 (w3.alloc (.cells #[] 5)) w.heap.size (fun k => w3.heap.size ≤ k) (.slice (some ⟨w3.heap.size, 0, none⟩) 0 0) []) := ⟨empty_R w3 HB3'.out.size⟩; have HK6 : Aside0 (∀ k, w3.heap.size ≤ k → (k ≠ q ∧ k ≠ g) ∧ some k ≠ (Value.slice none 0 0).ownBlock) := ⟨fun k hk => ⟨⟨by have := lt_of_block hs3; omega, by have := lt_of_block hr3; omega⟩, by simp [Value.ownBlock]⟩⟩; have HF5 : Aside0 (∀ k, (w3.alloc (.cells #[] 5)).heap.size ≤ k → w3.heap.size ≤ k) := ⟨fun k hk => Nat.le_trans (size_le_alloc w3 _) hk⟩; have HB5 : Aside0 (Below w.heap.size w (w3.alloc (.cells #[] 5))) := ⟨below_alloc HB3'.out _⟩; clear hpb hr3 hs3 hb3 hk3)
        | (go_at_call 15; refine (scannerBytes_calls (alloc_old HS3.out _)).mono ?_; rintro e w4 ⟨rfl, rfl⟩)
        | (at_builtin; refine Kd.R_append_rows (Kd.int .u8) (w0 := w) w.heap.size rfl (.tmp 13) (.tmp 15) 22 5 (.int .u8 0) 1 rfl Tryd.underlying22 info5 rfl (by decide) (by omega) (.slice (some ⟨w3.heap.size, 0, none⟩) 0 0) [] [97, 10] _ _ _ (fun k => w3.heap.size ≤ k) (fun _ => False) rfl rfl ?aO ?aR (fun _ _ h => h) (fun _ h => h.elim) ?aF ?aB ?aS ?aL ?_; (case aR => exact HC5.out); (case aO => exact HO5.out); (case aF => exact HF5.out); (case aB => exact HB5.out); (case aS => exact HB5.out.size); (case aL => simp); rintro v5 w5 hr5 hb5 hg5 -; obtain ⟨A5, c5, rfl, hs5, hrd5, hp6, hf6⟩ := lines_mid HS3.out HR3.out hr5 hg5; have HS5 := Aside0.mk hs5; have HRd5 := Aside0.mk hrd5; have HP6 := Aside0.mk hp6; have HBB5 := Aside0.mk hb5; have HF6 := Aside0.mk hf6; clear hr5 hb5 hg5 hs5 hrd5 hp6 hf6)
        | (at_builtin; refine Kd.R_append (Kd.slice 5 (Kd.int .u8)) (w0 := w) w.heap.size rfl (.tmp 12) (.tmp 17) 30 22 (.slice none 0 0) 24 rfl Tryd.underlying30 info36' rfl (by decide) (by omega) (.slice none 0 0) [] [97, 10] [.slice A5 2 c5] (fun k => k ≠ q ∧ k ≠ g) (fun k => w3.heap.size ≤ k) rfl (by first | (go_simp; done) | (go_simp; rfl)) HP6.out HK6.out HF6.out (Kd.R_nil _ _ _ _ _) HBB5.out HBB5.out.size (by simp) ?_; rintro v6 w6 hr6 hb6 hg6 -; have HR6 := Aside0.mk hr6; have HB6 := Aside0.mk hb6; have HS6 : Aside0 (Scn w6 q (.iface 42 (.pointer (some ⟨g, 0, none⟩))) .nilIface (.slice (some ⟨pb, 0, none⟩) 2 2) 48 48 48 54) := ⟨grown_old hg6 HS5.out (by simp [Value.ownBlock])⟩; have HRd6 : Aside0 (Rdr w6 g ⟨X, 0, none⟩ 6 6 6 (-1)) := ⟨grown_old hg6 HRd5.out (by simp [Value.ownBlock])⟩; clear hr6 hb6 hg6))
      obtain rfl : gk = 1 := HK.out
      go_roundg 0
      case measure => omega
      case rel => exact .inr ⟨⟨_, HS6.out⟩, ⟨HRd6.out⟩, ⟨HR6.out⟩, ⟨HB6.out⟩⟩
    · obtain ⟨pv, hs⟩ := HS.out
      have HErr := Aside0.mk (HE.out.below HB.out)
      have HEnd := Aside0.mk (scan_end HR.out hs HErr.out.e1 HErr.out.e2 HErr.out.apart HN.out.2.2.2.2.1)
      clear hs HS HC HE2 HR2 HS2
      obtain ⟨A5, c5, hv5⟩ := Kd.R_slice HV.out
      obtain rfl : u5 = .slice A5 1 c5 := hv5
      go_wp2_with (go_at_call 14; refine HEnd.out.mono ?_; rintro e w4 ⟨rfl, hs4, hk4⟩; have HS4 := Aside0.mk hs4; have HK4 := Aside0.mk hk4; clear hs4 hk4)
      have HQ : Aside0 (∀ k, Calls Tryd.prog 16 #[.pointer (some ⟨q, 0, none⟩)] (w4.drewN k) fun e w' => e = .returned .nilIface ∧ w' = w4.drewN k) := ⟨fun k => (scannerErr_calls (w := w4.drewN k) HS4.out).mono fun _ _ h => ⟨h.1, h.2.symm⟩⟩
      go_quiet ((go_at_call 16; exact Calls.quiet_of_same (HQ.out _)))
      go_wp2_with fail
      go_ret2
      exact ⟨_, rfl, Kd.R_mono (Kd.R_move (w1 := w4.drewN nq) (Kd.R_bound HV.out) (fun k hk => HK4.out.block k hk.2.2.1 (fun e => hk.1.1 e))) (fun _ _ => trivial), below_keep HB.out (HK4.out.drewN nq) (fun j hj => by rw [hj]; exact HN.out.2.2.2.2.2.2.1)⟩

theorem line_parts {w : World} {base : Nat} {ok : Nat → Prop} {v : Value} (h : (Kd.slice 5 (Kd.int .u8)).R 22 w base ok v [[97, 10]]) : ∃ ad c1 A2 c2, v = .slice (some ad) 1 c1 ∧ w.cell? ad = some (.slice A2 2 c2) ∧ Kd.C (Kd.int .u8) w A2 2 [97, 10] := by
  obtain ⟨A1, c1, rfl, hl1, hC1⟩ := Kd.R_reads h
  obtain ⟨ad, cs, rfl, hcl, hK, hcc⟩ := Kd.C_get hC1 [] 0 (by omega) (by simp)
  obtain ⟨A2, c2, rfl, hl2, hC2⟩ := hK
  refine ⟨ad, c1, A2, c2, rfl, ?_, hC2⟩
  have := hcc 0 _ rfl
  have e : ad.add ((0 : Int).toNat * (Kd.slice 5 (Kd.int .u8)).sz + 0) = ad := by
    show ad.add (0 * 1 + 0) = ad
    unfold Addr.add
    simp
  rw [e] at this
  exact this
set_option maxHeartbeats 4000000 in
set_option maxRecDepth 100000 in
theorem pktWorks_calls {w : World} {a1 a2 : Addr} (hE : Errs w a1 a2) : Calls Tryd.prog 5 #[] w fun e w' => e = .returned (.bool true) ∧ Below w.heap.size w w' := by
  have kc := fun (w : World) (C : Array Value) (n c : Nat) => Lib.run_convert_bytes_const (P := Tryd.prog) w 22 5 C n c Tryd.underlying22 Tryd.underlying5
  have HX : Aside0 ((w.alloc (.cells #[.int .u8 48, .int .u8 48, .int .u8 48, .int .u8 54, .int .u8 97, .int .u8 10] 5 (6, 7))).heap[w.heap.size]? = some (.cells (vals aLine).toArray 5 (6, 7))) := ⟨heap_alloc_new w _⟩
  have HB : Aside0 (Below w.heap.size w (w.alloc (.cells #[.int .u8 48, .int .u8 48, .int .u8 48, .int .u8 54, .int .u8 97, .int .u8 10] 5 (6, 7)))) := ⟨below_alloc (Below.refl _ _) _⟩
  have HL := Aside0.mk (readLines_calls HX.out (hE.below HB.out))
  clear hE
  go_enter Tryd.func5, Tryd.ntmps5
  go_wp2_with fail
  refine HL.out.mono ?_
  rintro e w1 ⟨v1, rfl, hr1, hb1⟩
  obtain ⟨ad, c1, A2, c2, rfl, k0, hC2⟩ := line_parts hr1
  have hcv := Kd.C_string (P := Tryd.prog) (A := A2) (c := c2) Tryd.underlying22 Tryd.underlying5 Tryd.underlying9 hC2
  have e2 : strOfNums [97, 10] = ⟨#[97, 10]⟩ := rfl
  rw [e2] at hcv
  have HB1 := Aside0.mk (HB.out.trans (hb1.mono HB.out.size))
  clear hr1 hb1 hC2 e2 kc HX HL
  go_wp2_with fail
  go_ret
  exact ⟨rfl, HB1.out⟩
end Go.Proofs.YtomdhahnfejfpaaDoor.Proto
