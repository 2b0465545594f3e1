/- One packet line is scanned. -/
import Derived.Test.YtbgimkjodpjnfaaDoorProtoE
import Derived.LaidEql
namespace Go.Proofs.YtbgimkjodpjnfaaDoor.Proto
open Go.RowKit Go.Proofs.YtbgimkjodpjnfaaDoorW.PrintWords Go.Proofs.YtbgimkjodpjnfaaDoorW.PrintLast Go.Proofs.YtbgimkjodpjnfaaDoorW.PrintMore Go.Proofs.YtbgimkjodpjnfaaDoor.PFnProtoFirstRead

theorem set_block {w : World} {q : Nat} {cs : Array Value} {t : TypeId} (h : w.heap[q]? = some (.cells cs t (0, 0))) (j : Nat) (v : Value) : (w.setCell ⟨q, j, none⟩ v).heap[q]? = some (.cells (cs.setIfInBounds j v) t (0, 0)) := by
  rw [setCell_eq_setRow w q j cs t (0, 0) v h]
  exact setRow_heap w q cs _ t _ h
theorem set_other {w : World} {q k : Nat} (j : Nat) (v : Value) (hk : k ≠ q) {x : Option Obj} (h : w.heap[k]? = x) : (w.setCell ⟨q, j, none⟩ v).heap[k]? = x := (Below.heap_setCell w ⟨q, j, none⟩ v k hk).trans h
/-- The scanner at block q. -/
def Scn (w : World) (q g : Nat) (ev pv : Value) (y0 y1 y2 y3 : Int) : Prop := w.heap[q]? = some (.cells #[.iface 62 (.pointer (some ⟨g, 0, none⟩)), ev, pv, .int .u8 y0, .int .u8 y1, .int .u8 y2, .int .u8 y3] 113 (0, 0))
section
variable {w : World} {q g : Nat} {ev pv : Value} {y0 y1 y2 y3 : Int}
theorem Scn.c0 (h : Scn w q g ev pv y0 y1 y2 y3) : w.cell? ⟨q, 0, none⟩ = some (.iface 62 (.pointer (some ⟨g, 0, none⟩))) := cell_of h 0 rfl
theorem Scn.c1 (h : Scn w q g ev pv y0 y1 y2 y3) : w.cell? ⟨q, 1, none⟩ = some ev := cell_of h 1 rfl
theorem Scn.c2 (h : Scn w q g ev pv y0 y1 y2 y3) : w.cell? ⟨q, 2, none⟩ = some pv := cell_of h 2 rfl
theorem Scn.f (h : Scn w q g ev pv y0 y1 y2 y3) (j : Nat) : w.frozen? ⟨q, j, none⟩ = false := frozen_of h j
theorem Scn.set1 (h : Scn w q g ev pv y0 y1 y2 y3) (v : Value) : Scn (w.setCell ⟨q, 1, none⟩ v) q g v pv y0 y1 y2 y3 := set_block h 1 v
theorem Scn.set2 (h : Scn w q g ev pv y0 y1 y2 y3) (v : Value) : Scn (w.setCell ⟨q, 2, none⟩ v) q g ev v y0 y1 y2 y3 := set_block h 2 v
end
theorem Keep.cell {w w1 : World} {F : Nat → Prop} (h : Keep w w1 F) {a : Addr} {v : Value} (hc : w.cell? a = some v) (hF : ¬ F a.block) : w1.cell? a = some v :=
  (World.cell?_of_block (h.block a.block (World.block_lt_of_cell? w _ hc) hF)).trans hc
theorem info60 : Tryd.prog.underlying 60 = some (.interface #[("Error", 173)]) := Tryd.underlying60

theorem noPrefix_at {w : World} {pb eb : Nat} {ys : List UInt8} (hb : w.heap[pb]? = some (.cells (vals ys).toArray 5 (0, 0))) (he : w.heap[eb]? = some (.cells (vals errBytes).toArray 5 (4, 5))) (hm : ys.length ≤ 140737488355328) (hne : ys.take 4 ≠ errBytes) :
    ∀ k, Calls Tryd.prog 65 #[.slice (some ⟨pb, 0, none⟩) ys.length ys.length, .slice (some ⟨eb, 0, none⟩) 4 4] (w.drewN k) fun e w' => e = .returned (.bool false) ∧ Drawn0 w w' :=
  fun k => (noPrefix_calls pb ys.length ys eb (w.drewN k) hb (Nat.le_refl _) hm he hne).mono fun _ _ h => ⟨h.1, drawn_trans ⟨⟨k, rfl⟩⟩ h.2⟩
theorem make_bytes (n : Nat) (hn : n ≤ 70000) : ∃ Z : Array Value, Z.size = n ∧ ∀ W : World, (Instr.makeSlice 36 (.int .i64 0) (.int .i64 (n : Int))).run Tryd.prog W = .ok (.slice (some ⟨W.heap.size, 0, none⟩) 0 n) (W.alloc (.cells Z 5)) := by
  obtain ⟨i, hi, hz, hs, hb⟩ := info_parts info5
  refine ⟨madeCells (Value.int .u8 0).cells n, ?_, fun W => ?_⟩
  · rw [size_madeCells]
  · have := run_makeSlice (P := Tryd.prog) W 36 5 i (.int .u8 0) Tryd.underlying36 hi hz .i64 .i64 0 n (by omega) (by omega) (by rw [hs]; omega) (by rw [hb]; omega) (by omega)
    rw [hs] at this
    simpa using this
set_option maxHeartbeats 8000000 in
set_option maxRecDepth 100000 in
theorem scan_some {w : World} {g : Nat} {A : Addr} {n cap i : Nat} {pr : Int} {q : Nat} {x0 x1 x2 x3 b0 b1 b2 b3 d0 d1 d2 d3 : Int} {te : TypeId} {a1 : Addr} (ys : List UInt8)
    (h : Ask w g A n cap i pr q 3 4 4 [.iface 62 (.pointer (some ⟨g, 0, none⟩)), .nilIface, .slice none 0 0, .int .u8 x0, .int .u8 x1, .int .u8 x2, .int .u8 x3] 113 [.int .u8 b0, .int .u8 b1, .int .u8 b2, .int .u8 b3])
    (h0 : HexD b0 d0) (h1 : HexD b1 d1) (h2 : HexD b2 d2) (h3 : HexD b3 d3) (hN : (ys.length : Int) + 4 = 16 * (16 * (16 * d0 + d1) + d2) + d3) (hy0 : 0 < ys.length) (hy1 : ys.length ≤ 65520)
    (hsrc : ∀ j v, (vals ys)[j]? = some v → w.cell? (A.add (i + 4 + j)) = some v) (hfit : i + 4 + ys.length ≤ n) (hne : ys.take 4 ≠ errBytes) (heof : w.cell? ⟨1, 0, none⟩ = some (.iface te (.pointer (some a1)))) (hg1 : 1 ≠ g) (hq1 : 1 ≠ q) :
    Calls Tryd.prog 48 #[.pointer (some ⟨q, 0, none⟩)] w fun e w' => e = .returned (.bool true) ∧ ∃ pb, w.heap.size ≤ pb ∧ Rdr w' g A n cap (i + 4 + ys.length) (-1) ∧ Scn w' q g .nilIface (.slice (some ⟨pb, 0, none⟩) ys.length ys.length) b0 b1 b2 b3 ∧ w'.heap[pb]? = some (.cells (vals ys).toArray 5 (0, 0)) ∧ Keep w w' (fun k => k = g ∨ k = q) := by
  have H := Aside0.mk h
  have HP : Aside0 (Calls Tryd.prog 63 #[.pointer (some ⟨q, 0, none⟩)] w fun e w' => e = .returned (.tuple #[.int .i64 (ys.length : Int), .nilIface]) ∧ Rdr w' g A n cap (i + 4) (-1) ∧ Scn w' q g .nilIface (.slice none 0 0) b0 b1 b2 b3 ∧ Keep w w' (fun k => k = g ∨ k = q)) := ⟨by
    have e : (ys.length : Int) + 4 - 4 = ys.length := by omega
    have := payloadLen_calls ((ys.length : Int) + 4) h h0 h1 h2 h3 hN (by omega) (by omega)
    rw [e] at this
    exact this⟩
  have HS := Aside0.mk hsrc
  have HF := Aside0.mk hfit
  have HN := Aside0.mk hne
  have HE := Aside0.mk heof
  have HG := Aside0.mk (And.intro hg1 hq1)
  have z1 : (ys.length == 0) = false := by rw [beq_eq_false_iff_ne]; omega
  have z2 : decide (0 < ys.length) = true := by simpa using hy0
  have HY := Aside0.mk (And.intro hy0 hy1)
  clear h h0 h1 h2 h3 hN hsrc hfit hne heof hg1 hq1
  go_enter Tryd.func48, Tryd.ntmps48
  go_wp2_with (go_at_call 63; refine HP.out.mono ?_; rintro e w1 ⟨rfl, hr1, hs1, hk1⟩; have HR1 := Aside0.mk hr1; have HS1 := Aside0.mk hs1; have HK1 := Aside0.mk hk1; have f1 := hs1.f 1; have c1 := hs1.c1; clear hr1 hs1 hk1)
  obtain ⟨W2, hW2⟩ : ∃ W2, W2 = w1.setCell ⟨q, 1, none⟩ .nilIface := ⟨_, rfl⟩
  rw [← hW2]
  have HS2 : Aside0 (Scn W2 q g .nilIface (.slice none 0 0) b0 b1 b2 b3) := ⟨by rw [hW2]; exact HS1.out.set1 _⟩
  have HR2 : Aside0 (Rdr W2 g A n cap (i + 4) (-1)) := ⟨by rw [hW2]; exact set_other 1 _ H.out.ne.symm HR1.out⟩
  have HK2 : Aside0 (Keep w W2 (fun k => k = g ∨ k = q)) := ⟨by rw [hW2]; exact HK1.out.setCell (a := ⟨q, 1, none⟩) (.inl (Or.inr rfl)) _⟩
  clear hW2 f1 c1 HR1 HS1 HK1 HP
  have c0 := HS2.out.c0
  have c1 := HS2.out.c1
  have c2 := HS2.out.c2
  have f2 := HS2.out.f 2
  have ce : W2.cell? ⟨1, 0, none⟩ = some (.iface te (.pointer (some a1))) := HK2.out.cell HE.out (fun hk => hk.elim HG.out.1 HG.out.2)
  have kq := fun W => run_eql_iface_nil_left (P := Tryd.prog) W te (.pointer (some a1)) info60
  have hqs : q < W2.heap.size := World.block_lt_of_cell? W2 _ c0
  have ca : ∀ k o, ((W2.drewN k).alloc o).cell? ⟨q, 2, none⟩ = some (.slice none 0 0) := fun k o => cell_of (alloc_old (w := W2.drewN k) HS2.out o) 2 rfl
  have fa : ∀ k o, ((W2.drewN k).alloc o).frozen? ⟨q, 2, none⟩ = false := fun k o => frozen_of (alloc_old (w := W2.drewN k) HS2.out o) 2
  obtain ⟨Z, hZ, hmake⟩ := make_bytes ys.length (by omega)
  have HZ := Aside0.mk hZ
  clear hZ
  go_quiet (fail)
  go_wp2_with fail
  obtain ⟨W3, hW3⟩ : ∃ W3, W3 = ((W2.drewN nq).alloc (.cells Z 5)).setCell ⟨q, 2, none⟩ (.slice (some ⟨W2.heap.size, 0, none⟩) 0 ys.length) := ⟨_, rfl⟩
  rw [← hW3]
  obtain ⟨pb, hpb⟩ : ∃ pb, pb = W2.heap.size := ⟨_, rfl⟩
  rw [← hpb]
  have HPB : Aside0 (w.heap.size ≤ pb ∧ pb ≠ q ∧ pb ≠ g ∧ pb ≠ A.block) := ⟨by
    have h1 := HK2.out.size
    have h2 : g < W2.heap.size := World.block_lt_of_cell? W2 _ HR2.out.c0
    have h3 : A.block < W2.heap.size := by
      obtain ⟨v, hv⟩ : ∃ v, (vals ys)[0]? = some v := ⟨(vals ys)[0]'(by rw [vals_length]; exact HY.out.1), by rw [List.getElem?_eq_getElem]⟩
      have := World.block_lt_of_cell? w _ (HS.out 0 v hv)
      rw [add_block] at this
      omega
    refine ⟨by omega, by omega, by omega, by omega⟩⟩
  have HS3 : Aside0 (Scn W3 q g .nilIface (.slice (some ⟨pb, 0, none⟩) 0 ys.length) b0 b1 b2 b3) := ⟨by rw [hW3, hpb]; exact Scn.set2 (alloc_old (w := W2.drewN nq) HS2.out _) _⟩
  have HR3 : Aside0 (Rdr W3 g A n cap (i + 4) (-1)) := ⟨by rw [hW3]; exact set_other 2 _ H.out.ne.symm (alloc_old (w := W2.drewN nq) HR2.out _)⟩
  have HB3 : Aside0 (W3.heap[pb]? = some (.cells Z 5 (0, 0))) := ⟨by rw [hW3]; exact set_other 2 _ HPB.out.2.1 (by rw [hpb]; exact heap_alloc_new (W2.drewN nq) (.cells Z 5))⟩
  have HK3 : Aside0 (Keep w W3 (fun k => k = g ∨ k = q)) := ⟨by rw [hW3]; exact Keep.setCell (a := ⟨q, 2, none⟩) ((HK2.out.drewN nq).alloc _) (.inl (Or.inr rfl)) _⟩
  clear hW3 hpb c0 c1 c2 f2 ce HS2 HR2 HK2 hqs ca fa hmake
  have HASK : Aside0 (∀ k, Ask (W3.drewN k) g A n cap (i + 4) (-1) pb 0 ys.length ys.length Z.toList 5 (vals ys)) := ⟨fun k => ⟨HR3.out, by simpa using HB3.out, HPB.out.2.2.1, fun e => HPB.out.2.2.2 e.symm, H.out.A2, fun j v hv => HK3.out.cell (HS.out j v hv) (by rw [add_block]; exact fun hk => hk.elim H.out.A2 H.out.A1), vals_length ys, vals_one ys, HY.out.1, HF.out, H.out.ncap, H.out.capl, by simp [HZ.out], Nat.le_refl _⟩⟩
  have HC : Aside0 (∀ k, Calls Tryd.prog 64 #[.iface 62 (.pointer (some ⟨g, 0, none⟩)), .slice (some ⟨pb, 0, none⟩) ys.length ys.length] (W3.drewN k) fun e w' => e = .returned (.tuple #[.int .i64 (ys.length : Int), .nilIface]) ∧ Rdr w' g A n cap (i + 4 + ys.length) (-1) ∧ Scn w' q g .nilIface (.slice (some ⟨pb, 0, none⟩) 0 ys.length) b0 b1 b2 b3 ∧ w'.heap[pb]? = some (.cells (vals ys).toArray 5 (0, 0)) ∧ Keep w w' (fun k => k = g ∨ k = q)) := ⟨fun k => by
    refine (readFull_calls (HASK.out k)).mono fun e w' ⟨he, hg⟩ => ⟨he, hg.rdr, ?_, ?_, ?_⟩
    · exact (hg.keep.block q (World.block_lt_of_cell? W3 _ HS3.out.c0) (fun hk => hk.elim H.out.ne (fun e => HPB.out.2.1 e.symm))).trans HS3.out
    · have := hg.blk
      have e : splice Z.toList 0 (vals ys) = vals ys := by
        unfold splice
        have : Z.toList.drop (0 + (vals ys).length) = [] := List.drop_eq_nil_of_le (by rw [vals_length]; simp [HZ.out])
        rw [this]; simp
      rw [e] at this
      exact this
    · exact HK3.out.trans (keep_of_drawn hg.keep) (fun j hj hk => hk.elim Or.inl (fun e => absurd HPB.out.1 (by omega)))⟩
  clear HASK HB3 HK3
  have c0 := HS3.out.c0
  have c1 := HS3.out.c1
  have c2 := HS3.out.c2
  go_region_held3 (fun w' => w'.cell? ⟨q, 0, none⟩ = some (.iface 62 (.pointer (some ⟨g, 0, none⟩))) ∧ w'.cell? ⟨q, 2, none⟩ = some (.slice (some ⟨pb, 0, none⟩) 0 ys.length)) (first | go_keep | (exact ⟨c0, c2⟩) | (exact k2) | (exact ⟨(HS4.out.set1 _).c0, (HS4.out.set1 _).c2⟩)) ((go_at_call 64; refine (HC.out _).mono ?_; rintro e w4 ⟨rfl, hr4, hs4, hb4, hk4⟩; have HR4 := Aside0.mk hr4; have HS4 := Aside0.mk hs4; have HB4 := Aside0.mk hb4; have HK4 := Aside0.mk hk4; clear hr4 hs4 hb4 hk4; have k1 := HS4.out.c1; have fk := HS4.out.f 1; have k2 : w4.cell? ⟨q, 0, none⟩ = some (.iface 62 (.pointer (some ⟨g, 0, none⟩))) ∧ w4.cell? ⟨q, 2, none⟩ = some (.slice (some ⟨pb, 0, none⟩) 0 ys.length) := ⟨HS4.out.c0, HS4.out.c2⟩))
  obtain ⟨W5, hW5⟩ : ∃ W5, W5 = w4.setCell ⟨q, 1, none⟩ .nilIface := ⟨_, rfl⟩
  rw [← hW5]
  have HS5 : Aside0 (Scn W5 q g .nilIface (.slice (some ⟨pb, 0, none⟩) 0 ys.length) b0 b1 b2 b3) := ⟨by rw [hW5]; exact HS4.out.set1 _⟩
  have HR5 : Aside0 (Rdr W5 g A n cap (i + 4 + ys.length) (-1)) := ⟨by rw [hW5]; exact set_other 1 _ H.out.ne.symm HR4.out⟩
  have HB5 : Aside0 (W5.heap[pb]? = some (.cells (vals ys).toArray 5 (0, 0))) := ⟨by rw [hW5]; exact set_other 1 _ HPB.out.2.1 HB4.out⟩
  have HK5 : Aside0 (Keep w W5 (fun k => k = g ∨ k = q)) := ⟨by rw [hW5]; exact Keep.setCell (a := ⟨q, 1, none⟩) HK4.out (.inl (Or.inr rfl)) _⟩
  clear hW5 c0 c1 c2 k1 fk k2 HS4 HR4 HB4 HK4 HS3 HR3 HC
  have c0 := HS5.out.c0
  have c1 := HS5.out.c1
  have c2 := HS5.out.c2
  have f2 := HS5.out.f 2
  go_wp2_with fail
  obtain ⟨W6, hW6⟩ : ∃ W6, W6 = W5.setCell ⟨q, 2, none⟩ (.slice (some ⟨pb, 0, none⟩) ys.length ys.length) := ⟨_, rfl⟩
  rw [← hW6]
  have HS6 : Aside0 (Scn W6 q g .nilIface (.slice (some ⟨pb, 0, none⟩) ys.length ys.length) b0 b1 b2 b3) := ⟨by rw [hW6]; exact HS5.out.set2 _⟩
  have HR6 : Aside0 (Rdr W6 g A n cap (i + 4 + ys.length) (-1)) := ⟨by rw [hW6]; exact set_other 2 _ H.out.ne.symm HR5.out⟩
  have HB6 : Aside0 (W6.heap[pb]? = some (.cells (vals ys).toArray 5 (0, 0))) := ⟨by rw [hW6]; exact set_other 2 _ HPB.out.2.1 HB5.out⟩
  have HK6 : Aside0 (Keep w W6 (fun k => k = g ∨ k = q)) := ⟨by rw [hW6]; exact Keep.setCell (a := ⟨q, 2, none⟩) HK5.out (.inl (Or.inr rfl)) _⟩
  clear hW6 c0 c1 c2 f2 HS5 HR5 HB5 HK5
  have HC6 : Aside0 (∀ k, Calls Tryd.prog 66 #[] (W6.drewN k) fun e w' => ∃ eb, e = .returned (.slice (some ⟨eb, 0, none⟩) 4 4) ∧ w'.heap[eb]? = some (.cells (vals errBytes).toArray 5 (4, 5)) ∧ Scn w' q g .nilIface (.slice (some ⟨pb, 0, none⟩) ys.length ys.length) b0 b1 b2 b3 ∧ Rdr w' g A n cap (i + 4 + ys.length) (-1) ∧ w'.heap[pb]? = some (.cells (vals ys).toArray 5 (0, 0)) ∧ Keep w w' (fun k => k = g ∨ k = q)) := ⟨fun k => by
    refine (errPrefix_calls _).mono fun e w' ⟨he, hw⟩ => ⟨_, he, ?_, ?_, ?_, ?_, ?_⟩
    · rw [hw]; exact heap_alloc_new (W6.drewN k) _
    · rw [hw]; exact alloc_old (w := W6.drewN k) HS6.out _
    · rw [hw]; exact alloc_old (w := W6.drewN k) HR6.out _
    · rw [hw]; exact alloc_old (w := W6.drewN k) HB6.out _
    · rw [hw]; exact (HK6.out.drewN k).alloc _⟩
  have c2 := HS6.out.c2
  have hyl : ys.length ≤ 140737488355328 := by omega
  clear HR6 HB6 HK6
  go_region_held3 (fun w' => w'.cell? ⟨q, 2, none⟩ = some (.slice (some ⟨pb, 0, none⟩) ys.length ys.length)) (first | go_keep | (exact c2) | (exact k2)) ((first
    | (go_at_call 66; refine (HC6.out _).mono ?_; rintro e w7 ⟨eb, rfl, he7, hs7, hr7, hb7, hk7⟩; have HE7 := Aside0.mk he7; have HS7 := Aside0.mk hs7; have HR7 := Aside0.mk hr7; have HB7 := Aside0.mk hb7; have HK7 := Aside0.mk hk7; have HP7 := Aside0.mk (noPrefix_at (w := w7) hb7 he7 hyl HN.out); clear he7 hs7 hr7 hb7 hk7; have k2 := HS7.out.c2)
    | (go_at_call 65; (first | refine (HP7.out 0).mono ?_ | refine (HP7.out _).mono ?_); rintro e w8 ⟨rfl, hd8⟩; have HD8 := Aside0.mk hd8; clear hd8; have k2 := drawn_cell HD8.out HS7.out.c2)))
  go_wp2_with fail
  go_ret
  obtain ⟨m8, rfl⟩ := HD8.out.out
  exact ⟨rfl, pb, HPB.out.1, HR7.out, HS7.out, HB7.out, HK7.out.drewN m8⟩
end Go.Proofs.YtbgimkjodpjnfaaDoor.Proto
