/- One packet line is scanned, over whatever reader; the scan at the end; the scanner's small functions. -/
import Derived.Test.YtomdhahnfejfpaaDoorNE
import Derived.LaidEql
namespace Go.Proofs.YtomdhahnfejfpaaDoor.Proto
open Go.RowKit Go.Proofs.YtomdhahnfejfpaaDoorW.PrintWords Go.Proofs.YtomdhahnfejfpaaDoorW.PrintLast Go.Proofs.YtomdhahnfejfpaaDoorW.PrintMore Go.Proofs.YtomdhahnfejfpaaDoor.PFnProtoNak

/-- The scanner at block q. -/
def Scn (w : World) (q : Nat) (rv ev pv : Value) (y0 y1 y2 y3 : Int) : Prop := w.heap[q]? = some (.cells #[rv, ev, pv, .int .u8 y0, .int .u8 y1, .int .u8 y2, .int .u8 y3] 58 (0, 0))
section
variable {w : World} {q : Nat} {rv ev pv : Value} {y0 y1 y2 y3 : Int}
theorem Scn.c0 (h : Scn w q rv ev pv y0 y1 y2 y3) : w.cell? ⟨q, 0, none⟩ = some rv := cell_of h 0 rfl
theorem Scn.c1 (h : Scn w q rv ev pv y0 y1 y2 y3) : w.cell? ⟨q, 1, none⟩ = some ev := cell_of h 1 rfl
theorem Scn.c2 (h : Scn w q rv ev pv y0 y1 y2 y3) : w.cell? ⟨q, 2, none⟩ = some pv := cell_of h 2 rfl
theorem Scn.f (h : Scn w q rv ev pv y0 y1 y2 y3) (j : Nat) : w.frozen? ⟨q, j, none⟩ = false := frozen_of h j
theorem Scn.set1 (h : Scn w q rv ev pv y0 y1 y2 y3) (v : Value) : Scn (w.setCell ⟨q, 1, none⟩ v) q rv v pv y0 y1 y2 y3 := set_block h 1 v
theorem Scn.set2 (h : Scn w q rv ev pv y0 y1 y2 y3) (v : Value) : Scn (w.setCell ⟨q, 2, none⟩ v) q rv ev v y0 y1 y2 y3 := set_block h 2 v
end
theorem info35 : Tryd.prog.underlying 35 = some (.interface #[("Error", 53)]) := Tryd.underlying35

theorem noPrefix_at {w : World} {pb eb : Nat} {ys : List UInt8} (hb : w.heap[pb]? = some (.cells (vals ys).toArray 5 (0, 0))) (he : w.heap[eb]? = some (.cells (vals errBytes).toArray 5 (4, 5))) (hm : ys.length ≤ 140737488355328) (hne : ys.take 4 ≠ errBytes) :
    ∀ k, Calls Tryd.prog 22 #[.slice (some ⟨pb, 0, none⟩) ys.length ys.length, .slice (some ⟨eb, 0, none⟩) 4 4] (w.drewN k) fun e w' => e = .returned (.bool false) ∧ Drawn0 w w' :=
  fun k => (noPrefix_calls pb ys.length ys eb (w.drewN k) hb (Nat.le_refl _) hm he hne).mono fun _ _ h => ⟨h.1, drawn_trans ⟨⟨k, rfl⟩⟩ h.2⟩
theorem make_bytes (n : Nat) (hn : n ≤ 70000) : ∃ Z : Array Value, Z.size = n ∧ ∀ W : World, (Instr.makeSlice 22 (.int .i64 0) (.int .i64 (n : Int))).run Tryd.prog W = .ok (.slice (some ⟨W.heap.size, 0, none⟩) 0 n) (W.alloc (.cells Z 5)) := by
  obtain ⟨i, hi, hz, hs, hb⟩ := info_parts info5
  refine ⟨madeCells (Value.int .u8 0).cells n, ?_, fun W => ?_⟩
  · rw [size_madeCells]
  · have := run_makeSlice (P := Tryd.prog) W 22 5 i (.int .u8 0) Tryd.underlying22 hi hz .i64 .i64 0 n (by omega) (by omega) (by rw [hs]; omega) (by rw [hb]; omega) (by omega)
    rw [hs] at this
    simpa using this
set_option maxHeartbeats 8000000 in
set_option maxRecDepth 100000 in
theorem scan_gen {w : World} {q : Nat} {rv : Value} {b0 b1 b2 b3 : Int} {te : TypeId} {a1 : Addr} (ys : List UInt8) {R1 R2 : World → Prop} {M : Nat → Prop}
    (hP : Calls Tryd.prog 20 #[.pointer (some ⟨q, 0, none⟩)] w fun e w' => e = .returned (.tuple #[.int .i64 (ys.length : Int), .nilIface]) ∧ Scn w' q rv .nilIface (.slice none 0 0) b0 b1 b2 b3 ∧ R1 w' ∧ Keep w w' (fun k => M k ∨ k = q))
    (hcl1 : ∀ w1 w2, R1 w1 → Keep w1 w2 (fun k => k = q) → R1 w2) (hcl2 : ∀ w1 w2, R2 w1 → Keep w1 w2 (fun k => k = q) → R2 w2)
    (hRead : ∀ (W : World) (pb : Nat) (Z : Array Value), R1 W → Keep w W (fun k => M k ∨ k = q) → w.heap.size ≤ pb → W.heap[pb]? = some (.cells Z 5 (0, 0)) → Z.size = ys.length → Calls Tryd.prog 21 #[rv, .slice (some ⟨pb, 0, none⟩) ys.length ys.length] W fun e w' => e = .returned (.tuple #[.int .i64 (ys.length : Int), .nilIface]) ∧ R2 w' ∧ w'.heap[pb]? = some (.cells (vals ys).toArray 5 (0, 0)) ∧ Keep W w' (fun k => M k ∨ k = pb))
    (hMq : ¬ M q) (hy0 : 0 < ys.length) (hy1 : ys.length ≤ 65520) (hne : ys.take 4 ≠ errBytes) (heof : w.cell? ⟨0, 0, none⟩ = some (.iface te (.pointer (some a1)))) (hM0 : ¬ M 0) (hq1 : 0 ≠ q) (hqw : q < w.heap.size) :
    Calls Tryd.prog 14 #[.pointer (some ⟨q, 0, none⟩)] w fun e w' => e = .returned (.bool true) ∧ ∃ pb, w.heap.size ≤ pb ∧ R2 w' ∧ Scn w' q rv .nilIface (.slice (some ⟨pb, 0, none⟩) ys.length ys.length) b0 b1 b2 b3 ∧ w'.heap[pb]? = some (.cells (vals ys).toArray 5 (0, 0)) ∧ Keep w w' (fun k => M k ∨ k = q) := by
  have HP := Aside0.mk hP
  have H1 := Aside0.mk hcl1
  have H2 := Aside0.mk hcl2
  have HRd := Aside0.mk hRead
  have HMq := Aside0.mk hMq
  have HQw := Aside0.mk hqw
  have HN := Aside0.mk hne
  have HE := Aside0.mk heof
  have HG := Aside0.mk (And.intro hM0 hq1)
  have z1 : (ys.length == 0) = false := by rw [beq_eq_false_iff_ne]; omega
  have z2 : decide (0 < ys.length) = true := by simpa using hy0
  have HY := Aside0.mk (And.intro hy0 hy1)
  clear hP hcl1 hcl2 hRead hMq hne heof hM0 hq1 hqw
  go_enter Tryd.func14, Tryd.ntmps14
  go_wp2_with (go_at_call 20; refine HP.out.mono ?_; rintro e w1 ⟨rfl, hs1, hr1, hk1⟩; have HR1 := Aside0.mk hr1; have HS1 := Aside0.mk hs1; have HK1 := Aside0.mk hk1; have f1 := hs1.f 1; have c1 := hs1.c1; clear hr1 hs1 hk1)
  obtain ⟨W2, hW2⟩ : ∃ W2, W2 = w1.setCell ⟨q, 1, none⟩ .nilIface := ⟨_, rfl⟩
  rw [← hW2]
  have HS2 : Aside0 (Scn W2 q rv .nilIface (.slice none 0 0) b0 b1 b2 b3) := ⟨by rw [hW2]; exact HS1.out.set1 _⟩
  have HR2 : Aside0 (R1 W2) := ⟨by rw [hW2]; exact H1.out _ _ HR1.out (Keep.setCell (F := fun k => k = q) (a := ⟨q, 1, none⟩) (Keep.refl w1 _) (.inl rfl) _)⟩
  have HK2 : Aside0 (Keep w W2 (fun k => M k ∨ k = q)) := ⟨by rw [hW2]; exact HK1.out.setCell (a := ⟨q, 1, none⟩) (.inl (Or.inr rfl)) _⟩
  clear hW2 f1 c1 HR1 HS1 HK1 HP
  have c0 := HS2.out.c0
  have c1 := HS2.out.c1
  have c2 := HS2.out.c2
  have f2 := HS2.out.f 2
  have ce : W2.cell? ⟨0, 0, none⟩ = some (.iface te (.pointer (some a1))) := HK2.out.cell HE.out (fun hk => hk.elim HG.out.1 HG.out.2)
  have kq := fun W => run_eql_iface_nil_left (P := Tryd.prog) W te (.pointer (some a1)) info35
  have hqs : q < W2.heap.size := World.block_lt_of_cell? W2 _ c0
  have ca : ∀ k o, ((W2.drewN k).alloc o).cell? ⟨q, 2, none⟩ = some (.slice none 0 0) := fun k o => cell_of (alloc_old (w := W2.drewN k) HS2.out o) 2 rfl
  have fa : ∀ k o, ((W2.drewN k).alloc o).frozen? ⟨q, 2, none⟩ = false := fun k o => frozen_of (alloc_old (w := W2.drewN k) HS2.out o) 2
  obtain ⟨Z, hZ, hmake⟩ := make_bytes ys.length (by omega)
  have HZ := Aside0.mk hZ
  clear hZ
  go_quiet (fail)
  go_wp2_with fail
  obtain ⟨W3, hW3⟩ : ∃ W3, W3 = ((W2.drewN nq).alloc (.cells Z 5)).setCell ⟨q, 2, none⟩ (.slice (some ⟨W2.heap.size, 0, none⟩) 0 ys.length) := ⟨_, rfl⟩
  rw [← hW3]
  obtain ⟨pb, hpb⟩ : ∃ pb, pb = W2.heap.size := ⟨_, rfl⟩
  rw [← hpb]
  have HPB : Aside0 (w.heap.size ≤ pb ∧ pb ≠ q) := ⟨by
    have h1 := HK2.out.size
    refine ⟨by omega, by omega⟩⟩
  have HS3 : Aside0 (Scn W3 q rv .nilIface (.slice (some ⟨pb, 0, none⟩) 0 ys.length) b0 b1 b2 b3) := ⟨by rw [hW3, hpb]; exact Scn.set2 (alloc_old (w := W2.drewN nq) HS2.out _) _⟩
  have HR3 : Aside0 (R1 W3) := ⟨by rw [hW3]; exact H1.out _ _ HR2.out (Keep.setCell (F := fun k => k = q) (a := ⟨q, 2, none⟩) (((Keep.refl W2 _).drewN nq).alloc _) (.inl rfl) _)⟩
  have HB3 : Aside0 (W3.heap[pb]? = some (.cells Z 5 (0, 0))) := ⟨by rw [hW3]; exact set_other 2 _ HPB.out.2 (by rw [hpb]; exact heap_alloc_new (W2.drewN nq) (.cells Z 5))⟩
  have HK3 : Aside0 (Keep w W3 (fun k => M k ∨ k = q)) := ⟨by rw [hW3]; exact Keep.setCell (a := ⟨q, 2, none⟩) ((HK2.out.drewN nq).alloc _) (.inl (Or.inr rfl)) _⟩
  clear hW3 hpb c0 c1 c2 f2 ce HS2 HR2 HK2 hqs ca fa hmake
  have HC : Aside0 (∀ k, Calls Tryd.prog 21 #[rv, .slice (some ⟨pb, 0, none⟩) ys.length ys.length] (W3.drewN k) fun e w' => e = .returned (.tuple #[.int .i64 (ys.length : Int), .nilIface]) ∧ R2 w' ∧ Scn w' q rv .nilIface (.slice (some ⟨pb, 0, none⟩) 0 ys.length) b0 b1 b2 b3 ∧ w'.heap[pb]? = some (.cells (vals ys).toArray 5 (0, 0)) ∧ Keep w w' (fun k => M k ∨ k = q)) := ⟨fun k => by
    refine (HRd.out (W3.drewN k) pb Z (H1.out _ _ HR3.out ((Keep.refl W3 _).drewN k)) (HK3.out.drewN k) HPB.out.1 HB3.out HZ.out).mono fun e w' ⟨he, hr, hb, hg⟩ => ⟨he, hr, ?_, hb, ?_⟩
    · exact (hg.block q (World.block_lt_of_cell? W3 _ HS3.out.c0) (fun hk => hk.elim HMq.out (fun e => HPB.out.2 e.symm))).trans HS3.out
    · exact HK3.out.trans (keep_of_drawn hg) (fun j hj hk => hk.elim Or.inl (fun e => absurd HPB.out.1 (by omega)))⟩
  clear HB3 HK3
  have c0 := HS3.out.c0
  have c1 := HS3.out.c1
  have c2 := HS3.out.c2
  have HSet : Aside0 (∀ W : World, Scn W q rv .nilIface (.slice (some ⟨pb, 0, none⟩) 0 ys.length) b0 b1 b2 b3 → ((W.setCell ⟨q, 1, none⟩ .nilIface).cell? ⟨q, 0, none⟩ = some rv ∧ (W.setCell ⟨q, 1, none⟩ .nilIface).cell? ⟨q, 2, none⟩ = some (.slice (some ⟨pb, 0, none⟩) 0 ys.length))) := ⟨fun W h => ⟨(h.set1 _).c0, (h.set1 _).c2⟩⟩
  go_region_held3 (fun w' => w'.cell? ⟨q, 0, none⟩ = some rv ∧ w'.cell? ⟨q, 2, none⟩ = some (.slice (some ⟨pb, 0, none⟩) 0 ys.length)) (first | (exact ⟨c0, c2⟩) | (exact k2) | (exact HSet.out _ HS4.out) | go_keep) ((go_at_call 21; refine (HC.out _).mono ?_; rintro e w4 ⟨rfl, hr4, hs4, hb4, hk4⟩; have HR4 := Aside0.mk hr4; have HS4 := Aside0.mk hs4; have HB4 := Aside0.mk hb4; have HK4 := Aside0.mk hk4; clear hr4 hs4 hb4 hk4; have k1 := HS4.out.c1; have fk := HS4.out.f 1; have k2 : w4.cell? ⟨q, 0, none⟩ = some rv ∧ w4.cell? ⟨q, 2, none⟩ = some (.slice (some ⟨pb, 0, none⟩) 0 ys.length) := ⟨HS4.out.c0, HS4.out.c2⟩))
  obtain ⟨W5, hW5⟩ : ∃ W5, W5 = w4.setCell ⟨q, 1, none⟩ .nilIface := ⟨_, rfl⟩
  rw [← hW5]
  have HS5 : Aside0 (Scn W5 q rv .nilIface (.slice (some ⟨pb, 0, none⟩) 0 ys.length) b0 b1 b2 b3) := ⟨by rw [hW5]; exact HS4.out.set1 _⟩
  have HR5 : Aside0 (R2 W5) := ⟨by rw [hW5]; exact H2.out _ _ HR4.out (Keep.setCell (F := fun k => k = q) (a := ⟨q, 1, none⟩) (Keep.refl w4 _) (.inl rfl) _)⟩
  have HB5 : Aside0 (W5.heap[pb]? = some (.cells (vals ys).toArray 5 (0, 0))) := ⟨by rw [hW5]; exact set_other 1 _ HPB.out.2 HB4.out⟩
  have HK5 : Aside0 (Keep w W5 (fun k => M k ∨ k = q)) := ⟨by rw [hW5]; exact Keep.setCell (a := ⟨q, 1, none⟩) HK4.out (.inl (Or.inr rfl)) _⟩
  clear hW5 c0 c1 c2 k1 fk k2 HS4 HR4 HB4 HK4 HS3 HR3 HC
  have c0 := HS5.out.c0
  have c1 := HS5.out.c1
  have c2 := HS5.out.c2
  have f2 := HS5.out.f 2
  go_wp2_with fail
  obtain ⟨W6, hW6⟩ : ∃ W6, W6 = W5.setCell ⟨q, 2, none⟩ (.slice (some ⟨pb, 0, none⟩) ys.length ys.length) := ⟨_, rfl⟩
  rw [← hW6]
  have HS6 : Aside0 (Scn W6 q rv .nilIface (.slice (some ⟨pb, 0, none⟩) ys.length ys.length) b0 b1 b2 b3) := ⟨by rw [hW6]; exact HS5.out.set2 _⟩
  have HR6 : Aside0 (R2 W6) := ⟨by rw [hW6]; exact H2.out _ _ HR5.out (Keep.setCell (F := fun k => k = q) (a := ⟨q, 2, none⟩) (Keep.refl W5 _) (.inl rfl) _)⟩
  have HB6 : Aside0 (W6.heap[pb]? = some (.cells (vals ys).toArray 5 (0, 0))) := ⟨by rw [hW6]; exact set_other 2 _ HPB.out.2 HB5.out⟩
  have HK6 : Aside0 (Keep w W6 (fun k => M k ∨ k = q)) := ⟨by rw [hW6]; exact Keep.setCell (a := ⟨q, 2, none⟩) HK5.out (.inl (Or.inr rfl)) _⟩
  clear hW6 c0 c1 c2 f2 HS5 HR5 HB5 HK5
  have HC6 : Aside0 (∀ k, Calls Tryd.prog 23 #[] (W6.drewN k) fun e w' => ∃ eb, e = .returned (.slice (some ⟨eb, 0, none⟩) 4 4) ∧ w'.heap[eb]? = some (.cells (vals errBytes).toArray 5 (4, 5)) ∧ Scn w' q rv .nilIface (.slice (some ⟨pb, 0, none⟩) ys.length ys.length) b0 b1 b2 b3 ∧ R2 w' ∧ w'.heap[pb]? = some (.cells (vals ys).toArray 5 (0, 0)) ∧ Keep w w' (fun k => M k ∨ k = q)) := ⟨fun k => by
    refine (errPrefix_calls _).mono fun e w' ⟨he, hw⟩ => ⟨_, he, ?_, ?_, ?_, ?_, ?_⟩
    · rw [hw]; exact heap_alloc_new (W6.drewN k) _
    · rw [hw]; exact alloc_old (w := W6.drewN k) HS6.out _
    · rw [hw]; exact H2.out _ _ HR6.out (((Keep.refl W6 _).drewN k).alloc _)
    · rw [hw]; exact alloc_old (w := W6.drewN k) HB6.out _
    · rw [hw]; exact (HK6.out.drewN k).alloc _⟩
  have c2 := HS6.out.c2
  have hyl : ys.length ≤ 140737488355328 := by omega
  clear HR6 HB6 HK6
  go_region_held3 (fun w' => w'.cell? ⟨q, 2, none⟩ = some (.slice (some ⟨pb, 0, none⟩) ys.length ys.length)) (first | go_keep | (exact c2) | (exact k2)) ((first
    | (go_at_call 23; refine (HC6.out _).mono ?_; rintro e w7 ⟨eb, rfl, he7, hs7, hr7, hb7, hk7⟩; have HE7 := Aside0.mk he7; have HS7 := Aside0.mk hs7; have HR7 := Aside0.mk hr7; have HB7 := Aside0.mk hb7; have HK7 := Aside0.mk hk7; have HP7 := Aside0.mk (noPrefix_at (w := w7) hb7 he7 hyl HN.out); clear he7 hs7 hr7 hb7 hk7; have k2 := HS7.out.c2)
    | (go_at_call 22; (first | refine (HP7.out 0).mono ?_ | refine (HP7.out _).mono ?_); rintro e w8 ⟨rfl, hd8⟩; have HD8 := Aside0.mk hd8; clear hd8; have k2 := drawn_cell HD8.out HS7.out.c2)))
  go_wp2_with fail
  go_ret
  obtain ⟨m8, rfl⟩ := HD8.out.out
  exact ⟨rfl, pb, HPB.out.1, H2.out _ _ HR7.out ((Keep.refl w7 _).drewN m8), HS7.out, HB7.out, HK7.out.drewN m8⟩
theorem err_same (a : Addr) (W : World) : (binOp .eql 35 (.iface 98 (.pointer (some a))) (.iface 98 (.pointer (some a)))).run Tryd.prog W = .ok (.bool true) W := by
  have h1 : (Tryd.prog.info? 98).map (·.comparable) = some true := by kernel_rfl
  have h2 : (Tryd.prog.info? 100).isSome = true := by kernel_rfl
  obtain ⟨i, hi, hc⟩ := Option.map_eq_some_iff.1 h1
  obtain ⟨j, hj⟩ := Option.isSome_iff_exists.1 h2
  exact run_eql_iface_ptr_same (P := Tryd.prog) W a info35 Tryd.underlying98 hi hc hj
theorem err_other {W : World} {a b : Addr} {ca cb : Array Value} {ta tb : TypeId} (hne : a ≠ b) (ha : W.heap[a.block]? = some (.cells ca ta (0, 0))) (hb : W.heap[b.block]? = some (.cells cb tb (0, 0))) : NeErr W (.iface 98 (.pointer (some a))) (.iface 98 (.pointer (some b))) := fun m => by
  have h1 : (Tryd.prog.info? 98).map (·.comparable) = some true := by kernel_rfl
  have h2 : (Tryd.prog.info? 100).map (fun j => decide (j.size = 0)) = some false := by kernel_rfl
  obtain ⟨i, hi, hc⟩ := Option.map_eq_some_iff.1 h1
  obtain ⟨j, hj, hz⟩ := Option.map_eq_some_iff.1 h2
  exact run_eql_iface_ptr_other (P := Tryd.prog) (W.drewN m) info35 Tryd.underlying98 hi hc hj (of_decide_eq_false hz) hne ha hb

set_option maxHeartbeats 8000000 in
set_option maxRecDepth 100000 in
theorem scan_end {w : World} {g : Nat} {A : Addr} {n cap : Nat} {pr : Int} {q : Nat} {ev pv : Value} {y0 y1 y2 y3 : Int} {a1 a2 : Addr} (hr : Rdr w g A n cap n pr) (hs : Scn w q (.iface 42 (.pointer (some ⟨g, 0, none⟩))) ev pv y0 y1 y2 y3)
    (he1 : w.cell? ⟨0, 0, none⟩ = some (.iface 98 (.pointer (some a1)))) (he2 : w.cell? ⟨1, 0, none⟩ = some (.iface 98 (.pointer (some a2)))) (hne : NeErr w (.iface 98 (.pointer (some a1))) (.iface 98 (.pointer (some a2)))) (hq1 : 0 ≠ q) :
    Calls Tryd.prog 14 #[.pointer (some ⟨q, 0, none⟩)] w fun e w' => e = .returned (.bool false) ∧ Scn w' q (.iface 42 (.pointer (some ⟨g, 0, none⟩))) .nilIface pv y0 y1 y2 y3 ∧ Keep w w' (fun k => k = q) := by
  have HP := Aside0.mk (payloadLen_end (cur := #[.iface 42 (.pointer (some ⟨g, 0, none⟩)), ev, pv, .int .u8 y0, .int .u8 y1, .int .u8 y2, .int .u8 y3]) hr hs rfl he1 he2 hne)
  have HS := Aside0.mk hs
  have HE := Aside0.mk he1
  have HG := Aside0.mk hq1
  clear hr hs he1 he2 hne hq1
  go_enter Tryd.func14, Tryd.ntmps14
  go_wp2_with (go_at_call 20; refine HP.out.mono ?_; rintro e w1 ⟨rfl, hd1⟩; have HS1 : Aside0 (Scn w1 q (.iface 42 (.pointer (some ⟨g, 0, none⟩))) ev pv y0 y1 y2 y3) := ⟨by obtain ⟨m, rfl⟩ := hd1.out; exact HS.out⟩; have HE1 := Aside0.mk (drawn_cell hd1 HE.out); have HK1 : Aside0 (Keep w w1 (fun k => k = q)) := ⟨by obtain ⟨m, rfl⟩ := hd1.out; exact (Keep.refl w _).drewN m⟩; have f1 := HS1.out.f 1; have c1 := HS1.out.c1; clear hd1)
  obtain ⟨W2, hW2⟩ : ∃ W2, W2 = w1.setCell ⟨q, 1, none⟩ (.iface 98 (.pointer (some a1))) := ⟨_, rfl⟩
  rw [← hW2]
  have HS2 : Aside0 (Scn W2 q (.iface 42 (.pointer (some ⟨g, 0, none⟩))) (.iface 98 (.pointer (some a1))) pv y0 y1 y2 y3) := ⟨by rw [hW2]; exact HS1.out.set1 _⟩
  have HK2 : Aside0 (Keep w W2 (fun k => k = q)) := ⟨by rw [hW2]; exact Keep.setCell (a := ⟨q, 1, none⟩) HK1.out (.inl rfl) _⟩
  clear hW2 f1 c1 HS1 HK1 HP HE1
  have c1 := HS2.out.c1
  have f1 := HS2.out.f 1
  have ce : W2.cell? ⟨0, 0, none⟩ = some (.iface 98 (.pointer (some a1))) := HK2.out.cell HE.out (fun hk => HG.out hk)
  have kq := err_same a1
  go_quiet (fail)
  go_wp2_with fail
  go_ret
  exact ⟨rfl, Scn.set1 (w := W2.drewN nq) HS2.out _, Keep.setCell (a := ⟨q, 1, none⟩) (HK2.out.drewN nq) (.inl rfl) _⟩

set_option maxHeartbeats 1000000 in
set_option maxRecDepth 100000 in
theorem newScanner_calls (te : TypeId) (a : Addr) (w : World) : Calls Tryd.prog 12 #[.iface te (.pointer (some a))] w fun e w' => e = .returned (.pointer (some ⟨w.heap.size, 0, none⟩)) ∧ w' = w.alloc (.cells #[.iface te (.pointer (some a)), .nilIface, .slice none 0 0, .int .u8 0, .int .u8 0, .int .u8 0, .int .u8 0] 58) := by
  go_enter Tryd.func12, Tryd.ntmps12
  go_wp2_with fail
  go_ret
  exact ⟨rfl, rfl⟩
set_option maxHeartbeats 1000000 in
set_option maxRecDepth 100000 in
theorem scannerErr_calls {w : World} {q : Nat} {rv ev pv : Value} {y0 y1 y2 y3 : Int} (hs : Scn w q rv ev pv y0 y1 y2 y3) : Calls Tryd.prog 16 #[.pointer (some ⟨q, 0, none⟩)] w fun e w' => e = .returned ev ∧ w = w' := by
  have c1 := hs.c1
  clear hs
  go_enter Tryd.func16, Tryd.ntmps16
  go_wp2_with fail
  go_ret
  exact ⟨rfl, rfl⟩
set_option maxHeartbeats 1000000 in
set_option maxRecDepth 100000 in
theorem scannerBytes_calls {w : World} {q : Nat} {rv ev pv : Value} {y0 y1 y2 y3 : Int} (hs : Scn w q rv ev pv y0 y1 y2 y3) : Calls Tryd.prog 15 #[.pointer (some ⟨q, 0, none⟩)] w fun e w' => e = .returned pv ∧ w = w' := by
  have c2 := hs.c2
  clear hs
  go_enter Tryd.func15, Tryd.ntmps15
  go_wp2_with fail
  go_ret
  exact ⟨rfl, rfl⟩
end Go.Proofs.YtomdhahnfejfpaaDoor.Proto
