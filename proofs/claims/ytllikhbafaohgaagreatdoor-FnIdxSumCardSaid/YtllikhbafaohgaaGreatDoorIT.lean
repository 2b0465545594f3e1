/- Decode of an index. -/
import Derived.Test.YtllikhbafaohgaaGreatDoorIS
namespace Go.Proofs.YtllikhbafaohgaaGreatDoor.Idx
open Go.RowKit Go.Proofs.YtllikhbafaohgaaGreatDoorW.PrintWords Go.Proofs.YtllikhbafaohgaaGreatDoorW.PrintLast Go.Proofs.YtllikhbafaohgaaGreatDoorW.PrintMore
set_option linter.unusedVariables false
set_option linter.unusedSimpArgs false

def idxCells (ver : Int) : Array Value := #[.int .u32 ver, .slice none 0 0, .pointer none, .pointer none, .pointer none, .int .i64 0, .int .i64 0, .int .i64 0]
/-- A decoder that has read nothing, and an empty index. -/
structure Ready (w : World) (d : DC) (k x p2 : Nat) (v : Value) (q7 : Addr) : Prop where
  ok : d.Ok
  st : St w d 0 v
  dec : Dcd w d k (.pointer none) p2
  kF : Free d v k
  idx : w.heap[x]? = some (.cells (idxCells 0) 47 (0, 0))
  xF : Free d v x
  kx : k ≠ x
  k22 : 22 ≤ k
  x22 : 22 ≤ x
  eof : w.cell? ⟨7, 0, none⟩ = some (.iface 179 (.pointer (some q7)))
theorem Ready.glob {w : World} {d : DC} {k x p2 : Nat} {v : Value} {q7 : Addr} (h : Ready w d k x p2 v q7) {j : Nat} (hj : j < 22) : ¬ (Fr0 d v j ∨ j = k ∨ j = x) := fun hF => by
  have := h.k22
  have := h.x22
  rcases hF with hF | e | e
  · exact St.glob h.ok h.st hj hF
  · omega
  · omega
set_option maxHeartbeats 8000000 in
set_option maxRecDepth 100000 in
/-- Another head: the error that tells of it. -/
theorem decode_head {w : World} {d : DC} {k x p2 : Nat} {v u : Value} {q7 : Addr} (R : Ready w d k x p2 v q7) (hn : 8 ≤ d.c.n) (hD : d.c.D.take 4 ≠ [68, 73, 82, 67]) (hu : w.cell? ⟨0, 0, none⟩ = some u) (hu1 : ∃ t a, u = .iface t (.pointer (some a))) :
    Calls Tryz.prog 16 #[.pointer (some ⟨k, 0, none⟩), .pointer (some ⟨x, 0, none⟩)] w fun e w' => e = .returned u ∧ Keep w w' (fun j => Fr0 d v j ∨ j = k ∨ j = x) := by
  have HC := Aside0.mk (header_bad R.ok R.st hn hD hu)
  have HR := Aside0.mk R
  have k1 := R.dec.c1
  obtain ⟨tu, au, rfl⟩ := hu1
  clear R hD hu
  go_enter Tryz.func16, Tryz.ntmps16
  go_wp2_with (go_at_call 28; refine HC.out.mono ?_; rintro e w2 ⟨rfl, hk2⟩; have HK2 := Aside0.mk hk2; have hx2 : w2.heap[x]? = some (.cells (idxCells 0) 47 (0, 0)) := (hk2.block x (lt_of_block HR.out.idx) HR.out.xF.fr0).trans HR.out.idx; have x0 : w2.cell? ⟨x, 0, none⟩ = some (.int .u32 0) := cell_of hx2 0 rfl; have f0 : w2.frozen? ⟨x, 0, none⟩ = false := frozen_of hx2 0; clear hk2 hx2)
  go_ret
  exact ⟨rfl, Keep.setCell (F := fun j => Fr0 d v j ∨ j = k ∨ j = x) (a := ⟨x, 0, none⟩) (HK2.out.mono (fun _ h => Or.inl h)) (.inl (Or.inr (Or.inr rfl))) _⟩
set_option maxHeartbeats 8000000 in
set_option maxRecDepth 100000 in
theorem decode_good {w : World} {d : DC} {k x p2 cnt : Nat} {pos len : Nat → Nat} {v : Value} {q7 : Addr} (R : Ready w d k x p2 v q7) (hD : d.c.D.take 4 = [68, 73, 82, 67]) (hv : bigOf ((d.c.D.drop 4).take 4) % 4294967296 = 2) (hc : bigOf ((d.c.D.drop 8).take 4) % 4294967296 = (cnt : Int)) (hcnt : cnt ≤ 1000) (hL : Lay d.c.D d.c.n cnt pos len) (h0 : pos 0 = 12) (hend : pos cnt + 20 = d.c.n) (hS : (d.c.D.drop (pos cnt)).take 20 = sha1Of (d.c.D.take (pos cnt))) :
    Calls Tryz.prog 16 #[.pointer (some ⟨k, 0, none⟩), .pointer (some ⟨x, 0, none⟩)] w fun e w' => e = .returned .nilIface ∧ (∃ M ev ps, EntS w' M x ev ps ∧ ps.length = cnt ∧ w.heap.size ≤ M) ∧ Keep w w' (fun j => Fr0 d v j ∨ j = k ∨ j = x) := by
  have hn12 : 12 ≤ d.c.n := by have := hL.le 0 (by omega); omega
  have HC := Aside0.mk (header_good R.ok R.st (by omega) hD hv)
  have HR := Aside0.mk R
  have HCn := Aside0.mk hc
  have HL := Aside0.mk hL
  have HP := Aside0.mk (⟨h0, hend⟩ : pos 0 = 12 ∧ pos cnt + 20 = d.c.n)
  have HEq := Aside0.mk hS
  
  have HN := Aside0.mk hn12
  have k1 := R.dec.c1
  clear R hD hv hc hL h0 hend hS hn12 
  go_enter Tryz.func16, Tryz.ntmps16
  go_upto_region 3 with (go_at_call 28; refine HC.out.mono ?_; rintro e w2 ⟨rfl, v2, hs2, ho2, hk2⟩; have HS2 := Aside0.mk hs2; have HO2 := Aside0.mk ho2; have HK2 := Aside0.mk hk2; have HX2 : Aside0 (w2.heap[x]? = some (.cells (idxCells 0) 47 (0, 0))) := ⟨(hk2.block x (lt_of_block HR.out.idx) HR.out.xF.fr0).trans HR.out.idx⟩; have x0 : w2.cell? ⟨x, 0, none⟩ = some (.int .u32 0) := cell_of HX2.out 0 rfl; have f0 : w2.frozen? ⟨x, 0, none⟩ = false := frozen_of HX2.out 0; clear hs2 ho2 hk2)
  obtain ⟨W3, hW3⟩ : ∃ W3, W3 = w2.setCell ⟨x, 0, none⟩ (.int .u32 2) := ⟨_, rfl⟩
  rw [← hW3]
  have hk3 : Keep w2 W3 (fun j => j = x) := by rw [hW3]; exact Keep.setCell (F := fun j => j = x) (a := ⟨x, 0, none⟩) (Keep.refl w2 _) (.inl rfl) _
  have hx3 : W3.heap[x]? = some (.cells (idxCells 2) 47 (0, 0)) := by rw [hW3]; exact set_block HX2.out 0 _
  have hxl := lt_of_block HR.out.idx
  have hkl := lt_of_block HR.out.dec
  have hxf := HR.out.xF.of HO2.out hxl
  have hkf := HR.out.kF.of HO2.out hkl
  have hs3 : St W3 d 8 v2 := ⟨HS2.out.buf.keep hk3 hxf.g.symm hxf.p.symm hxf.bb.symm hxf.A.symm, HS2.out.hash.keep hk3 hxf.h.symm (fun j hj e => hxf.v (by rw [← e]; exact hj)), (hk3.block d.t (lt_of_block HS2.out.tee) hxf.t.symm).trans HS2.out.tee⟩
  have HS3 := Aside0.mk hs3
  have HX3 := Aside0.mk hx3
  have HK3 : Aside0 (Keep w W3 (fun j => Fr0 d v j ∨ j = k ∨ j = x)) := ⟨Keep.trans (F := fun j => Fr0 d v j ∨ j = k ∨ j = x) (HK2.out.mono (fun _ h => Or.inl h)) hk3 (fun _ _ e => .inr (.inr e))⟩
  have hd3 : Dcd W3 d k (.pointer none) p2 := (HR.out.dec.keep HK2.out HR.out.kF.fr0).keep hk3 HR.out.kx
  have HD3 := Aside0.mk hd3
  have HF := Aside0.mk (⟨hkf, hxf⟩ : Free d v2 k ∧ Free d v2 x)
  have HC4 := Aside0.mk (readUint32_calls HR.out.ok hs3 (by have := HN.out; omega))
  have k1' : W3.cell? ⟨k, 1, none⟩ = some (.iface 97 (.pointer (some ⟨d.t, 0, none⟩))) := hd3.c1
  have HKS : Aside0 (w2.heap.size ≤ W3.heap.size) := ⟨hk3.size⟩
  have HS24 : Aside0 (w.heap.size ≤ w2.heap.size) := ⟨HK2.out.size⟩
  clear hW3 hk3 hx3 hkf hxf hs3 hd3 x0 f0 k1 HX2 HS2 HK2
  rw [HCn.out] at HC4
  go_upto_region 8 with (go_at_call 29; refine HC4.out.mono ?_; rintro e w4 ⟨rfl, v4, hs4, ho4, hk4⟩; have HS4 := Aside0.mk hs4; have HO4 := Aside0.mk ho4; have HK4 := Aside0.mk hk4; clear hs4 ho4 hk4)
  have hd := HR.out.ok
  have hkf4 := HF.out.1.of HO4.out (lt_of_block HD3.out)
  have hxf4 := HF.out.2.of HO4.out (lt_of_block HX3.out)
  have hK4 : Keep w w4 (fun j => Fr0 d v j ∨ j = k ∨ j = x) := HK3.out.trans HK4.out (fun j hj hF => .inl (hF.elim Or.inl (fun hF => Or.inr (hF.elim Or.inl (fun e => (HO2.out j e.symm).elim Or.inr (fun e => by omega))))))
  have hs4 : St w4 d (pos 0) v4 := by rw [HP.out.1]; exact HS4.out
  have hd4 := HD3.out.keep HK4.out HF.out.1.fr0
  have hx4 := (HK4.out.block x (lt_of_block HX3.out) HF.out.2.fr0).trans HX3.out
  have he4 : EntS w4 w4.heap.size x (.slice none 0 0) [] := ⟨hx4, ⟨rfl, .inl ⟨rfl, none, rfl, (fun a h => by cases h)⟩⟩, (fun b hb => by cases hb), lt_of_block hx4, Nat.le_refl _⟩
  have HE := Aside0.mk (readEntries_calls hd HL.out hcnt hs4 hd4 hkf4 hxf4 HR.out.kx HR.out.k22 HR.out.x22 rfl he4 (hK4.cell HR.out.eof (HR.out.glob (j := 7) (by omega))))
  have HO24 : Aside0 (Owns w v v4) := ⟨HO2.out.trans (fun j hj => (HO4.out j hj).imp id (fun h => Nat.le_trans HKS.out h)) HS24.out⟩
  have HK4' := Aside0.mk hK4
  have HF4 := Aside0.mk (⟨hkf4, hxf4⟩ : Free d v4 k ∧ Free d v4 x)
  clear hd hkf4 hxf4 hK4 hs4 hd4 hx4 he4
  have hc1 : (0 : Int) ≤ (cnt : Int) := by omega
  go_upto_region 11 with (go_at_call 30; refine HE.out.mono ?_; rintro e w5 ⟨rfl, v5, le5, ev5, ps5, hs5, ho5, hd5, he5, hl5, hk5⟩; have HL5 := Aside0.mk hl5; have HS5 := Aside0.mk hs5; have HO5 := Aside0.mk ho5; have HD5 := Aside0.mk hd5; have HE5 := Aside0.mk he5; have HK5 := Aside0.mk hk5; clear hs5 ho5 hd5 he5 hl5 hk5)
  have hO5 : Owns w v v5 := HO24.out.trans HO5.out HK4'.out.size
  have hkf5 := HR.out.kF.of hO5 hkl
  have hK5 : Keep w w5 (fun j => Fr0 d v j ∨ j = k ∨ j = x) := HK4'.out.trans HK5.out (fun j hj hF => hF.elim (fun hF => .inl (hF.elim Or.inl (fun hF => Or.inr (hF.elim Or.inl (fun e => (HO24.out j e.symm).elim Or.inr (fun e => by omega)))))) Or.inr)
  have hu5 := hK5.cell HR.out.eof (HR.out.glob (j := 7) (by omega))
  have HX := Aside0.mk (readExtensions_good (x := x) HR.out.ok HS5.out HP.out.2 HD5.out hkf5 hu5 HEq.out )
  have HO5' := Aside0.mk hO5
  have HK5' := Aside0.mk hK5
  clear hO5 hkf5 hK5 hu5
  go_wp2_with (go_at_call 31; refine HX.out.mono ?_; rintro e w6 ⟨rfl, hk6⟩; have HK6 := Aside0.mk hk6; clear hk6)
  go_ret
  refine ⟨rfl, ⟨w4.heap.size, ev5, ps5, HE5.out.keep HK6.out (HR.out.xF.of HO5'.out hxl).fr0 (fun j hj => ?_) (fun b cs hc hM => ?_), HL5.out, HK4'.out.size⟩, HK5'.out.trans HK6.out (fun j hj hF => .inl (hF.elim Or.inl (fun hF => Or.inr (hF.elim Or.inl (fun e => (HO5'.out j e.symm).elim Or.inr (fun e => by omega))))))⟩
  · obtain ⟨hM, c, hc⟩ := q_typed HE5.out.row j hj
    exact (HS5.out.free HR.out.ok hc (by decide) (Nat.le_trans HS4.out.hash.le hM)).fr0
  · exact (HS5.out.free HR.out.ok hc (by decide) (Nat.le_trans HS4.out.hash.le hM)).fr0
set_option maxHeartbeats 8000000 in
set_option maxRecDepth 100000 in
theorem decode_sum {w : World} {d : DC} {k x p2 cnt : Nat} {pos len : Nat → Nat} {v u : Value} {q7 : Addr} (R : Ready w d k x p2 v q7) (hD : d.c.D.take 4 = [68, 73, 82, 67]) (hv : bigOf ((d.c.D.drop 4).take 4) % 4294967296 = 2) (hc : bigOf ((d.c.D.drop 8).take 4) % 4294967296 = (cnt : Int)) (hcnt : cnt ≤ 1000) (hL : Lay d.c.D d.c.n cnt pos len) (h0 : pos 0 = 12) (hend : pos cnt + 20 = d.c.n) (hS : (d.c.D.drop (pos cnt)).take 20 ≠ sha1Of (d.c.D.take (pos cnt))) (hu2 : w.cell? ⟨2, 0, none⟩ = some u) :
    Calls Tryz.prog 16 #[.pointer (some ⟨k, 0, none⟩), .pointer (some ⟨x, 0, none⟩)] w fun e w' => e = .returned u ∧ Keep w w' (fun j => Fr0 d v j ∨ j = k ∨ j = x) := by
  have hn12 : 12 ≤ d.c.n := by have := hL.le 0 (by omega); omega
  have HC := Aside0.mk (header_good R.ok R.st (by omega) hD hv)
  have HR := Aside0.mk R
  have HCn := Aside0.mk hc
  have HL := Aside0.mk hL
  have HP := Aside0.mk (⟨h0, hend⟩ : pos 0 = 12 ∧ pos cnt + 20 = d.c.n)
  have HEq := Aside0.mk hS
  have HU2 := Aside0.mk hu2
  have HN := Aside0.mk hn12
  have k1 := R.dec.c1
  clear R hD hv hc hL h0 hend hS hn12 hu2
  go_enter Tryz.func16, Tryz.ntmps16
  go_upto_region 3 with (go_at_call 28; refine HC.out.mono ?_; rintro e w2 ⟨rfl, v2, hs2, ho2, hk2⟩; have HS2 := Aside0.mk hs2; have HO2 := Aside0.mk ho2; have HK2 := Aside0.mk hk2; have HX2 : Aside0 (w2.heap[x]? = some (.cells (idxCells 0) 47 (0, 0))) := ⟨(hk2.block x (lt_of_block HR.out.idx) HR.out.xF.fr0).trans HR.out.idx⟩; have x0 : w2.cell? ⟨x, 0, none⟩ = some (.int .u32 0) := cell_of HX2.out 0 rfl; have f0 : w2.frozen? ⟨x, 0, none⟩ = false := frozen_of HX2.out 0; clear hs2 ho2 hk2)
  obtain ⟨W3, hW3⟩ : ∃ W3, W3 = w2.setCell ⟨x, 0, none⟩ (.int .u32 2) := ⟨_, rfl⟩
  rw [← hW3]
  have hk3 : Keep w2 W3 (fun j => j = x) := by rw [hW3]; exact Keep.setCell (F := fun j => j = x) (a := ⟨x, 0, none⟩) (Keep.refl w2 _) (.inl rfl) _
  have hx3 : W3.heap[x]? = some (.cells (idxCells 2) 47 (0, 0)) := by rw [hW3]; exact set_block HX2.out 0 _
  have hxl := lt_of_block HR.out.idx
  have hkl := lt_of_block HR.out.dec
  have hxf := HR.out.xF.of HO2.out hxl
  have hkf := HR.out.kF.of HO2.out hkl
  have hs3 : St W3 d 8 v2 := ⟨HS2.out.buf.keep hk3 hxf.g.symm hxf.p.symm hxf.bb.symm hxf.A.symm, HS2.out.hash.keep hk3 hxf.h.symm (fun j hj e => hxf.v (by rw [← e]; exact hj)), (hk3.block d.t (lt_of_block HS2.out.tee) hxf.t.symm).trans HS2.out.tee⟩
  have HS3 := Aside0.mk hs3
  have HX3 := Aside0.mk hx3
  have HK3 : Aside0 (Keep w W3 (fun j => Fr0 d v j ∨ j = k ∨ j = x)) := ⟨Keep.trans (F := fun j => Fr0 d v j ∨ j = k ∨ j = x) (HK2.out.mono (fun _ h => Or.inl h)) hk3 (fun _ _ e => .inr (.inr e))⟩
  have hd3 : Dcd W3 d k (.pointer none) p2 := (HR.out.dec.keep HK2.out HR.out.kF.fr0).keep hk3 HR.out.kx
  have HD3 := Aside0.mk hd3
  have HF := Aside0.mk (⟨hkf, hxf⟩ : Free d v2 k ∧ Free d v2 x)
  have HC4 := Aside0.mk (readUint32_calls HR.out.ok hs3 (by have := HN.out; omega))
  have k1' : W3.cell? ⟨k, 1, none⟩ = some (.iface 97 (.pointer (some ⟨d.t, 0, none⟩))) := hd3.c1
  have HKS : Aside0 (w2.heap.size ≤ W3.heap.size) := ⟨hk3.size⟩
  have HS24 : Aside0 (w.heap.size ≤ w2.heap.size) := ⟨HK2.out.size⟩
  clear hW3 hk3 hx3 hkf hxf hs3 hd3 x0 f0 k1 HX2 HS2 HK2
  rw [HCn.out] at HC4
  go_upto_region 8 with (go_at_call 29; refine HC4.out.mono ?_; rintro e w4 ⟨rfl, v4, hs4, ho4, hk4⟩; have HS4 := Aside0.mk hs4; have HO4 := Aside0.mk ho4; have HK4 := Aside0.mk hk4; clear hs4 ho4 hk4)
  have hd := HR.out.ok
  have hkf4 := HF.out.1.of HO4.out (lt_of_block HD3.out)
  have hxf4 := HF.out.2.of HO4.out (lt_of_block HX3.out)
  have hK4 : Keep w w4 (fun j => Fr0 d v j ∨ j = k ∨ j = x) := HK3.out.trans HK4.out (fun j hj hF => .inl (hF.elim Or.inl (fun hF => Or.inr (hF.elim Or.inl (fun e => (HO2.out j e.symm).elim Or.inr (fun e => by omega))))))
  have hs4 : St w4 d (pos 0) v4 := by rw [HP.out.1]; exact HS4.out
  have hd4 := HD3.out.keep HK4.out HF.out.1.fr0
  have hx4 := (HK4.out.block x (lt_of_block HX3.out) HF.out.2.fr0).trans HX3.out
  have he4 : EntS w4 w4.heap.size x (.slice none 0 0) [] := ⟨hx4, ⟨rfl, .inl ⟨rfl, none, rfl, (fun a h => by cases h)⟩⟩, (fun b hb => by cases hb), lt_of_block hx4, Nat.le_refl _⟩
  have HE := Aside0.mk (readEntries_calls hd HL.out hcnt hs4 hd4 hkf4 hxf4 HR.out.kx HR.out.k22 HR.out.x22 rfl he4 (hK4.cell HR.out.eof (HR.out.glob (j := 7) (by omega))))
  have HO24 : Aside0 (Owns w v v4) := ⟨HO2.out.trans (fun j hj => (HO4.out j hj).imp id (fun h => Nat.le_trans HKS.out h)) HS24.out⟩
  have HK4' := Aside0.mk hK4
  have HF4 := Aside0.mk (⟨hkf4, hxf4⟩ : Free d v4 k ∧ Free d v4 x)
  clear hd hkf4 hxf4 hK4 hs4 hd4 hx4 he4
  have hc1 : (0 : Int) ≤ (cnt : Int) := by omega
  go_upto_region 11 with (go_at_call 30; refine HE.out.mono ?_; rintro e w5 ⟨rfl, v5, le5, ev5, ps5, hs5, ho5, hd5, he5, hl5, hk5⟩; have HL5 := Aside0.mk hl5; have HS5 := Aside0.mk hs5; have HO5 := Aside0.mk ho5; have HD5 := Aside0.mk hd5; have HE5 := Aside0.mk he5; have HK5 := Aside0.mk hk5; clear hs5 ho5 hd5 he5 hl5 hk5)
  have hO5 : Owns w v v5 := HO24.out.trans HO5.out HK4'.out.size
  have hkf5 := HR.out.kF.of hO5 hkl
  have hK5 : Keep w w5 (fun j => Fr0 d v j ∨ j = k ∨ j = x) := HK4'.out.trans HK5.out (fun j hj hF => hF.elim (fun hF => .inl (hF.elim Or.inl (fun hF => Or.inr (hF.elim Or.inl (fun e => (HO24.out j e.symm).elim Or.inr (fun e => by omega)))))) Or.inr)
  have hu5 := hK5.cell HR.out.eof (HR.out.glob (j := 7) (by omega))
  have HX := Aside0.mk (readExtensions_bad (u := u) (x := x) HR.out.ok HS5.out HP.out.2 HD5.out hkf5 hu5 HEq.out (hK5.cell HU2.out (HR.out.glob (j := 2) (by omega))))
  have HO5' := Aside0.mk hO5
  have HK5' := Aside0.mk hK5
  clear hO5 hkf5 hK5 hu5
  go_wp2_with (go_at_call 31; refine HX.out.mono ?_; rintro e w6 ⟨rfl, hk6⟩; have HK6 := Aside0.mk hk6; clear hk6)
  go_ret
  exact ⟨rfl, HK5'.out.trans HK6.out (fun j hj hF => .inl (hF.elim Or.inl (fun hF => Or.inr (hF.elim Or.inl (fun e => (HO5'.out j e.symm).elim Or.inr (fun e => by omega))))))⟩
end Go.Proofs.YtllikhbafaohgaaGreatDoor.Idx
