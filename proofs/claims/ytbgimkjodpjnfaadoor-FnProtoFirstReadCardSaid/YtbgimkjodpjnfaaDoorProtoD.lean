/- Reading the length of a packet line. -/
import Derived.Test.YtbgimkjodpjnfaaDoorProtoC
namespace Go.Proofs.YtbgimkjodpjnfaaDoor.Proto
open Go.RowKit Go.Proofs.YtbgimkjodpjnfaaDoorW.PrintWords Go.Proofs.YtbgimkjodpjnfaaDoorW.PrintLast Go.Proofs.YtbgimkjodpjnfaaDoorW.PrintMore Go.Proofs.YtbgimkjodpjnfaaDoor.PFnProtoFirstRead

/-- '==' tells the two errors apart, here and behind draws. -/
def NeErr (w : World) (x y : Value) : Prop := ∀ m, (binOp .eql 60 x y).run Tryd.prog (w.drewN m) = .ok (.bool false) (w.drewN m)
theorem NeErr.at_ {w w1 : World} {x y : Value} (h : NeErr w x y) (hd : Drawn0 w w1) : (binOp .eql 60 x y).run Tryd.prog w1 = .ok (.bool false) w1 := by
  obtain ⟨m, rfl⟩ := hd.out
  exact h m
theorem drawn_cell {w w1 : World} {a : Addr} {v : Value} (h : Drawn0 w w1) (hc : w.cell? a = some v) : w1.cell? a = some v := by
  obtain ⟨m, rfl⟩ := h.out
  exact hc
theorem alloc_old {w : World} {k : Nat} {x : Obj} (h : w.heap[k]? = some x) (o : Obj) : (w.alloc o).heap[k]? = some x := by
  rw [heap_alloc_old w o (Array.getElem?_eq_some_iff.1 h).1]; exact h
theorem Keep.alloc {w w1 : World} {F : Nat → Prop} (h : Keep w w1 F) (o : Obj) : Keep w (w1.alloc o) F :=
  h.trans (Keep.of_below (below_alloc (Below.refl _ _) o) F) (fun _ _ hk => hk)
theorem keep_of_drawn {w w1 : World} {k : Nat} {F : Nat → Prop} (h : Keep (w.drewN k) w1 F) : Keep w w1 F := ⟨h.os, h.tape, h.output, h.size, h.block⟩
set_option maxHeartbeats 4000000 in
set_option maxRecDepth 100000 in
theorem payloadLen_calls {w : World} {g : Nat} {A : Addr} {n cap i : Nat} {pr : Int} {q : Nat} {ev pv : Value} {x0 x1 x2 x3 b0 b1 b2 b3 d0 d1 d2 d3 : Int} (N : Int)
    (h : Ask w g A n cap i pr q 3 4 4 [.iface 62 (.pointer (some ⟨g, 0, none⟩)), ev, pv, .int .u8 x0, .int .u8 x1, .int .u8 x2, .int .u8 x3] 113 [.int .u8 b0, .int .u8 b1, .int .u8 b2, .int .u8 b3])
    (h0 : HexD b0 d0) (h1 : HexD b1 d1) (h2 : HexD b2 d2) (h3 : HexD b3 d3) (hN : N = 16 * (16 * (16 * d0 + d1) + d2) + d3) (hN1 : 4 < N) (hN2 : N ≤ 65524) :
    Calls Tryd.prog 63 #[.pointer (some ⟨q, 0, none⟩)] w fun e w' => e = .returned (.tuple #[.int .i64 (N - 4), .nilIface]) ∧ Rdr w' g A n cap (i + 4) (-1) ∧ w'.heap[q]? = some (.cells #[.iface 62 (.pointer (some ⟨g, 0, none⟩)), ev, pv, .int .u8 b0, .int .u8 b1, .int .u8 b2, .int .u8 b3] 113 (0, 0)) ∧ Keep w w' (fun k => k = g ∨ k = q) := by
  have HC : Aside0 (∀ k, Calls Tryd.prog 64 #[.iface 62 (.pointer (some ⟨g, 0, none⟩)), .slice (some ⟨q, 3, none⟩) 4 4] (w.drewN k) fun e w' => e = .returned (.tuple #[.int .i64 4, .nilIface]) ∧ Got (w.drewN k) g A n cap i q 3 4 [.iface 62 (.pointer (some ⟨g, 0, none⟩)), ev, pv, .int .u8 x0, .int .u8 x1, .int .u8 x2, .int .u8 x3] 113 [.int .u8 b0, .int .u8 b1, .int .u8 b2, .int .u8 b3] w') := ⟨fun k => readFull_calls (m := 4) ⟨h.rdr, h.blk, h.ne, h.A1, h.A2, h.src, h.len, h.one, h.pos, h.fits, h.ncap, h.capl, h.room, h.mc⟩⟩
  have HD : Aside0 (∀ w : World, Calls Tryd.prog 74 #[.agg #[.int .u8 b0, .int .u8 b1, .int .u8 b2, .int .u8 b3]] w fun e w' => e = .returned (.tuple #[.int .i64 N, .nilIface]) ∧ w' = w.alloc (.cells #[.int .u8 b0, .int .u8 b1, .int .u8 b2, .int .u8 b3] 111)) := ⟨fun w => by rw [hN]; exact hexDecode_calls b0 b1 b2 b3 d0 d1 d2 d3 w h0 h1 h2 h3⟩
  have c0 : w.cell? ⟨q, 0, none⟩ = some (.iface 62 (.pointer (some ⟨g, 0, none⟩))) := cell_of h.blk 0 rfl
  have e1 : decide (N = 0) = false := by simp; omega
  have e2 : decide (N ≤ 4) = false := by simp; omega
  have e3 : decide (65524 < N) = false := by simp; omega
  have e4 : (N == 0) = false := by simp; omega
  have HN := Aside0.mk (And.intro hN1 hN2)
  clear h h0 h1 h2 h3 hN hN1 hN2
  go_enter Tryd.func63, Tryd.ntmps63
  go_wp2_with fail
  go_region_held3 (fun w' => w'.cell? ⟨q, 0, none⟩ = some (.iface 62 (.pointer (some ⟨g, 0, none⟩)))) (first | go_keep | (exact c0) | (exact k2)) ((go_at_call 64; refine (HC.out _).mono ?_; rintro e w2 ⟨rfl, hg2⟩; have HR2 := Aside0.mk hg2.rdr; have HB2 : Aside0 (w2.heap[q]? = some (.cells #[.iface 62 (.pointer (some ⟨g, 0, none⟩)), ev, pv, .int .u8 b0, .int .u8 b1, .int .u8 b2, .int .u8 b3] 113 (0, 0))) := ⟨hg2.blk⟩; have HK2 := Aside0.mk hg2.keep; clear hg2; have k2 : w2.cell? ⟨q, 0, none⟩ = some (.iface 62 (.pointer (some ⟨g, 0, none⟩))) := cell_of HB2.out 0 rfl))
  have k3 : w2.cell? ⟨q, 3, none⟩ = some (.int .u8 b0) := cell_of HB2.out 3 rfl
  have k4 : w2.cell? ⟨q, 4, none⟩ = some (.int .u8 b1) := cell_of HB2.out 4 rfl
  have k5 : w2.cell? ⟨q, 5, none⟩ = some (.int .u8 b2) := cell_of HB2.out 5 rfl
  have k6 : w2.cell? ⟨q, 6, none⟩ = some (.int .u8 b3) := cell_of HB2.out 6 rfl
  clear HC c0
  go_wp2_with (go_at_call 74; refine (HD.out _).mono ?_; rintro e w3 ⟨rfl, rfl⟩)
  go_ret2
  have hw : wrap64 (N - 4) = N - 4 := by have := HN.out; unfold wrap64; omega
  rw [hw]
  exact ⟨rfl, alloc_old HR2.out _, alloc_old HB2.out _, Keep.alloc (keep_of_drawn HK2.out) _⟩

set_option maxHeartbeats 4000000 in
set_option maxRecDepth 100000 in
theorem payloadLen_end {w : World} {g : Nat} {A : Addr} {n cap : Nat} {pr : Int} {q : Nat} {cur : Array Value} {te : TypeId} {a1 a2 : Addr} (hr : Rdr w g A n cap n pr)
    (hb : w.heap[q]? = some (.cells cur 113 (0, 0))) (h0 : cur[0]? = some (.iface 62 (.pointer (some ⟨g, 0, none⟩)))) (he1 : w.cell? ⟨1, 0, none⟩ = some (.iface te (.pointer (some a1)))) (he2 : w.cell? ⟨2, 0, none⟩ = some (.iface te (.pointer (some a2)))) (hne : NeErr w (.iface te (.pointer (some a1))) (.iface te (.pointer (some a2)))) :
    Calls Tryd.prog 63 #[.pointer (some ⟨q, 0, none⟩)] w fun e w' => e = .returned (.tuple #[.int .i64 0, .iface te (.pointer (some a1))]) ∧ Drawn0 w w' := by
  have HC : Aside0 (∀ k, Calls Tryd.prog 64 #[.iface 62 (.pointer (some ⟨g, 0, none⟩)), .slice (some ⟨q, 3, none⟩) 4 4] (w.drewN k) fun e w' => e = .returned (.tuple #[.int .i64 0, .iface te (.pointer (some a1))]) ∧ Drawn0 (w.drewN k) w') := ⟨fun k => readFull_end g A n cap pr ⟨q, 3, none⟩ 4 4 te a1 (w.drewN k) hr he1 (by omega) (by omega)⟩
  have c0 : w.cell? ⟨q, 0, none⟩ = some (.iface 62 (.pointer (some ⟨g, 0, none⟩))) := cell_of hb 0 h0
  have HE := Aside0.mk he2
  have HQ := Aside0.mk hne
  clear hr hb h0 he1 he2 hne
  go_enter Tryd.func63, Tryd.ntmps63
  go_wp2_with fail
  go_region_held3 (fun w' => w'.cell? ⟨q, 0, none⟩ = some (.iface 62 (.pointer (some ⟨g, 0, none⟩)))) (first | go_keep | (exact c0) | (exact k2)) ((go_at_call 64; refine (HC.out _).mono ?_; rintro e w2 ⟨rfl, hd2⟩; have HD2 : Aside0 (Drawn0 w w2) := ⟨drawn_trans ⟨⟨_, rfl⟩⟩ hd2⟩; clear hd2; have k2 : w2.cell? ⟨q, 0, none⟩ = some (.iface 62 (.pointer (some ⟨g, 0, none⟩))) := drawn_cell HD2.out c0))
  have k4 := drawn_cell HD2.out HE.out
  have kq := HQ.out.at_ HD2.out
  clear HC c0
  go_wp2_with fail
  go_ret2
  exact ⟨rfl, HD2.out⟩
end Go.Proofs.YtbgimkjodpjnfaaDoor.Proto
