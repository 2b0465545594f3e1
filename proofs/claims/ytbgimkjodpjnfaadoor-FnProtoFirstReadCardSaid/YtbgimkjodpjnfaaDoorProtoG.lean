/- The scan at the end; the scanner's small functions. -/
import Derived.Test.YtbgimkjodpjnfaaDoorProtoF
namespace Go.Proofs.YtbgimkjodpjnfaaDoor.Proto
open Go.RowKit Go.Proofs.YtbgimkjodpjnfaaDoorW.PrintWords Go.Proofs.YtbgimkjodpjnfaaDoorW.PrintLast Go.Proofs.YtbgimkjodpjnfaaDoorW.PrintMore Go.Proofs.YtbgimkjodpjnfaaDoor.PFnProtoFirstRead

theorem err_same (a : Addr) (W : World) : (binOp .eql 60 (.iface 170 (.pointer (some a))) (.iface 170 (.pointer (some a)))).run Tryd.prog W = .ok (.bool true) W := by
  have h1 : (Tryd.prog.info? 170).map (·.comparable) = some true := by kernel_rfl
  have h2 : (Tryd.prog.info? 191).isSome = true := by kernel_rfl
  obtain ⟨i, hi, hc⟩ := Option.map_eq_some_iff.1 h1
  obtain ⟨j, hj⟩ := Option.isSome_iff_exists.1 h2
  exact run_eql_iface_ptr_same (P := Tryd.prog) W a info60 Tryd.underlying170 hi hc hj
theorem err_other {W : World} {a b : Addr} {ca cb : Array Value} {ta tb : TypeId} (hne : a ≠ b) (ha : W.heap[a.block]? = some (.cells ca ta (0, 0))) (hb : W.heap[b.block]? = some (.cells cb tb (0, 0))) : NeErr W (.iface 170 (.pointer (some a))) (.iface 170 (.pointer (some b))) := fun m => by
  have h1 : (Tryd.prog.info? 170).map (·.comparable) = some true := by kernel_rfl
  have h2 : (Tryd.prog.info? 191).map (fun j => decide (j.size = 0)) = some false := by kernel_rfl
  obtain ⟨i, hi, hc⟩ := Option.map_eq_some_iff.1 h1
  obtain ⟨j, hj, hz⟩ := Option.map_eq_some_iff.1 h2
  exact run_eql_iface_ptr_other (P := Tryd.prog) (W.drewN m) info60 Tryd.underlying170 hi hc hj (of_decide_eq_false hz) hne ha hb

set_option maxHeartbeats 8000000 in
set_option maxRecDepth 100000 in
theorem scan_end {w : World} {g : Nat} {A : Addr} {n cap : Nat} {pr : Int} {q : Nat} {ev pv : Value} {y0 y1 y2 y3 : Int} {a1 a2 : Addr} (hr : Rdr w g A n cap n pr) (hs : Scn w q g ev pv y0 y1 y2 y3)
    (he1 : w.cell? ⟨1, 0, none⟩ = some (.iface 170 (.pointer (some a1)))) (he2 : w.cell? ⟨2, 0, none⟩ = some (.iface 170 (.pointer (some a2)))) (hne : NeErr w (.iface 170 (.pointer (some a1))) (.iface 170 (.pointer (some a2)))) (hq1 : 1 ≠ q) :
    Calls Tryd.prog 48 #[.pointer (some ⟨q, 0, none⟩)] w fun e w' => e = .returned (.bool false) ∧ Scn w' q g .nilIface pv y0 y1 y2 y3 ∧ Keep w w' (fun k => k = q) := by
  have HP := Aside0.mk (payloadLen_end (cur := #[.iface 62 (.pointer (some ⟨g, 0, none⟩)), ev, pv, .int .u8 y0, .int .u8 y1, .int .u8 y2, .int .u8 y3]) hr hs rfl he1 he2 hne)
  have HS := Aside0.mk hs
  have HE := Aside0.mk he1
  have HG := Aside0.mk hq1
  clear hr hs he1 he2 hne hq1
  go_enter Tryd.func48, Tryd.ntmps48
  go_wp2_with (go_at_call 63; refine HP.out.mono ?_; rintro e w1 ⟨rfl, hd1⟩; have HS1 : Aside0 (Scn w1 q g ev pv y0 y1 y2 y3) := ⟨by obtain ⟨m, rfl⟩ := hd1.out; exact HS.out⟩; have HE1 := Aside0.mk (drawn_cell hd1 HE.out); have HK1 : Aside0 (Keep w w1 (fun k => k = q)) := ⟨by obtain ⟨m, rfl⟩ := hd1.out; exact (Keep.refl w _).drewN m⟩; have f1 := HS1.out.f 1; have c1 := HS1.out.c1; clear hd1)
  obtain ⟨W2, hW2⟩ : ∃ W2, W2 = w1.setCell ⟨q, 1, none⟩ (.iface 170 (.pointer (some a1))) := ⟨_, rfl⟩
  rw [← hW2]
  have HS2 : Aside0 (Scn W2 q g (.iface 170 (.pointer (some a1))) pv y0 y1 y2 y3) := ⟨by rw [hW2]; exact HS1.out.set1 _⟩
  have HK2 : Aside0 (Keep w W2 (fun k => k = q)) := ⟨by rw [hW2]; exact Keep.setCell (a := ⟨q, 1, none⟩) HK1.out (.inl rfl) _⟩
  clear hW2 f1 c1 HS1 HK1 HP HE1
  have c1 := HS2.out.c1
  have f1 := HS2.out.f 1
  have ce : W2.cell? ⟨1, 0, none⟩ = some (.iface 170 (.pointer (some a1))) := HK2.out.cell HE.out (fun hk => HG.out hk)
  have kq := err_same a1
  go_quiet (fail)
  go_wp2_with fail
  go_ret
  exact ⟨rfl, Scn.set1 (w := W2.drewN nq) HS2.out _, Keep.setCell (a := ⟨q, 1, none⟩) (HK2.out.drewN nq) (.inl rfl) _⟩

set_option maxHeartbeats 1000000 in
set_option maxRecDepth 100000 in
theorem newScanner_calls (a : Addr) (w : World) : Calls Tryd.prog 47 #[.iface 62 (.pointer (some a))] w fun e w' => e = .returned (.pointer (some ⟨w.heap.size, 0, none⟩)) ∧ w' = w.alloc (.cells #[.iface 62 (.pointer (some a)), .nilIface, .slice none 0 0, .int .u8 0, .int .u8 0, .int .u8 0, .int .u8 0] 113) := by
  go_enter Tryd.func47, Tryd.ntmps47
  go_wp2_with fail
  go_ret
  exact ⟨rfl, rfl⟩
set_option maxHeartbeats 1000000 in
set_option maxRecDepth 100000 in
theorem scannerErr_calls {w : World} {q g : Nat} {ev pv : Value} {y0 y1 y2 y3 : Int} (hs : Scn w q g ev pv y0 y1 y2 y3) : Calls Tryd.prog 50 #[.pointer (some ⟨q, 0, none⟩)] w fun e w' => e = .returned ev ∧ w = w' := by
  have c1 := hs.c1
  clear hs
  go_enter Tryd.func50, Tryd.ntmps50
  go_wp2_with fail
  go_ret
  exact ⟨rfl, rfl⟩
set_option maxHeartbeats 1000000 in
set_option maxRecDepth 100000 in
theorem scannerBytes_calls {w : World} {q g : Nat} {ev pv : Value} {y0 y1 y2 y3 : Int} (hs : Scn w q g ev pv y0 y1 y2 y3) : Calls Tryd.prog 49 #[.pointer (some ⟨q, 0, none⟩)] w fun e w' => e = .returned pv ∧ w = w' := by
  have c2 := hs.c2
  clear hs
  go_enter Tryd.func49, Tryd.ntmps49
  go_wp2_with fail
  go_ret
  exact ⟨rfl, rfl⟩
end Go.Proofs.YtbgimkjodpjnfaaDoor.Proto
