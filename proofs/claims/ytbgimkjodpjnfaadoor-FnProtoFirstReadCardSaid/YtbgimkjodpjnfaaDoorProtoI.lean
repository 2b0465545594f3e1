/- The look whether packet lines are read at all. -/
import Derived.Test.YtbgimkjodpjnfaaDoorProtoH
namespace Go.Proofs.YtbgimkjodpjnfaaDoor.Proto
open Go.RowKit Go.Proofs.YtbgimkjodpjnfaaDoorW.PrintWords Go.Proofs.YtbgimkjodpjnfaaDoorW.PrintLast Go.Proofs.YtbgimkjodpjnfaaDoorW.PrintMore Go.Proofs.YtbgimkjodpjnfaaDoor.PFnProtoFirstRead

theorem line_parts {w : World} {base : Nat} {ok : Nat → Prop} {v : Value} (h : (Kd.slice 5 (Kd.int .u8)).R 36 w base ok v [[97, 10]]) : ∃ ad c1 A2 c2, v = .slice (some ad) 1 c1 ∧ w.cell? ad = some (.slice A2 2 c2) ∧ Kd.C (Kd.int .u8) w A2 2 [97, 10] := by
  obtain ⟨A1, c1, rfl, hl1, hC1⟩ := Kd.R_reads h
  obtain ⟨ad, cs, rfl, hcl, hK, hcc⟩ := Kd.C_get hC1 [] 0 (by omega) (by simp)
  obtain ⟨A2, c2, rfl, hl2, hC2⟩ := hK
  refine ⟨ad, c1, A2, c2, rfl, ?_, hC2⟩
  have := hcc 0 _ rfl
  have e : ad.add ((0 : Int).toNat * (Kd.slice 5 (Kd.int .u8)).sz + 0) = ad := by
    show ad.add (0 * 1 + 0) = ad
    unfold Addr.add
    simp
  rw [e] at this
  exact this
set_option maxHeartbeats 4000000 in
set_option maxRecDepth 100000 in
theorem pktWorks_calls {w : World} {a1 a2 : Addr} (hE : Errs w a1 a2) : Calls Tryd.prog 14 #[] w fun e w' => e = .returned (.bool true) ∧ Below w.heap.size w w' := by
  have kc := fun (w : World) (C : Array Value) (n c : Nat) => Lib.run_convert_bytes_const (P := Tryd.prog) w 36 5 C n c Tryd.underlying36 Tryd.underlying5
  have HX : Aside0 ((w.alloc (.cells #[.int .u8 48, .int .u8 48, .int .u8 48, .int .u8 54, .int .u8 97, .int .u8 10] 5 (6, 7))).heap[w.heap.size]? = some (.cells (vals aLine).toArray 5 (6, 7))) := ⟨heap_alloc_new w _⟩
  have HB : Aside0 (Below w.heap.size w (w.alloc (.cells #[.int .u8 48, .int .u8 48, .int .u8 48, .int .u8 54, .int .u8 97, .int .u8 10] 5 (6, 7)))) := ⟨below_alloc (Below.refl _ _) _⟩
  have HL := Aside0.mk (readLines_calls HX.out (hE.below HB.out))
  clear hE
  go_enter Tryd.func14, Tryd.ntmps14
  go_wp2_with fail
  refine HL.out.mono ?_
  rintro e w1 ⟨v1, rfl, hr1, hb1⟩
  obtain ⟨ad, c1, A2, c2, rfl, k0, hC2⟩ := line_parts hr1
  have hcv := Kd.C_string (P := Tryd.prog) (A := A2) (c := c2) Tryd.underlying36 Tryd.underlying5 Tryd.underlying9 hC2
  have e2 : strOfNums [97, 10] = ⟨#[97, 10]⟩ := rfl
  rw [e2] at hcv
  have HB1 := Aside0.mk (HB.out.trans (hb1.mono HB.out.size))
  clear hr1 hb1 hC2 e2 kc HX HL
  go_wp2_with fail
  go_ret
  exact ⟨rfl, HB1.out⟩
end Go.Proofs.YtbgimkjodpjnfaaDoor.Proto
