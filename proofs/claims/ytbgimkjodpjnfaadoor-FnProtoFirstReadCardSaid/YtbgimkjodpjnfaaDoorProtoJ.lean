/- The packet line of a payload. -/
import Derived.Test.YtbgimkjodpjnfaaDoorProtoI
import Derived.Test.YtbgimkjodpjnfaaDoorPFnProtoFirstReadx4
namespace Go.Proofs.YtbgimkjodpjnfaaDoor.Proto
open Go.RowKit Go.Proofs.YtbgimkjodpjnfaaDoorW.PrintWords Go.Proofs.YtbgimkjodpjnfaaDoorW.PrintLast Go.Proofs.YtbgimkjodpjnfaaDoorW.PrintMore Go.Proofs.YtbgimkjodpjnfaaDoor.PFnProtoFirstRead

def hexc (d : Nat) : Int := if d < 10 then 48 + (d : Int) else 87 + (d : Int)
theorem hexc_ok {d : Nat} (h : d < 16) : HexD (hexc d) d := by
  unfold hexc
  split
  · exact .inl ⟨by omega, by omega, by omega⟩
  · exact .inr ⟨by omega, by omega, by omega⟩
def hex4 (n : Nat) : List Int := [hexc (n / 4096 % 16), hexc (n / 256 % 16), hexc (n / 16 % 16), hexc (n % 16)]
theorem hex4_all : ((List.range 1024).all fun n => spec_Hex4.f 5 (n : Int) == some (hex4 n)) = true := by kernel_rfl
theorem hex4_f {n : Nat} (h : n < 1024) : spec_Hex4.f 5 (n : Int) = some (hex4 n) := by
  have := List.all_eq_true.1 hex4_all n (List.mem_range.2 h)
  simpa using this

set_option maxHeartbeats 4000000 in
set_option maxRecDepth 100000 in
theorem line_calls {w : World} (A : Option Addr) (c : Nat) (ys : List UInt8) (hC : Kd.C (Kd.int .u8) w A ys.length (nums ys)) (hpos : 0 < ys.length) (hn : ys.length + 4 < 1024) :
    Calls Tryd.prog 31 #[.slice A ys.length c] w fun e w' => ∃ v, e = .returned v ∧ (Kd.int .u8).R 5 w' w.heap.size (fun _ => True) v (hex4 (ys.length + 4) ++ nums ys) ∧ Below w.heap.size w w' := by
  have z1 : (ys.length == 0) = false := by rw [beq_eq_false_iff_ne]; omega
  have HC := Aside0.mk hC
  have HH : Aside0 (∀ w : World, Calls Tryd.prog 55 #[.int .i64 (wrap64 ((ys.length : Int) + 4))] w fun e w' => ∃ v0_ : Value, e = .returned v0_ ∧ Kd.R (Kd.int .u8) 5 w' w.heap.size (fun _ => True) v0_ (hex4 (ys.length + 4)) ∧ Below w.heap.size w w') := ⟨fun w => by
    have e : wrap64 ((ys.length : Int) + 4) = ((ys.length + 4 : Nat) : Int) := by unfold wrap64; omega
    rw [e]
    exact spec_Hex4.calls 5 _ _ w (hex4_f hn)⟩
  have HL : Aside0 (((hex4 (ys.length + 4)).length + ys.length) * 1 ≤ 140737488355328) := ⟨by simp [hex4]; omega⟩
  clear hC hpos hn
  go_enter Tryd.func31, Tryd.ntmps31
  go_wp2_with (first
    | (go_at_call 55; refine (HH.out _).mono ?_; rintro e w1 ⟨v1, rfl, hr1, hb1⟩; obtain ⟨A1, c1, he1⟩ := Kd.R_slice hr1; obtain rfl : v1 = .slice A1 4 c1 := he1; have HR1 := Aside0.mk hr1; have HB1 := Aside0.mk hb1; have HC1 := Aside0.mk (Kd.C_below HC.out hb1); have HS1 := Aside0.mk hb1.size; have HF1 : Aside0 (∀ k, w1.heap.size ≤ k → True) := ⟨fun _ _ => trivial⟩; clear hr1 hb1)
    | (at_builtin; refine Kd.R_append_rows (Kd.int .u8) (w0 := w) w.heap.size rfl (.tmp 11) (.tmp 12) 36 5 (.int .u8 0) 1 rfl Tryd.underlying36 info5 rfl (by decide) (by omega) (.slice A1 4 c1) (hex4 (ys.length + 4)) (nums ys) _ _ _ (fun _ => True) (fun _ => False) rfl rfl ?aO ?aR (fun _ _ h => h) (fun _ h => h.elim) ?aF ?aB ?aS ?aL ?_; (case aR => exact HC1.out); (case aO => exact HR1.out); (case aF => exact HF1.out); (case aB => exact HB1.out); (case aS => exact HS1.out); (case aL => exact HL.out); rintro v2 w2 hr2 hb2 - -; have HR2 := Aside0.mk hr2; have HB2 := Aside0.mk hb2; clear hr2 hb2))
  go_ret
  exact ⟨_, rfl, HR2.out, HB2.out⟩
end Go.Proofs.YtbgimkjodpjnfaaDoor.Proto
