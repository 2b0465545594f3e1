/- errors.Is of two errors of errors.New's make. -/
import Derived.Test.YtllikhbafaohgaaGreatDoorIU
import Derived.RowKitTokens
namespace Go.Proofs.YtllikhbafaohgaaGreatDoor.Idx
open Go.RowKit Go.Extern.Stop Go.Stop Go.Extern
set_option linter.unusedVariables false
set_option linter.unusedSimpArgs false

theorem isTypeOf (v : Value) (w : World) : (Extern.ReflectliteType.typeOf #[.iface 179 v]).run Tryz.prog w = .ok (.iface 121 (.agg #[.pointer (some ⟨22, 179, none⟩)])) w := by kernel_rfl
def compFn := Extern.ReflectliteType.method fun t => do Extern.Rtype.noPackHeld "Comparable" t; pure (.bool (← typeInfo t).comparable)
theorem isComparable (w : World) : (compFn #[.agg #[.pointer (some ⟨22, 179, none⟩)]]).run Tryz.prog w = .ok (.bool true) w := by kernel_rfl
theorem isMethodComparable (v : Value) (w : World) : (Go.method 394 121 v "Comparable").run Tryz.prog w = .ok (159, v) w := by kernel_rfl
theorem isComp : (Tryz.prog.info? 179).map (·.comparable) = some true := by kernel_rfl
theorem isSize : (Tryz.prog.info? 181).map (·.size) = some 1 := by kernel_rfl
theorem noIsE (v : Value) (xT : TypeId) (w : World) : (Instr.typeAssert (.iface 179 v) xT 123 true).run Tryz.prog w = .ok (.tuple #[.nilIface, .bool false]) w := run_typeAssert_lacksB Tryz.underlying123 (by kernel_rfl) (by kernel_rfl) v xT w
theorem noUnwrapE (v : Value) (xT : TypeId) (w : World) : (Instr.typeAssert (.iface 179 v) xT 126 true).run Tryz.prog w = .ok (.tuple #[.nilIface, .bool false]) w := run_typeAssert_lacksB Tryz.underlying126 (by kernel_rfl) (by kernel_rfl) v xT w
theorem noUnwrapsE (v : Value) (xT : TypeId) (w : World) : (Instr.typeAssert (.iface 179 v) xT 128 true).run Tryz.prog w = .ok (.tuple #[.nilIface, .bool false]) w := run_typeAssert_lacksB Tryz.underlying128 (by kernel_rfl) (by kernel_rfl) v xT w
set_option maxHeartbeats 4000000 in
set_option maxRecDepth 100000 in
theorem is_same (a : Addr) (w : World) :
    Calls Tryz.prog 18 #[.iface 179 (.pointer (some a)), .iface 179 (.pointer (some a))] w fun e w' => e = .returned (.bool true) ∧ w' = w := by
  obtain ⟨i, hi, hcmp⟩ := Option.map_eq_some_iff.1 isComp
  obtain ⟨j, hj, hjs⟩ := Option.map_eq_some_iff.1 isSize
  have h8 := @run_callFunc_extern Tryz.prog 33 _ Extern.ReflectliteType.typeOf Tryz.func33 (by kernel_rfl) (by kernel_rfl) (by kernel_rfl) (by kernel_rfl)
  have h32 := @run_callFunc_extern Tryz.prog 159 _ compFn Tryz.func159 (by kernel_rfl) (by kernel_rfl) (by kernel_rfl) (by kernel_rfl)
  have tT := isTypeOf
  have cT := isComparable
  have mR := isMethodComparable
  have heq := run_eql_iface_ptr_same (P := Tryz.prog) w a Tryz.underlying49 Tryz.underlying179 hi hcmp hj
  go_enter Tryz.func18, Tryz.ntmps18
  go_wp2
  refine wp_loop_rounds 1 ?_
  rw [rounds_succ]
  go_wp2
  go_ret
  exact ⟨rfl, rfl⟩
set_option maxHeartbeats 4000000 in
set_option maxRecDepth 100000 in
theorem is_other (a b : Addr) (ca cb : Array Value) (ta tb : TypeId) (w : World) (hne : a ≠ b) (ha : w.heap[a.block]? = some (.cells ca ta (0, 0))) (hb : w.heap[b.block]? = some (.cells cb tb (0, 0))) :
    Calls Tryz.prog 18 #[.iface 179 (.pointer (some a)), .iface 179 (.pointer (some b))] w fun e w' => e = .returned (.bool false) ∧ w' = w := by
  obtain ⟨i, hi, hcmp⟩ := Option.map_eq_some_iff.1 isComp
  obtain ⟨j, hj, hjs⟩ := Option.map_eq_some_iff.1 isSize
  have h8 := @run_callFunc_extern Tryz.prog 33 _ Extern.ReflectliteType.typeOf Tryz.func33 (by kernel_rfl) (by kernel_rfl) (by kernel_rfl) (by kernel_rfl)
  have h32 := @run_callFunc_extern Tryz.prog 159 _ compFn Tryz.func159 (by kernel_rfl) (by kernel_rfl) (by kernel_rfl) (by kernel_rfl)
  have tT := isTypeOf
  have cT := isComparable
  have mR := isMethodComparable
  have nE := noIsE
  have uE := noUnwrapE
  have vE := noUnwrapsE
  have heq := run_eql_iface_ptr_other (P := Tryz.prog) w Tryz.underlying49 Tryz.underlying179 hi hcmp hj (by rw [hjs]; decide) hne ha hb
  go_enter Tryz.func18, Tryz.ntmps18
  go_wp2
  refine wp_loop_rounds 1 ?_
  rw [rounds_succ]
  go_wp2
  go_ret
  exact ⟨rfl, rfl⟩
theorem is_any (a b : Addr) {ca cb : Array Value} {ta tb : TypeId} (w : World) (ha : w.heap[a.block]? = some (.cells ca ta (0, 0))) (hb : w.heap[b.block]? = some (.cells cb tb (0, 0))) :
    Calls Tryz.prog 18 #[.iface 179 (.pointer (some a)), .iface 179 (.pointer (some b))] w fun e w' => (∃ x : Bool, e = .returned (.bool x)) ∧ w' = w := by
  by_cases h : a = b
  · subst h
    exact (is_same a w).mono fun e w' ⟨h1, h2⟩ => ⟨⟨_, h1⟩, h2⟩
  · exact (is_other a b ca cb ta tb w h ha hb).mono fun e w' ⟨h1, h2⟩ => ⟨⟨_, h1⟩, h2⟩
end Go.Proofs.YtllikhbafaohgaaGreatDoor.Idx
