import Derived.Test.YtakigeichhngbaaDoorUnmF
import Derived.LaidEql
import Derived.Stop.Asserts
import Derived.RowKitTokens
/-! errors.Is against io.EOF: nil, the very same error, another error of errors.New's make. -/
namespace Go.Proofs.YtakigeichhngbaaDoor
open Go.RowKit Go.Extern.Stop Go.Stop Go.Extern Go.Extern.Rtype
set_option linter.unusedVariables false
set_option linter.unusedSimpArgs false
set_option maxRecDepth 100000

theorem is_TypeOf (v : Value) (w : World) : (Extern.ReflectliteType.typeOf #[.iface 137 v]).run Tryd.prog w = .ok (.iface 177 (.agg #[.pointer (some ⟨6, 137, none⟩)])) w := by kernel_rfl
theorem is_Comparable (w : World) : ((Extern.ReflectliteType.method fun t => do noPackHeld "Comparable" t; (fun a => Value.bool a.comparable) <$> typeInfo t) #[.agg #[.pointer (some ⟨6, 137, none⟩)]]).run Tryd.prog w = .ok (.bool true) w := by kernel_rfl
theorem is_MethodComparable (v : Value) (w : World) : (Go.method 321 177 v "Comparable").run Tryd.prog w = .ok (162, v) w := by kernel_rfl
theorem is_Comp : (Tryd.prog.info? 137).map (·.comparable) = some true := by kernel_rfl
theorem is_Size : (Tryd.prog.info? 139).map (·.size) = some 1 := by kernel_rfl
theorem noIs (v : Value) (xT : TypeId) (w : World) : (Instr.typeAssert (.iface 137 v) xT 179 true).run Tryd.prog w = .ok (.tuple #[.nilIface, .bool false]) w := run_typeAssert_lacksB Tryd.underlying179 (by kernel_rfl) (by kernel_rfl) v xT w
theorem noUnwrap (v : Value) (xT : TypeId) (w : World) : (Instr.typeAssert (.iface 137 v) xT 182 true).run Tryd.prog w = .ok (.tuple #[.nilIface, .bool false]) w := run_typeAssert_lacksB Tryd.underlying182 (by kernel_rfl) (by kernel_rfl) v xT w
theorem noUnwraps (v : Value) (xT : TypeId) (w : World) : (Instr.typeAssert (.iface 137 v) xT 183 true).run Tryd.prog w = .ok (.tuple #[.nilIface, .bool false]) w := run_typeAssert_lacksB Tryd.underlying183 (by kernel_rfl) (by kernel_rfl) v xT w
theorem is_nil (b : Addr) (w : World) : Calls Tryd.prog 72 #[.nilIface, .iface 137 (.pointer (some b))] w fun e w' => e = .returned (.bool false) ∧ w = w' := by
  have hn := run_eql_iface_nil_left (P := Tryd.prog) w 137 (.pointer (some b)) Tryd.underlying67
  go_enter Tryd.func72, Tryd.ntmps72
  go_wp2
  go_ret
  exact ⟨rfl, rfl⟩
theorem is_same (a : Addr) (w : World) : Calls Tryd.prog 72 #[.iface 137 (.pointer (some a)), .iface 137 (.pointer (some a))] w fun e w' => e = .returned (.bool true) ∧ w = w' := by
  obtain ⟨i, hi, hcmp⟩ := Option.map_eq_some_iff.1 is_Comp
  obtain ⟨j, hj, hjs⟩ := Option.map_eq_some_iff.1 is_Size
  have h8 := @run_callFunc_extern Tryd.prog 90 _ Extern.ReflectliteType.typeOf Tryd.func90 (by kernel_rfl) (by kernel_rfl) (by kernel_rfl) (by kernel_rfl)
  have h32 := @run_callFunc_extern Tryd.prog 162 _ (Extern.ReflectliteType.method fun t => do noPackHeld "Comparable" t; pure (.bool (← typeInfo t).comparable)) Tryd.func162 (by kernel_rfl) (by kernel_rfl) (by kernel_rfl) (by kernel_rfl)
  have tT := is_TypeOf
  have cT := is_Comparable
  have mR := is_MethodComparable
  have heq := run_eql_iface_ptr_same (P := Tryd.prog) w a Tryd.underlying67 Tryd.underlying137 hi hcmp hj
  go_enter Tryd.func72, Tryd.ntmps72
  go_wp2
  refine wp_loop_rounds 1 ?_
  rw [rounds_succ]
  go_wp2
  go_ret
  exact ⟨rfl, rfl⟩
theorem is_other (a b : Addr) (ca cb : Array Value) (ta tb : TypeId) (w : World) (hne : a ≠ b) (ha : w.heap[a.block]? = some (.cells ca ta (0, 0))) (hb : w.heap[b.block]? = some (.cells cb tb (0, 0))) :
    Calls Tryd.prog 72 #[.iface 137 (.pointer (some a)), .iface 137 (.pointer (some b))] w fun e w' => e = .returned (.bool false) ∧ w = w' := by
  obtain ⟨i, hi, hcmp⟩ := Option.map_eq_some_iff.1 is_Comp
  obtain ⟨j, hj, hjs⟩ := Option.map_eq_some_iff.1 is_Size
  have h8 := @run_callFunc_extern Tryd.prog 90 _ Extern.ReflectliteType.typeOf Tryd.func90 (by kernel_rfl) (by kernel_rfl) (by kernel_rfl) (by kernel_rfl)
  have h32 := @run_callFunc_extern Tryd.prog 162 _ (Extern.ReflectliteType.method fun t => do noPackHeld "Comparable" t; pure (.bool (← typeInfo t).comparable)) Tryd.func162 (by kernel_rfl) (by kernel_rfl) (by kernel_rfl) (by kernel_rfl)
  have tT := is_TypeOf
  have cT := is_Comparable
  have mR := is_MethodComparable
  have nE := noIs
  have uE := noUnwrap
  have vE := noUnwraps
  have heq := run_eql_iface_ptr_other (P := Tryd.prog) w Tryd.underlying67 Tryd.underlying137 hi hcmp hj (by rw [hjs]; decide) hne ha hb
  go_enter Tryd.func72, Tryd.ntmps72
  go_wp2
  refine wp_loop_rounds 1 ?_
  rw [rounds_succ]
  go_wp2
  go_ret
  exact ⟨rfl, rfl⟩
end Go.Proofs.YtakigeichhngbaaDoor
