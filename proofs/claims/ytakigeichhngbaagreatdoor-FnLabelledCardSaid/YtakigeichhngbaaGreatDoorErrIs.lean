import Derived.Test.YtakigeichhngbaaGreatDoorUnmF
import Derived.LaidEql
import Derived.Stop.Asserts
import Derived.RowKitTokens
/-! errors.Is against io.EOF: nil, the very same error, another error of errors.New's make. -/
namespace Go.Proofs.YtakigeichhngbaaGreatDoor
open Go.RowKit Go.Extern.Stop Go.Stop Go.Extern Go.Extern.Rtype
set_option linter.unusedVariables false
set_option linter.unusedSimpArgs false
set_option maxRecDepth 100000

theorem is_TypeOf (v : Value) (w : World) : (Extern.ReflectliteType.typeOf #[.iface 145 v]).run Tryz.prog w = .ok (.iface 149 (.agg #[.pointer (some ⟨6, 145, none⟩)])) w := by kernel_rfl
theorem is_Comparable (w : World) : ((Extern.ReflectliteType.method fun t => do noPackHeld "Comparable" t; (fun a => Value.bool a.comparable) <$> typeInfo t) #[.agg #[.pointer (some ⟨6, 145, none⟩)]]).run Tryz.prog w = .ok (.bool true) w := by kernel_rfl
theorem is_MethodComparable (v : Value) (w : World) : (Go.method 321 149 v "Comparable").run Tryz.prog w = .ok (149, v) w := by kernel_rfl
theorem is_Comp : (Tryz.prog.info? 145).map (·.comparable) = some true := by kernel_rfl
theorem is_Size : (Tryz.prog.info? 147).map (·.size) = some 1 := by kernel_rfl
theorem noIs (v : Value) (xT : TypeId) (w : World) : (Instr.typeAssert (.iface 145 v) xT 151 true).run Tryz.prog w = .ok (.tuple #[.nilIface, .bool false]) w := run_typeAssert_lacksB Tryz.underlying151 (by kernel_rfl) (by kernel_rfl) v xT w
theorem noUnwrap (v : Value) (xT : TypeId) (w : World) : (Instr.typeAssert (.iface 145 v) xT 154 true).run Tryz.prog w = .ok (.tuple #[.nilIface, .bool false]) w := run_typeAssert_lacksB Tryz.underlying154 (by kernel_rfl) (by kernel_rfl) v xT w
theorem noUnwraps (v : Value) (xT : TypeId) (w : World) : (Instr.typeAssert (.iface 145 v) xT 155 true).run Tryz.prog w = .ok (.tuple #[.nilIface, .bool false]) w := run_typeAssert_lacksB Tryz.underlying155 (by kernel_rfl) (by kernel_rfl) v xT w
theorem is_nil (b : Addr) (w : World) : Calls Tryz.prog 39 #[.nilIface, .iface 145 (.pointer (some b))] w fun e w' => e = .returned (.bool false) ∧ w = w' := by
  have hn := run_eql_iface_nil_left (P := Tryz.prog) w 145 (.pointer (some b)) Tryz.underlying41
  go_enter Tryz.func39, Tryz.ntmps39
  go_wp2
  go_ret
  exact ⟨rfl, rfl⟩
theorem is_same (a : Addr) (w : World) : Calls Tryz.prog 39 #[.iface 145 (.pointer (some a)), .iface 145 (.pointer (some a))] w fun e w' => e = .returned (.bool true) ∧ w = w' := by
  obtain ⟨i, hi, hcmp⟩ := Option.map_eq_some_iff.1 is_Comp
  obtain ⟨j, hj, hjs⟩ := Option.map_eq_some_iff.1 is_Size
  have h8 := @run_callFunc_extern Tryz.prog 60 _ Extern.ReflectliteType.typeOf Tryz.func60 (by kernel_rfl) (by kernel_rfl) (by kernel_rfl) (by kernel_rfl)
  have h32 := @run_callFunc_extern Tryz.prog 149 _ (Extern.ReflectliteType.method fun t => do noPackHeld "Comparable" t; pure (.bool (← typeInfo t).comparable)) Tryz.func149 (by kernel_rfl) (by kernel_rfl) (by kernel_rfl) (by kernel_rfl)
  have tT := is_TypeOf
  have cT := is_Comparable
  have mR := is_MethodComparable
  have heq := run_eql_iface_ptr_same (P := Tryz.prog) w a Tryz.underlying41 Tryz.underlying145 hi hcmp hj
  go_enter Tryz.func39, Tryz.ntmps39
  go_wp2
  refine wp_loop_rounds 1 ?_
  rw [rounds_succ]
  go_wp2
  go_ret
  exact ⟨rfl, rfl⟩
theorem is_other (a b : Addr) (ca cb : Array Value) (ta tb : TypeId) (w : World) (hne : a ≠ b) (ha : w.heap[a.block]? = some (.cells ca ta (0, 0))) (hb : w.heap[b.block]? = some (.cells cb tb (0, 0))) :
    Calls Tryz.prog 39 #[.iface 145 (.pointer (some a)), .iface 145 (.pointer (some b))] w fun e w' => e = .returned (.bool false) ∧ w = w' := by
  obtain ⟨i, hi, hcmp⟩ := Option.map_eq_some_iff.1 is_Comp
  obtain ⟨j, hj, hjs⟩ := Option.map_eq_some_iff.1 is_Size
  have h8 := @run_callFunc_extern Tryz.prog 60 _ Extern.ReflectliteType.typeOf Tryz.func60 (by kernel_rfl) (by kernel_rfl) (by kernel_rfl) (by kernel_rfl)
  have h32 := @run_callFunc_extern Tryz.prog 149 _ (Extern.ReflectliteType.method fun t => do noPackHeld "Comparable" t; pure (.bool (← typeInfo t).comparable)) Tryz.func149 (by kernel_rfl) (by kernel_rfl) (by kernel_rfl) (by kernel_rfl)
  have tT := is_TypeOf
  have cT := is_Comparable
  have mR := is_MethodComparable
  have nE := noIs
  have uE := noUnwrap
  have vE := noUnwraps
  have heq := run_eql_iface_ptr_other (P := Tryz.prog) w Tryz.underlying41 Tryz.underlying145 hi hcmp hj (by rw [hjs]; decide) hne ha hb
  go_enter Tryz.func39, Tryz.ntmps39
  go_wp2
  refine wp_loop_rounds 1 ?_
  rw [rounds_succ]
  go_wp2
  go_ret
  exact ⟨rfl, rfl⟩
end Go.Proofs.YtakigeichhngbaaGreatDoor
