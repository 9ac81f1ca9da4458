/- Two registers are one byte, the destination the lower half where the lowest bytes stand first, else the upper one (laws.FnRegisters): for every two numbers and either order of bytes the law returns true, and its arguments and the error variable stay as they were. The card: the variables that the road reads are laid as the program's text lays them. -/
import Derived.Test.YtakigeichhngbaaDoorFnRegW
import Derived.Test.YtakigeichhngbaaDoorCards
import Derived.Test.YtakigeichhngbaaDoorTie
import Derived.Test.YtakigeichhngbaaDoorOpenB
import Derived.SevenTiedAt
import Derived.LaidMore
import Derived.Stop.Joined
namespace Go.Proofs.YtakigeichhngbaaDoor.fnRegisters
open Go.ChangeShapes Go.WideShapes Go.ChangeAt Go.RowKit
set_option linter.unusedVariables false
theorem door_met (os : Os) (args : Array Value) : laidMetH Tryd.prog [("loop.example/pub-g03146/pub/ebpfasm.ErrUnsatisfiedProgramReference", Rows.laid_loop_example_pub_g03146_pub_ebpfasm_ErrUnsatisfiedProgramReference)] ((World.doorLaid Tryd.prog 400 os).forCall (fun _ _ => 0) ⟨#[], args, []⟩).memory :=
  laidMetH_of_parts3 (fuel := 8) (laidMet_of_run' 8 (by kernel_rfl) (by kernel_rfl)) (by kernel_rfl) (by kernel_rfl)
set_option maxRecDepth 100000 in
theorem lifted (os : Os) (started : os.Started) (H : Type) (enc : TypeId × Value → H) :
    ReturnsInHanded {} Tryd.checked os 6 .any (fun w args => (Rows.fnRegistersSpec.pre enc Tryd.prog Tryd.f6 [] false w args ∧ laidMetH Tryd.prog [("loop.example/pub-g03146/pub/ebpfasm.ErrUnsatisfiedProgramReference", Rows.laid_loop_example_pub_g03146_pub_ebpfasm_ErrUnsatisfiedProgramReference)] w) ∧ sizedMet enc Tryd.prog Tryd.f6 (OpenSpec.ofChange Rows.fnRegistersSpec) false w args)
      (Rows.fnRegistersSpec.post enc Tryd.prog Tryd.f6 false true false false) := by
  refine returnsInHanded_of_change_and (C := Tryd.checked) (X := fun w _ => laidMetH Tryd.prog [("loop.example/pub-g03146/pub/ebpfasm.ErrUnsatisfiedProgramReference", Rows.laid_loop_example_pub_g03146_pub_ebpfasm_ErrUnsatisfiedProgramReference)] w) (fun _ _ _ hh h => h.of_heap hh) own started (by kernel_rfl) Tryd.func6
    (ChangeSpec.witness_shaped (enc := enc) (C := Tryd.checked) (os := os) (X := fun w _ => laidMetH Tryd.prog [("loop.example/pub-g03146/pub/ebpfasm.ErrUnsatisfiedProgramReference", Rows.laid_loop_example_pub_g03146_pub_ebpfasm_ErrUnsatisfiedProgramReference)] w) false (World.doorLaid Tryd.prog 400 os) #[.int .u8 0, .int .u8 0, .bool false] 8 rfl (World.shaped_of_RefB (by kernel_rfl) (by kernel_rfl)) (by kernel_rfl) (by kernel_rfl) (by kernel_rfl) (door_met os _)) ?_
  intro W base args ds gs before hval0 hW _ _ hL _
  have hval : ∀ (j : Nat) t v, Tryd.f6.params[j]? = some t → args[j]? = some v → Value.okWide Tryd.prog W .any base t v := hval0
  have hW' := hW
  obtain ⟨p, q, hA0, hV, rfl, hfz, hnd⟩ := hW
  have hA : DataW.TrodAll enc Tryd.prog W 0 (fun _ => true) true Tryd.f6.params.toList args.toList ds p := hA0
  rw [Tryd.params6] at hA hval
  obtain ⟨v0, vs0, d0, ds0, p0, q0, hargs, rfl, rfl, h0, r0⟩ := trodAll_cons hA
  obtain ⟨v1, vs1, d1, ds1, p1, q1, rfl, rfl, rfl, h1, r1⟩ := trodAll_cons r0
  obtain ⟨v2, vs2, d2, ds2, p2, q2, rfl, rfl, rfl, h2, r2⟩ := trodAll_cons r1
  obtain ⟨rfl, rfl, rfl⟩ := trodAll_nil r2
  obtain rfl : args = #[v0, v1, v2] := by cases args; simp_all
  obtain ⟨x9, rfl, hx9, hv9⟩ := open_eup hV
  obtain ⟨a0, rfl, rfl, rfl, w0⟩ := open_int Tryd.underlying5 (hval 0 5 v0 rfl rfl) h0
  obtain ⟨a1, rfl, rfl, rfl, w1⟩ := open_int Tryd.underlying5 (hval 1 5 v1 rfl rfl) h1
  obtain ⟨a2, rfl, rfl, rfl⟩ := open_bool Tryd.underlying4 (hval 2 4 v2 rfl rfl) h2
  clear hA0 hval0
  refine (fnReg_row W a0 w0 a1 w1 a2 hL).mono fun e W' ⟨he, bel⟩ => ?_
  subst he
  exact ⟨_, rfl, _, _, _, [], _, [.cell 3 0], hW', trodAll_mk1 (shut_bool Tryd.underlying4 _), (trodAll_cons_mk (shut_int Tryd.underlying5 w0) (trodAll_cons_mk (shut_int Tryd.underlying5 w1) (trodAll_cons_mk (shut_bool Tryd.underlying4 _) trodAll_mk0))), shut_eup hx9 hv9 bel _, bel.frame _, fun h => by cases h⟩
theorem over : Rows.fnRegistersRow.holds Tryd.pinned (OpenSpec.ofChange Rows.fnRegistersSpec) :=
  OpenClaim.holds_of_wide 6 Tryd.f6 rfl rfl rfl rfl rfl rfl rfl ⟨rfl, rfl, rfl, rfl, rfl⟩ rfl rfl rfl rfl rfl (by kernel_rfl) Tryd.func6 (by kernel_rfl)
    (of_decide_eq_true (by kernel_rfl)) (by unfold Func.isWrapper; first | (rw [if_pos (by decide +kernel)]; kernel_rfl) | (rw [if_neg (by decide +kernel)]; exact ⟨rfl, rfl⟩))
    (fun os started H enc _ => lifted os started H enc)
end Go.Proofs.YtakigeichhngbaaDoor.fnRegisters
namespace Go.Proofs.YtakigeichhngbaaDoor
/-- The tied card, under a short name, for the claim. -/
theorem fnRegisters_holds : Rows.FnRegistersCardSaid :=
  Claim7.holds_tied_plain_at .later [] [.sentinel] true Rows.fnRegistersCard.stood.harness true fnRegisters.over (fun _ h => by cases h) (by kernel_rfl) (fun _ h => by cases h) fnRegisters_row_tie rfl ⟨rfl, rfl⟩ (by kernel_rfl) rfl
    (fun f fn hf hfn => by
      obtain rfl : f = 6 := Option.some.inj ((show Tryd.prog.funcNamed "loop.example/pub-g03146/laws.FnRegisters" = some 6 by kernel_rfl).symm.trans hf) |>.symm
      obtain rfl : fn = Tryd.f6 := (Option.some.inj (Tryd.func6.symm.trans hfn)).symm
      exact ⟨by kernel_rfl, fun j t ht => by
        rw [Tryd.params6] at ht
        have hm : t ∈ [5, 5, 4] := by simpa using Array.mem_of_getElem? ht
        have hall : ([5, 5, 4].all fun u => !Tryd.prog.wantsStandIn u) = true := by kernel_rfl
        exact (show Tryd.prog.wantsStandIn t = false by simpa using List.all_eq_true.1 hall t hm)⟩)
    (by kernel_rfl)
#print axioms fnRegisters_holds
end Go.Proofs.YtakigeichhngbaaDoor
