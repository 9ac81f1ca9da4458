/- A program with labels is written as the one whose jumps and calls tell how far they go (laws.FnLabelled): for every slice of instructions and either order of bytes the law returns true, and its arguments and the error variable stay as they were. The card: the variables that the road reads are laid as the program's text lays them. -/
import Derived.Test.YtakigeichhngbaaGreatDoorFnLabW
import Derived.Test.YtakigeichhngbaaGreatDoorCards
import Derived.Test.YtakigeichhngbaaGreatDoorTie
import Derived.Test.YtakigeichhngbaaGreatDoorOpenB
import Derived.Test.YtakigeichhngbaaGreatDoorOpen
import Derived.Test.YtakigeichhngbaaGreatDoorOpenB
import Derived.SevenTiedAt
import Derived.LaidMore
import Derived.Stop.Joined
namespace Go.Proofs.YtakigeichhngbaaGreatDoor.fnLabelled
open Go.ChangeShapes Go.WideShapes Go.ChangeAt Go.RowKit
set_option linter.unusedVariables false
theorem door_met (os : Os) (args : Array Value) : laidMetH Tryz.prog [("loop.example/pub-g03146/pub/ebpfasm.ErrUnsatisfiedProgramReference", Rows.laid_loop_example_pub_g03146_pub_ebpfasm_ErrUnsatisfiedProgramReference)] ((World.doorLaid Tryz.prog 400 os).forCall (fun _ _ => 0) ⟨#[], args, []⟩).memory :=
  laidMetH_of_parts3 (fuel := 8) (laidMet_of_run' 8 (by kernel_rfl) (by kernel_rfl)) (by kernel_rfl) (by kernel_rfl)
set_option maxRecDepth 100000 in
theorem lifted (os : Os) (started : os.Started) (H : Type) (enc : TypeId × Value → H) :
    ReturnsInHanded {} Tryz.checked os 4 .any (fun w args => (Rows.fnLabelledSpec.pre enc Tryz.prog Tryz.f4 [] false w args ∧ laidMetH Tryz.prog [("loop.example/pub-g03146/pub/ebpfasm.ErrUnsatisfiedProgramReference", Rows.laid_loop_example_pub_g03146_pub_ebpfasm_ErrUnsatisfiedProgramReference)] w) ∧ sizedMet enc Tryz.prog Tryz.f4 (OpenSpec.ofChange Rows.fnLabelledSpec) false w args)
      (Rows.fnLabelledSpec.post enc Tryz.prog Tryz.f4 false true false false) := by
  refine returnsInHanded_of_change_and (C := Tryz.checked) (X := fun w _ => laidMetH Tryz.prog [("loop.example/pub-g03146/pub/ebpfasm.ErrUnsatisfiedProgramReference", Rows.laid_loop_example_pub_g03146_pub_ebpfasm_ErrUnsatisfiedProgramReference)] w) (fun _ _ _ hh h => h.of_heap hh) own started (by kernel_rfl) Tryz.func4
    (ChangeSpec.witness_shaped (enc := enc) (C := Tryz.checked) (os := os) (X := fun w _ => laidMetH Tryz.prog [("loop.example/pub-g03146/pub/ebpfasm.ErrUnsatisfiedProgramReference", Rows.laid_loop_example_pub_g03146_pub_ebpfasm_ErrUnsatisfiedProgramReference)] w) false (World.doorLaid Tryz.prog 400 os) #[.slice none 0 0, .bool false] 8 rfl (World.shaped_of_RefB (by kernel_rfl) (by kernel_rfl)) (by kernel_rfl) (by kernel_rfl) (by kernel_rfl) (door_met os _)) ?_
  intro W base args ds gs before hval0 hW _ _ hL _
  have hval : ∀ (j : Nat) t v, Tryz.f4.params[j]? = some t → args[j]? = some v → Value.okWide Tryz.prog W .any base t v := hval0
  have hW' := hW
  obtain ⟨p, q, hA0, hV, rfl, hfz, hnd⟩ := hW
  have hA : DataW.TrodAll enc Tryz.prog W 0 (fun _ => true) true Tryz.f4.params.toList args.toList ds p := hA0
  rw [Tryz.params4] at hA hval
  obtain ⟨v0, vs0, d0, ds0, p0, q0, hargs, rfl, rfl, h0, r0⟩ := trodAll_cons hA
  obtain ⟨v1, vs1, d1, ds1, p1, q1, rfl, rfl, rfl, h1, r1⟩ := trodAll_cons r0
  obtain ⟨rfl, rfl, rfl⟩ := trodAll_nil r1
  obtain rfl : args = #[v0, v1] := by cases args; simp_all
  obtain ⟨x9, rfl, hx9, hv9⟩ := open_eup hV
  have k0 := h0
  have lt0 : ∀ x ∈ p0, x.block < W.heap.size := by obtain ⟨m, hm⟩ := k0; exact DataW.trod_lt m _ _ _ hm
  obtain ⟨A0, len0, cap0, xs0, rfl, w0⟩ := open_inss (hval 0 22 v0 rfl rfl) h0
  obtain ⟨a1, rfl, rfl, rfl⟩ := open_bool Tryz.underlying4 (hval 1 4 v1 rfl rfl) h1
  clear hA0 hval0
  refine (fnLab_row W A0 len0 cap0 xs0 w0 a1 hL).mono fun e W' ⟨he, bel⟩ => ?_
  subst he
  exact ⟨_, rfl, _, _, _, [], _, [.cell 3 0], hW', trodAll_mk1 (shut_bool Tryz.underlying4 _), (trodAll_cons_mk (Below.trod laidOut (by kernel_rfl) (of_decide_eq_true (by kernel_rfl)) k0 bel lt0) (trodAll_cons_mk (shut_bool Tryz.underlying4 _) trodAll_mk0)), shut_eup hx9 hv9 bel _, bel.frame _, fun h => by cases h⟩
theorem over : Rows.fnLabelledRow.holds Tryz.pinned (OpenSpec.ofChange Rows.fnLabelledSpec) :=
  OpenClaim.holds_of_wide 4 Tryz.f4 rfl rfl rfl rfl rfl rfl rfl ⟨rfl, rfl, rfl, rfl, rfl⟩ rfl rfl rfl rfl rfl (by kernel_rfl) Tryz.func4 (by kernel_rfl)
    (of_decide_eq_true (by kernel_rfl)) (by unfold Func.isWrapper; first | (rw [if_pos (by decide +kernel)]; kernel_rfl) | (rw [if_neg (by decide +kernel)]; exact ⟨rfl, rfl⟩))
    (fun os started H enc _ => lifted os started H enc)
end Go.Proofs.YtakigeichhngbaaGreatDoor.fnLabelled
namespace Go.Proofs.YtakigeichhngbaaGreatDoor
/-- The tied card, under a short name, for the claim. -/
theorem fnLabelled_holds : Rows.FnLabelledCardSaid :=
  Claim7.holds_tied_plain_at .later [] [.sentinel] true Rows.fnLabelledCard.stood.harness true fnLabelled.over (fun _ h => by cases h) (by kernel_rfl) (fun _ h => by cases h) fnLabelled_row_tie rfl ⟨rfl, rfl⟩ (by kernel_rfl) rfl
    (fun f fn hf hfn => by
      obtain rfl : f = 4 := Option.some.inj ((show Tryz.prog.funcNamed "loop.example/pub-g03146/laws.FnLabelled" = some 4 by kernel_rfl).symm.trans hf) |>.symm
      obtain rfl : fn = Tryz.f4 := (Option.some.inj (Tryz.func4.symm.trans hfn)).symm
      exact ⟨by kernel_rfl, fun j t ht => by
        rw [Tryz.params4] at ht
        have hm : t ∈ [22, 4] := by simpa using Array.mem_of_getElem? ht
        have hall : ([22, 4].all fun u => !Tryz.prog.wantsStandIn u) = true := by kernel_rfl
        exact (show Tryz.prog.wantsStandIn t = false by simpa using List.all_eq_true.1 hall t hm)⟩)
    (by kernel_rfl)
#print axioms fnLabelled_holds
end Go.Proofs.YtakigeichhngbaaGreatDoor
