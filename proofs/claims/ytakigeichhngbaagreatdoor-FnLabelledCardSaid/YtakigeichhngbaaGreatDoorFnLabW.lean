import Derived.Test.YtakigeichhngbaaGreatDoorFixW
import Derived.Test.YtakigeichhngbaaGreatDoorOpenE
namespace Go.Proofs.YtakigeichhngbaaGreatDoor
open Go.RowKit
set_option linter.unusedVariables false
set_option linter.unusedSimpArgs false
set_option maxRecDepth 100000 in
set_option maxHeartbeats 2000000 in
theorem fnLab_all (big : Bool) (A : Option Addr) (n cap : Nat) (xs : List Ins) (w : World) (aE : Addr) (h : InsAt w A n xs) (hn : n ≤ maxLen) (hcb : ∀ i ∈ xs, CBd i) (he : w.cell? ⟨3, 0, none⟩ = some (.iface 145 (.pointer (some aE)))) :
    Calls Tryz.prog 4 #[.slice A n cap, .bool big] w fun e w' => e = .returned (.bool true) ∧ Below w.heap.size w w' := by
  have hn63 : n ≤ 9223372036854775807 := hn
  cases hz : (decide (n ≤ 2147483647) && xs.all fun i => zzIns i.sym i.ref)
  · have Z := Lib.hid (zzFits1_c A n cap xs w h hn63)
    rw [hz] at Z
    clear hz h hn hn63 hcb he
    go_enter Tryz.func4, Tryz.ntmps4
    go_wp2_with fail
    refine Z.out.mono ?_
    rintro e w1 ⟨rfl, hb1⟩
    have HB := Lib.hid hb1
    clear hb1
    go_wp2
    go_ret
    exact ⟨rfl, HB.out⟩
  · have hn31 : n ≤ 2147483647 := by simp only [Bool.and_eq_true, decide_eq_true_eq] at hz; exact hz.1
    have hzi : ∀ i ∈ xs, i.sym.size ≤ 2147483647 ∧ i.ref.size ≤ 2147483647 := by
      simp only [Bool.and_eq_true, decide_eq_true_eq, List.all_eq_true] at hz
      intro i hi
      have := hz.2 i hi
      simpa [zzIns] using this
    have hsy : ∀ i ∈ xs, i.sym.size ≤ 2147483647 := fun i hi => (hzi i hi).1
    cases hp : labOk xs
    · skip
      have Z := Lib.hid (zzFits1_c A n cap xs w h hn63)
      rw [hz] at Z
      have P := Lib.hid fun (W : World) (hb : Below w.heap.size w W) => ProgramOk_c A n cap xs W (h.keep hb) hn31 hsy
      rw [hp] at P
      clear hz hp h hn hn63 hcb hzi hsy he
      go_enter Tryz.func4, Tryz.ntmps4
      go_wp2_with fail
      refine Z.out.mono ?_
      rintro e w1 ⟨rfl, hb1⟩
      have HB := Lib.hid hb1
      have hz1 := hb1.size
      have P1 := Lib.hid (P.out w1 hb1)
      clear hb1 P Z
      go_wp2_with fail
      refine P1.out.mono ?_
      rintro e w2 ⟨rfl, hb2⟩
      have hbw2 := HB.out.trans (hb2.mono hz1)
      have HB2 := Lib.hid hbw2
      have hz2 := hbw2.size
      clear hb2 P1 HB
      clear hbw2
      go_wp2
      go_ret
      exact ⟨rfl, HB2.out⟩
    · have hl60 := (labOk_at hp).1
      have hln := h.1
      rcases Nat.eq_zero_or_pos n with h0 | h0
      · subst h0
        have Z := Lib.hid (zzFits1_c A 0 cap xs w h hn63)
        rw [hz] at Z
        have P := Lib.hid fun (W : World) (hb : Below w.heap.size w W) => ProgramOk_c A 0 cap xs W (h.keep hb) hn31 hsy
        rw [hp] at P
        clear hz hp h hn hn63 hcb hzi hsy he
        go_enter Tryz.func4, Tryz.ntmps4
        go_wp2_with fail
        refine Z.out.mono ?_
        rintro e w1 ⟨rfl, hb1⟩
        have HB := Lib.hid hb1
        have hz1 := hb1.size
        have P1 := Lib.hid (P.out w1 hb1)
        clear hb1 P Z
        go_wp2_with fail
        refine P1.out.mono ?_
        rintro e w2 ⟨rfl, hb2⟩
        have hbw2 := HB.out.trans (hb2.mono hz1)
        have HB2 := Lib.hid hbw2
        have hz2 := hbw2.size
        clear hb2 P1 HB
        clear hbw2
        go_wp2
        go_ret
        exact ⟨rfl, HB2.out⟩
      · have hnz : ((n : Int) == 0) = false := by simp; omega
        have Z := Lib.hid (zzFits1_c A n cap xs w h hn63)
        rw [hz] at Z
        have P := Lib.hid fun (W : World) (hb : Below w.heap.size w W) => ProgramOk_c A n cap xs W (h.keep hb) hn31 hsy
        rw [hp] at P
        have HIN := Lib.hid fun (W : World) (hb : Below w.heap.size w W) => h.keep hb
        have HLAB := Lib.hid hp
        have HCB := Lib.hid hcb
        have HRZ := Lib.hid (show ∀ i ∈ xs, i.ref.size ≤ maxLen from fun i hi => by have := (hzi i hi).2; unfold maxLen; omega)
        have hn60 : n ≤ 60 := by omega
        have HLN := Lib.hid hln
        have HE := Lib.hid he
        have hEl : 3 < w.heap.size := block_lt_of_cell he
        clear hz hp h hn hn63 hcb hln hzi hsy he
        go_enter Tryz.func4, Tryz.ntmps4
        go_wp2_with fail
        refine Z.out.mono ?_
        rintro e w1 ⟨rfl, hb1⟩
        have HB := Lib.hid hb1
        have hz1 := hb1.size
        have P1 := Lib.hid (P.out w1 hb1)
        clear hb1 P Z
        go_wp2_with fail
        refine P1.out.mono ?_
        rintro e w2 ⟨rfl, hb2⟩
        have hbw2 := HB.out.trans (hb2.mono hz1)
        have HB2 := Lib.hid hbw2
        have hz2 := hbw2.size
        clear hb2 P1 HB
        clear hbw2
        have M2 := Lib.hid (ImplMarL_ok big A n cap xs _ w2 (HIN.out w2 HB2.out) h0 HLAB.out HCB.out HRZ.out ((HB2.out.cell (p := ⟨_, 0, none⟩) hEl).trans HE.out))
        go_wp2_with fail
        refine M2.out.mono ?_
        rintro e w3 ⟨v3, rfl, hv3, hb3⟩
        obtain ⟨A3, n3, c3, rfl, hn3⟩ := hv3.slice
        have hb3w := HB2.out.trans (hb3.mono hz2)
        have HB3 := Lib.hid hb3w
        have hz3 := hb3w.size
        have HV3 := Lib.hid hv3
        have F3 := Lib.hid (SFixed_c A n cap xs w3 (HIN.out w3 hb3w) HLAB.out)
        clear hv3 hb3 hb3w M2
        go_wp2_with fail
        refine F3.out.mono ?_
        rintro e w4 ⟨v4, rfl, hv4, hb4⟩
        obtain ⟨A4, c4, rfl, hI4⟩ := hv4.ins ((fixL_len xs).trans HLN.out)
        have hb4w := HB3.out.trans (hb4.mono hz3)
        have HB4 := Lib.hid hb4w
        have hz4 := hb4w.size
        have HV4 := Lib.hid (OwnB.below HV3.out hb4)
        have W4 := Lib.hid (Written_c big A4 n c4 (fixL xs) w4 hI4 (by omega) fun i hi => (fixL_ok HLAB.out HCB.out i hi).1)
        clear hv4 hb4 hb4w hI4 F3
        go_wp2_with fail
        refine W4.out.mono ?_
        rintro e w5 ⟨v5, rfl, hv5, hb5⟩
        obtain ⟨A5, n5, c5, rfl, hn5⟩ := hv5.slice
        have hb5w := HB4.out.trans (hb5.mono hz4)
        have HB5 := Lib.hid hb5w
        have hz5 := hb5w.size
        have hle := encs_len_le big (fixL xs)
        rw [fixL_len] at hle
        have EQ := Lib.hid (equalOwnB A3 A5 n3 n5 c3 c5 _ _ (encs big (fixL xs)) w5 (OwnB.below HV4.out hb5) hv5 (by have := HLN.out; omega))
        clear hv5 hb5 hb5w W4 hn3 hn5 hle
        go_wp2_with fail
        refine EQ.out.mono ?_
        rintro e w6 ⟨rfl, hb6⟩
        have HB6 := Lib.hid (HB5.out.trans (hb6.mono hz5))
        clear hb6
        go_wp2
        go_ret
        exact ⟨rfl, HB6.out⟩
theorem fnLab_row (W : World) (A : Option Addr) (n cap : Nat) (xs : List Ins) (h : InsAt W A n xs ∧ n ≤ maxLen ∧ ∀ i ∈ xs, -9223372036854775808 ≤ i.c ∧ i.c ≤ 9223372036854775807) (big : Bool) (hL : laidMetH Tryz.prog [("loop.example/pub-g03146/pub/ebpfasm.ErrUnsatisfiedProgramReference", Rows.laid_loop_example_pub_g03146_pub_ebpfasm_ErrUnsatisfiedProgramReference)] W) :
    Calls Tryz.prog 4 #[.slice A n cap, .bool big] W fun e w' => e = .returned (.bool true) ∧ Below W.heap.size W w' := by
  obtain ⟨aE, hE⟩ := eup_of_laid hL
  exact fnLab_all big A n cap xs W aE h.1 h.2.1 h.2.2 hE
end Go.Proofs.YtakigeichhngbaaGreatDoor
