import Derived.Test.YtakigeichhngbaaGreatDoorMarW
import Derived.Test.YtakigeichhngbaaGreatDoorOkProg
import Derived.Test.YtakigeichhngbaaGreatDoorOpenB
namespace Go.Proofs.YtakigeichhngbaaGreatDoor
open Go.RowKit
set_option linter.unusedVariables false
set_option linter.unusedSimpArgs false
set_option maxRecDepth 100000 in
set_option maxHeartbeats 2000000 in
theorem fnMars_all (big : Bool) (A : Option Addr) (n cap : Nat) (xs : List Ins) (w : World) (h : InsAt w A n xs) (hn : n ≤ maxLen) (hcb : ∀ i ∈ xs, CBd i) :
    Calls Tryz.prog 5 #[.slice A n cap, .bool big] w fun e w' => e = .returned (.bool true) ∧ Below w.heap.size w w' := by
  have hn63 : n ≤ 9223372036854775807 := hn
  cases hz : (decide (n ≤ 2147483647) && xs.all fun i => zzIns i.sym i.ref)
  · have Z := Lib.hid (zzFits1_c A n cap xs w h hn63)
    rw [hz] at Z
    clear hz h hn hn63 hcb
    go_enter Tryz.func5, Tryz.ntmps5
    go_wp2_with fail
    refine Z.out.mono ?_
    rintro e w1 ⟨rfl, hb1⟩
    have HB := Lib.hid hb1
    clear hb1
    go_wp2
    go_ret
    exact ⟨rfl, HB.out⟩
  · have hn31 : n ≤ 2147483647 := by simp only [Bool.and_eq_true, decide_eq_true_eq] at hz; exact hz.1
    cases hp : progOk xs
    · skip
      have Z := Lib.hid (zzFits1_c A n cap xs w h hn63)
      rw [hz] at Z
      have P := Lib.hid fun (W : World) (hb : Below w.heap.size w W) => programOk_c A n cap xs W (h.keep hb) hn31
      rw [hp] at P
      clear hz hp h hn hn63 hcb
      go_enter Tryz.func5, Tryz.ntmps5
      go_wp2_with fail
      refine Z.out.mono ?_
      rintro e w1 ⟨rfl, hb1⟩
      have HB := Lib.hid hb1
      have hz1 := hb1.size
      have P1 := Lib.hid (P.out w1 hb1)
      clear hb1 P Z
      go_wp2_with fail
      refine P1.out.mono ?_
      rintro e w2 ⟨rfl, hb2⟩
      have hbw2 := HB.out.trans (hb2.mono hz1)
      have HB2 := Lib.hid hbw2
      have hz2 := hbw2.size
      clear hb2 P1 HB
      clear hbw2
      go_wp2
      go_ret
      exact ⟨rfl, HB2.out⟩
    · obtain ⟨hl60, hok⟩ := progOk_ok hp
      have hln := h.1
      rcases Nat.eq_zero_or_pos n with h0 | h0
      · subst h0
        have Z := Lib.hid (zzFits1_c A 0 cap xs w h hn63)
        rw [hz] at Z
        have P := Lib.hid fun (W : World) (hb : Below w.heap.size w W) => programOk_c A 0 cap xs W (h.keep hb) hn31
        rw [hp] at P
        clear hz hp h hn hn63 hcb
        go_enter Tryz.func5, Tryz.ntmps5
        go_wp2_with fail
        refine Z.out.mono ?_
        rintro e w1 ⟨rfl, hb1⟩
        have HB := Lib.hid hb1
        have hz1 := hb1.size
        have P1 := Lib.hid (P.out w1 hb1)
        clear hb1 P Z
        go_wp2_with fail
        refine P1.out.mono ?_
        rintro e w2 ⟨rfl, hb2⟩
        have hbw2 := HB.out.trans (hb2.mono hz1)
        have HB2 := Lib.hid hbw2
        have hz2 := hbw2.size
        clear hb2 P1 HB
        clear hbw2
        go_wp2
        go_ret
        exact ⟨rfl, HB2.out⟩
      · have hnz : ((n : Int) == 0) = false := by simp; omega
        have Z := Lib.hid (zzFits1_c A n cap xs w h hn63)
        rw [hz] at Z
        have P := Lib.hid fun (W : World) (hb : Below w.heap.size w W) => programOk_c A n cap xs W (h.keep hb) hn31
        rw [hp] at P
        have HIN := Lib.hid fun (W : World) (hb : Below w.heap.size w W) => h.keep hb
        have HK := Lib.hid (show ∀ i ∈ xs, OkF i ∧ -9223372036854775808 ≤ i.c ∧ i.c ≤ 9223372036854775807 from fun i hi => ⟨hok i hi, hcb i hi⟩)
        have hn60 : n ≤ 60 := by omega
        have HLN := Lib.hid hln
        clear hz hp h hn hn63 hcb hok hln
        go_enter Tryz.func5, Tryz.ntmps5
        go_wp2_with fail
        refine Z.out.mono ?_
        rintro e w1 ⟨rfl, hb1⟩
        have HB := Lib.hid hb1
        have hz1 := hb1.size
        have P1 := Lib.hid (P.out w1 hb1)
        clear hb1 P Z
        go_wp2_with fail
        refine P1.out.mono ?_
        rintro e w2 ⟨rfl, hb2⟩
        have hbw2 := HB.out.trans (hb2.mono hz1)
        have HB2 := Lib.hid hbw2
        have hz2 := hbw2.size
        clear hb2 P1 HB
        clear hbw2
        have M2 := Lib.hid (ImplMar_c big A n cap xs w2 (HIN.out w2 HB2.out) (by omega) HK.out h0)
        go_wp2_with fail
        refine M2.out.mono ?_
        rintro e w3 ⟨v3, rfl, hv3, hb3⟩
        obtain ⟨A3, n3, c3, rfl, hn3⟩ := hv3.slice
        have hb3w := HB2.out.trans (hb3.mono hz2)
        have HB3 := Lib.hid hb3w
        have hz3 := hb3w.size
        have HV3 := Lib.hid hv3
        have W3 := Lib.hid (Written_c big A n cap xs w3 (HIN.out w3 HB3.out) (by omega) fun i hi => (HK.out i hi).1.toOkN)
        clear hv3 hb3 hb3w M2
        go_wp2_with fail
        refine W3.out.mono ?_
        rintro e w4 ⟨v4, rfl, hv4, hb4⟩
        obtain ⟨A4, n4, c4, rfl, hn4⟩ := hv4.slice
        have hb4w := HB3.out.trans (hb4.mono hz3)
        have HB4 := Lib.hid hb4w
        have hz4 := hb4w.size
        have hle := encs_len_le big xs
        have EQ := Lib.hid (equalOwnB A3 A4 n3 n4 c3 c4 _ _ (encs big xs) w4 (OwnB.below HV3.out hb4) hv4 (by have := HLN.out; omega))
        clear hv4 hb4 hb4w W3 hn3 hn4 hle
        go_wp2_with fail
        refine EQ.out.mono ?_
        rintro e w5 ⟨rfl, hb5⟩
        have HB5 := Lib.hid (HB4.out.trans (hb5.mono hz4))
        clear hb5
        go_wp2
        go_ret
        exact ⟨rfl, HB5.out⟩
theorem fnMars_row (W : World) (A : Option Addr) (n cap : Nat) (xs : List Ins) (h : InsAt W A n xs ∧ n ≤ maxLen ∧ ∀ i ∈ xs, -9223372036854775808 ≤ i.c ∧ i.c ≤ 9223372036854775807) (big : Bool) (hL : laidMetH Tryz.prog [("loop.example/pub-g03146/pub/ebpfasm.ErrUnsatisfiedProgramReference", Rows.laid_loop_example_pub_g03146_pub_ebpfasm_ErrUnsatisfiedProgramReference)] W) :
    Calls Tryz.prog 5 #[.slice A n cap, .bool big] W fun e w' => e = .returned (.bool true) ∧ Below W.heap.size W w' := by
  exact fnMars_all big A n cap xs W h.1 h.2.1 h.2.2
end Go.Proofs.YtakigeichhngbaaGreatDoor
