import Derived.Test.YtakigeichhngbaaGreatDoorMarW
import Derived.Test.YtakigeichhngbaaGreatDoorUnmI
import Derived.Test.YtakigeichhngbaaGreatDoorOkProg
import Derived.Test.YtakigeichhngbaaGreatDoorOpenB
namespace Go.Proofs.YtakigeichhngbaaGreatDoor
open Go.RowKit
set_option linter.unusedVariables false
set_option linter.unusedSimpArgs false
set_option maxRecDepth 100000 in
set_option maxHeartbeats 2000000 in
theorem fnOrd_all (A : Option Addr) (n cap : Nat) (xs : List Ins) (w : World) (E U : Addr) (h : InsAt w A n xs) (hn : n ≤ maxLen) (hcb : ∀ i ∈ xs, CBd i) (he : EofIn w E U) (hg2 : 0 < w.heap.size) (hg5 : 5 < w.heap.size) (hE : E.block < w.heap.size) (hU : U.block < w.heap.size) :
    Calls Tryz.prog 6 #[.slice A n cap] w fun e w' => e = .returned (.bool true) ∧ Below w.heap.size w w' := by
  have hn63 : n ≤ 9223372036854775807 := hn
  cases hz : (decide (n ≤ 2147483647) && xs.all fun i => zzIns i.sym i.ref)
  · have Z := Lib.hid (zzFits1_c A n cap xs w h hn63)
    rw [hz] at Z
    clear hz h hn hn63 hcb he
    go_enter Tryz.func6, Tryz.ntmps6
    go_wp2_with fail
    refine Z.out.mono ?_
    rintro e w1 ⟨rfl, hb1⟩
    have HB := Lib.hid hb1
    clear hb1
    go_wp2
    go_ret
    exact ⟨rfl, HB.out⟩
  · have hn31 : n ≤ 2147483647 := by simp only [Bool.and_eq_true, decide_eq_true_eq] at hz; exact hz.1
    cases hp : progOk xs
    · skip
      have Z := Lib.hid (zzFits1_c A n cap xs w h hn63)
      rw [hz] at Z
      have P := Lib.hid fun (W : World) (hb : Below w.heap.size w W) => programOk_c A n cap xs W (h.keep hb) hn31
      rw [hp] at P
      clear hz hp h hn hn63 hcb he
      go_enter Tryz.func6, Tryz.ntmps6
      go_wp2_with fail
      refine Z.out.mono ?_
      rintro e w1 ⟨rfl, hb1⟩
      have HB := Lib.hid hb1
      have hz1 := hb1.size
      have P1 := Lib.hid (P.out w1 hb1)
      clear hb1 P Z
      go_wp2_with fail
      refine P1.out.mono ?_
      rintro e w2 ⟨rfl, hb2⟩
      have hbw2 := HB.out.trans (hb2.mono hz1)
      have HB2 := Lib.hid hbw2
      have hz2 := hbw2.size
      clear hb2 P1 HB
      clear hbw2
      go_wp2
      go_ret
      exact ⟨rfl, HB2.out⟩
    · obtain ⟨hl60, hok⟩ := progOk_ok hp
      have hln := h.1
      rcases Nat.eq_zero_or_pos n with h0 | h0
      · subst h0
        have Z := Lib.hid (zzFits1_c A 0 cap xs w h hn63)
        rw [hz] at Z
        have P := Lib.hid fun (W : World) (hb : Below w.heap.size w W) => programOk_c A 0 cap xs W (h.keep hb) hn31
        rw [hp] at P
        clear hz hp h hn hn63 hcb he
        go_enter Tryz.func6, Tryz.ntmps6
        go_wp2_with fail
        refine Z.out.mono ?_
        rintro e w1 ⟨rfl, hb1⟩
        have HB := Lib.hid hb1
        have hz1 := hb1.size
        have P1 := Lib.hid (P.out w1 hb1)
        clear hb1 P Z
        go_wp2_with fail
        refine P1.out.mono ?_
        rintro e w2 ⟨rfl, hb2⟩
        have hbw2 := HB.out.trans (hb2.mono hz1)
        have HB2 := Lib.hid hbw2
        have hz2 := hbw2.size
        clear hb2 P1 HB
        clear hbw2
        go_wp2
        go_ret
        exact ⟨rfl, HB2.out⟩
      · have hnz : ((n : Int) == 0) = false := by simp; omega
        have Z := Lib.hid (zzFits1_c A n cap xs w h hn63)
        rw [hz] at Z
        have P := Lib.hid fun (W : World) (hb : Below w.heap.size w W) => programOk_c A n cap xs W (h.keep hb) hn31
        rw [hp] at P
        have HIN := Lib.hid fun (W : World) (hb : Below w.heap.size w W) => h.keep hb
        have HK := Lib.hid (show ∀ i ∈ xs, OkF i ∧ -9223372036854775808 ≤ i.c ∧ i.c ≤ 9223372036854775807 from fun i hi => ⟨hok i hi, hcb i hi⟩)
        have hn60 : n ≤ 60 := by omega
        have HLN := Lib.hid hln
        have HEO := Lib.hid he
        clear hz hp h hn hn63 hcb hok hln he
        go_enter Tryz.func6, Tryz.ntmps6
        go_wp2_with fail
        refine Z.out.mono ?_
        rintro e w1 ⟨rfl, hb1⟩
        have HB := Lib.hid hb1
        have hz1 := hb1.size
        have P1 := Lib.hid (P.out w1 hb1)
        clear hb1 P Z
        go_wp2_with fail
        refine P1.out.mono ?_
        rintro e w2 ⟨rfl, hb2⟩
        have hbw2 := HB.out.trans (hb2.mono hz1)
        have HB2 := Lib.hid hbw2
        have hz2 := hbw2.size
        clear hb2 P1 HB
        clear hbw2
        have hle := encs_len_le false xs
        have hle2 := encs_len_le true xs
        have M2 := Lib.hid (ImplMar_c false A n cap xs w2 (HIN.out w2 HB2.out) (by omega) HK.out h0)
        go_wp2_with fail
        refine M2.out.mono ?_
        rintro e w3 ⟨v3, rfl, hv3, hb3⟩
        obtain ⟨A3, n3, c3, rfl, hn3⟩ := hv3.slice
        have hb3w := HB2.out.trans (hb3.mono hz2)
        have HB3 := Lib.hid hb3w
        have hz3 := hb3w.size
        have HV3 := Lib.hid hv3
        have M3 := Lib.hid (ImplMar_c true A n cap xs w3 (HIN.out w3 HB3.out) (by omega) HK.out h0)
        clear hv3 hb3 hb3w M2
        go_wp2_with fail
        refine M3.out.mono ?_
        rintro e w4 ⟨v4, rfl, hv4, hb4⟩
        obtain ⟨A4, n4, c4, rfl, hn4⟩ := hv4.slice
        have hb4w := HB3.out.trans (hb4.mono hz3)
        have HB4 := Lib.hid hb4w
        have hz4 := hb4w.size
        have hby := encs_byte false xs fun i hi => (HK.out i hi).1.toOkN
        have hby2 := encs_byte true xs fun i hi => (HK.out i hi).1.toOkN
        obtain ⟨B3, hn3', hc3⟩ := (OwnB.below HV3.out hb4).bytes hby _ (Nat.le_refl _)
        rw [List.take_length] at B3
        obtain ⟨B4, hn4', hc4⟩ := hv4.bytes hby2 _ (Nat.le_refl _)
        rw [List.take_length] at B4
        have hll := encs_len2 xs
        have hn34 : n3 = n4 := by omega
        subst hn34
        have U4 := Lib.hid (UnmI_ok false A3 n3 c3 xs w4 E U B3 hn3'.symm HK.out (by omega) (HEO.out.keep HB4.out hg2 hg5 hE hU) (by omega) (by omega) (by omega) (by omega))
        have U5 := Lib.hid fun (W : World) (hb : Below w4.heap.size w4 W) => UnmI_ok true A4 n3 c4 xs W E U (B4.keep hb) hn4'.symm HK.out (by omega) (HEO.out.keep (HB4.out.trans (hb.mono hz4)) hg2 hg5 hE hU) (by have := hb.size; omega) (by have := hb.size; omega) (by have := hb.size; omega) (by have := hb.size; omega)
        have hlen := HLN.out
        have n3s : n3 ≤ 16000 := by omega
        clear hlen hle hle2 hll hby hby2 B3 B4 hn3 hn3' hc3 hn4 hn4' hc4 hv4 hb4 hb4w M3
        go_wp2_with fail
        refine U4.out.mono ?_
        rintro e w5 ⟨v5, rfl, ho5, hb5⟩
        obtain ⟨A5, c5, rfl, hI5⟩ := ho5.ins HLN.out
        have hb5w := HB4.out.trans (hb5.mono hz4)
        have HB5 := Lib.hid hb5w
        have hz5 := hb5w.size
        have HI5 := Lib.hid hI5
        have U6 := Lib.hid (U5.out w5 hb5)
        clear ho5 hb5 hb5w hI5 U4 U5
        go_wp2_with fail
        refine U6.out.mono ?_
        rintro e w6 ⟨v6, rfl, ho6, hb6⟩
        obtain ⟨A6, c6, rfl, hI6⟩ := ho6.ins HLN.out
        have hb6w := HB5.out.trans (hb6.mono hz5)
        have HB6 := Lib.hid hb6w
        have hz6 := hb6w.size
        have HI6 := Lib.hid hI6
        have EQ := Lib.hid (equalIns_c A5 A n c5 cap xs w6 (by omega) (HI5.out.keep hb6) (HIN.out w6 hb6w))
        clear ho6 hb6 hb6w hI6 U6
        go_wp2_with fail
        refine EQ.out.mono ?_
        rintro e w7 ⟨rfl, hb7⟩
        have hb7w := HB6.out.trans (hb7.mono hz6)
        have HB7 := Lib.hid hb7w
        have hz7 := hb7w.size
        have EQ2 := Lib.hid (equalIns_c A6 A n c6 cap xs w7 (by omega) (HI6.out.keep hb7) (HIN.out w7 hb7w))
        clear hb7 hb7w EQ
        go_wp2_with fail
        refine EQ2.out.mono ?_
        rintro e w8 ⟨rfl, hb8⟩
        have HB8 := Lib.hid (HB7.out.trans (hb8.mono hz7))
        clear hb8
        go_wp2
        go_ret
        exact ⟨rfl, HB8.out⟩
theorem fnOrd_row (W : World) (A : Option Addr) (n cap : Nat) (xs : List Ins) (h : InsAt W A n xs ∧ n ≤ maxLen ∧ ∀ i ∈ xs, -9223372036854775808 ≤ i.c ∧ i.c ≤ 9223372036854775807) (hL : laidMetH Tryz.prog [("io.ErrShortBuffer", Rows.laid_io_ErrShortBuffer), ("io.EOF", Rows.laid_io_EOF), ("io.ErrUnexpectedEOF", Rows.laid_io_ErrUnexpectedEOF), ("loop.example/pub-g03146/pub/ebpfasm.ErrUnsatisfiedProgramReference", Rows.laid_loop_example_pub_g03146_pub_ebpfasm_ErrUnsatisfiedProgramReference)] W) :
    Calls Tryz.prog 6 #[.slice A n cap] W fun e w' => e = .returned (.bool true) ∧ Below W.heap.size W w' := by
  obtain ⟨E, U, hE⟩ := errs_of_laid4 hL
  obtain ⟨h2, h5⟩ := globals_lt hE.errs
  obtain ⟨c, t, he⟩ := hE.e
  obtain ⟨d, s, hu⟩ := hE.u
  exact fnOrd_all A n cap xs W E U h.1 h.2.1 h.2.2 ⟨hE.errs, hE.ne, hE.e, hE.u⟩ h2 h5 (lt_of_blk he) (lt_of_blk hu)
end Go.Proofs.YtakigeichhngbaaGreatDoor
