import Derived.Test.YtakigeichhngbaaGreatDoorUnmI
import Derived.Test.YtakigeichhngbaaGreatDoorOkProg
import Derived.Test.YtakigeichhngbaaGreatDoorOpenB
namespace Go.Proofs.YtakigeichhngbaaGreatDoor
open Go.RowKit
set_option linter.unusedVariables false
set_option linter.unusedSimpArgs false
set_option maxRecDepth 100000 in
set_option maxHeartbeats 2000000 in
theorem fnUnm_all (big : Bool) (A : Option Addr) (n cap : Nat) (xs : List Ins) (w : World) (E U : Addr) (h : InsAt w A n xs) (hn : n ≤ maxLen) (hcb : ∀ i ∈ xs, CBd i) (he : EofIn w E U) (hg2 : 0 < w.heap.size) (hg5 : 5 < w.heap.size) (hE : E.block < w.heap.size) (hU : U.block < w.heap.size) :
    Calls Tryz.prog 3 #[.slice A n cap, .bool big] w fun e w' => e = .returned (.bool true) ∧ Below w.heap.size w w' := by
  have hn63 : n ≤ 9223372036854775807 := hn
  cases hz : (decide (n ≤ 2147483647) && xs.all fun i => zzIns i.sym i.ref)
  · have Z := Lib.hid (zzFits1_c A n cap xs w h hn63)
    rw [hz] at Z
    clear hz h hn hn63 hcb he
    go_enter Tryz.func3, Tryz.ntmps3
    go_wp2_with fail
    refine Z.out.mono ?_
    rintro e w1 ⟨rfl, hb1⟩
    have HB := Lib.hid hb1
    clear hb1
    go_wp2
    go_ret
    exact ⟨rfl, HB.out⟩
  · have hn31 : n ≤ 2147483647 := by simp only [Bool.and_eq_true, decide_eq_true_eq] at hz; exact hz.1
    cases hp : progOk xs
    · skip
      have Z := Lib.hid (zzFits1_c A n cap xs w h hn63)
      rw [hz] at Z
      have P := Lib.hid fun (W : World) (hb : Below w.heap.size w W) => programOk_c A n cap xs W (h.keep hb) hn31
      rw [hp] at P
      clear hz hp h hn hn63 hcb he
      go_enter Tryz.func3, Tryz.ntmps3
      go_wp2_with fail
      refine Z.out.mono ?_
      rintro e w1 ⟨rfl, hb1⟩
      have HB := Lib.hid hb1
      have hz1 := hb1.size
      have P1 := Lib.hid (P.out w1 hb1)
      clear hb1 P Z
      go_wp2_with fail
      refine P1.out.mono ?_
      rintro e w2 ⟨rfl, hb2⟩
      have hbw2 := HB.out.trans (hb2.mono hz1)
      have HB2 := Lib.hid hbw2
      have hz2 := hbw2.size
      clear hb2 P1 HB
      clear hbw2
      go_wp2
      go_ret
      exact ⟨rfl, HB2.out⟩
    · obtain ⟨hl60, hok⟩ := progOk_ok hp
      have hln := h.1
      have Z := Lib.hid (zzFits1_c A n cap xs w h hn63)
      rw [hz] at Z
      have P := Lib.hid fun (W : World) (hb : Below w.heap.size w W) => programOk_c A n cap xs W (h.keep hb) hn31
      rw [hp] at P
      have HIN := Lib.hid fun (W : World) (hb : Below w.heap.size w W) => h.keep hb
      have HK := Lib.hid (show ∀ i ∈ xs, OkF i ∧ -9223372036854775808 ≤ i.c ∧ i.c ≤ 9223372036854775807 from fun i hi => ⟨hok i hi, hcb i hi⟩)
      have hn60 : n ≤ 60 := by omega
      have HLN := Lib.hid hln
      have HEO := Lib.hid he
      clear hz hp h hn hn63 hcb hok hln he
      go_enter Tryz.func3, Tryz.ntmps3
      go_wp2_with fail
      refine Z.out.mono ?_
      rintro e w1 ⟨rfl, hb1⟩
      have HB := Lib.hid hb1
      have hz1 := hb1.size
      have P1 := Lib.hid (P.out w1 hb1)
      clear hb1 P Z
      go_wp2_with fail
      refine P1.out.mono ?_
      rintro e w2 ⟨rfl, hb2⟩
      have hbw2 := HB.out.trans (hb2.mono hz1)
      have HB2 := Lib.hid hbw2
      have hz2 := hbw2.size
      clear hb2 P1 HB
      clear hbw2
      have W2 := Lib.hid (Written_c big A n cap xs w2 (HIN.out w2 HB2.out) (by omega) fun i hi => (HK.out i hi).1.toOkN)
      go_wp2_with fail
      refine W2.out.mono ?_
      rintro e w3 ⟨v3, rfl, hv3, hb3⟩
      obtain ⟨A3, n3, c3, rfl, hn3⟩ := hv3.slice
      have hby := encs_byte big xs fun i hi => (HK.out i hi).1.toOkN
      obtain ⟨B3, hn3', hc3⟩ := hv3.bytes hby (encs big xs).length (Nat.le_refl _)
      rw [List.take_length] at B3
      have hb3w := HB2.out.trans (hb3.mono hz2)
      have HB3 := Lib.hid hb3w
      have hz3 := hb3w.size
      have OK := Lib.hid (UnmI_ok big A3 n3 c3 xs w3 E U B3 hn3'.symm HK.out (by omega) (HEO.out.keep HB3.out hg2 hg5 hE hU) (by omega) (by omega) (by omega) (by omega))
      clear hn3 hn3' hc3 hb3 hb3w hv3 hby B3 W2
      go_wp2_with fail
      refine OK.out.mono ?_
      rintro e w4 ⟨v4, rfl, ho4, hb4⟩
      obtain ⟨A4, c4, rfl, hI4⟩ := ho4.ins HLN.out
      have hb4w := HB3.out.trans (hb4.mono hz3)
      have HB4 := Lib.hid hb4w
      have hz4 := hb4w.size
      have EQ := Lib.hid (equalIns_c A4 A n c4 cap xs w4 (by omega) hI4 (HIN.out w4 hb4w))
      clear ho4 hb4 hI4 hb4w OK
      go_wp2_with fail
      refine EQ.out.mono ?_
      rintro e w5 ⟨rfl, hb5⟩
      have HB5 := Lib.hid (HB4.out.trans (hb5.mono hz4))
      clear hb5
      go_wp2
      go_ret
      exact ⟨rfl, HB5.out⟩
theorem fnUnm_row (W : World) (A : Option Addr) (n cap : Nat) (xs : List Ins) (h : InsAt W A n xs ∧ n ≤ maxLen ∧ ∀ i ∈ xs, -9223372036854775808 ≤ i.c ∧ i.c ≤ 9223372036854775807) (big : Bool) (hL : laidMetH Tryz.prog [("io.ErrShortBuffer", Rows.laid_io_ErrShortBuffer), ("io.EOF", Rows.laid_io_EOF), ("io.ErrUnexpectedEOF", Rows.laid_io_ErrUnexpectedEOF)] W) :
    Calls Tryz.prog 3 #[.slice A n cap, .bool big] W fun e w' => e = .returned (.bool true) ∧ Below W.heap.size W w' := by
  obtain ⟨E, U, hE⟩ := errs_of_laid hL
  obtain ⟨h2, h5⟩ := globals_lt hE.errs
  obtain ⟨c, t, he⟩ := hE.e
  obtain ⟨d, s, hu⟩ := hE.u
  exact fnUnm_all big A n cap xs W E U h.1 h.2.1 h.2.2 ⟨hE.errs, hE.ne, hE.e, hE.u⟩ h2 h5 (lt_of_blk he) (lt_of_blk hu)
end Go.Proofs.YtakigeichhngbaaGreatDoor
