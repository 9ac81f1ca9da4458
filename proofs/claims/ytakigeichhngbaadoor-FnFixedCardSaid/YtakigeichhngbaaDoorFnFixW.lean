import Derived.Test.YtakigeichhngbaaDoorFixW
import Derived.Test.YtakigeichhngbaaDoorTellF
import Derived.Test.YtakigeichhngbaaDoorOpenE
namespace Go.Proofs.YtakigeichhngbaaDoor
open Go.RowKit
set_option linter.unusedVariables false
set_option linter.unusedSimpArgs false
theorem labOk_op0 {xs : List Ins} (h : labOk xs = true) (h0 : 0 < xs.length) : (xs[0].op == 0) = false := by
  have hk := (bare_okN (refOk_bare ((labOk_at h).2.2 0 h0))).code
  cases hx : (xs[0].op == 0)
  · rfl
  · have hx' : xs[0].op = 0 := by simpa using hx
    rw [hx'] at hk
    have a : sIsALU 0 = false := by decide +kernel
    have b : sIsJump 0 = false := by decide +kernel
    have c : sIsAtomic 0 = false := by decide +kernel
    have d : sMemoryOk 0 = false := by decide +kernel
    simp only [sOpOk, a, b, c, d, cond_false, Bool.and_false] at hk
    cases hk
set_option maxRecDepth 100000 in
set_option maxHeartbeats 2000000 in
theorem fnFix_all (A : Option Addr) (n cap : Nat) (xs : List Ins) (w : World) (aE : Addr) (h : InsAt w A n xs) (hn : n ≤ maxLen) (hcb : ∀ i ∈ xs, CBd i) (he : w.cell? ⟨3, 0, none⟩ = some (.iface 137 (.pointer (some aE)))) :
    Calls Tryd.prog 4 #[.slice A n cap] w fun e w' => e = .returned (.bool true) ∧ Below w.heap.size w w' := by
  have hn63 : n ≤ 9223372036854775807 := hn
  cases hz : (decide (n ≤ 2147483647) && xs.all fun i => zzIns i.sym i.ref)
  · have Z := Lib.hid (zzFits1_c A n cap xs w h hn63)
    rw [hz] at Z
    clear hz h hn hn63 hcb he
    go_enter Tryd.func4, Tryd.ntmps4
    go_wp2_with fail
    refine Z.out.mono ?_
    rintro e w1 ⟨rfl, hb1⟩
    have HB := Lib.hid hb1
    clear hb1
    go_wp2
    go_ret
    exact ⟨rfl, HB.out⟩
  · have hn31 : n ≤ 2147483647 := by simp only [Bool.and_eq_true, decide_eq_true_eq] at hz; exact hz.1
    have hzi : ∀ i ∈ xs, i.sym.size ≤ 2147483647 ∧ i.ref.size ≤ 2147483647 := by
      simp only [Bool.and_eq_true, decide_eq_true_eq, List.all_eq_true] at hz
      intro i hi
      have := hz.2 i hi
      simpa [zzIns] using this
    have hsy : ∀ i ∈ xs, i.sym.size ≤ 2147483647 := fun i hi => (hzi i hi).1
    cases hp : labOk xs
    · skip
      have Z := Lib.hid (zzFits1_c A n cap xs w h hn63)
      rw [hz] at Z
      have P := Lib.hid fun (W : World) (hb : Below w.heap.size w W) => ProgramOk_c A n cap xs W (h.keep hb) hn31 hsy
      rw [hp] at P
      clear hz hp h hn hn63 hcb hzi hsy he
      go_enter Tryd.func4, Tryd.ntmps4
      go_wp2_with fail
      refine Z.out.mono ?_
      rintro e w1 ⟨rfl, hb1⟩
      have HB := Lib.hid hb1
      have hz1 := hb1.size
      have P1 := Lib.hid (P.out w1 hb1)
      clear hb1 P Z
      go_wp2_with fail
      refine P1.out.mono ?_
      rintro e w2 ⟨rfl, hb2⟩
      have hbw2 := HB.out.trans (hb2.mono hz1)
      have HB2 := Lib.hid hbw2
      have hz2 := hbw2.size
      clear hb2 P1 HB
      clear hbw2
      go_wp2
      go_ret
      exact ⟨rfl, HB2.out⟩
    · have hl60 := (labOk_at hp).1
      have hln := h.1
      rcases Nat.eq_zero_or_pos n with h0 | h0
      · subst h0
        have Z := Lib.hid (zzFits1_c A 0 cap xs w h hn63)
        rw [hz] at Z
        have P := Lib.hid fun (W : World) (hb : Below w.heap.size w W) => ProgramOk_c A 0 cap xs W (h.keep hb) hn31 hsy
        rw [hp] at P
        clear hz hp h hn hn63 hcb hzi hsy he
        go_enter Tryd.func4, Tryd.ntmps4
        go_wp2_with fail
        refine Z.out.mono ?_
        rintro e w1 ⟨rfl, hb1⟩
        have HB := Lib.hid hb1
        have hz1 := hb1.size
        have P1 := Lib.hid (P.out w1 hb1)
        clear hb1 P Z
        go_wp2_with fail
        refine P1.out.mono ?_
        rintro e w2 ⟨rfl, hb2⟩
        have hbw2 := HB.out.trans (hb2.mono hz1)
        have HB2 := Lib.hid hbw2
        have hz2 := hbw2.size
        clear hb2 P1 HB
        clear hbw2
        go_wp2
        go_ret
        exact ⟨rfl, HB2.out⟩
      · have hnz : ((n : Int) == 0) = false := by simp; omega
        have Z := Lib.hid (zzFits1_c A n cap xs w h hn63)
        rw [hz] at Z
        have P := Lib.hid fun (W : World) (hb : Below w.heap.size w W) => ProgramOk_c A n cap xs W (h.keep hb) hn31 hsy
        rw [hp] at P
        have HIN := Lib.hid fun (W : World) (hb : Below w.heap.size w W) => h.keep hb
        have HLAB := Lib.hid hp
        have HCB := Lib.hid hcb
        have HRZ := Lib.hid (show ∀ i ∈ xs, i.ref.size ≤ maxLen from fun i hi => by have := (hzi i hi).2; unfold maxLen; omega)
        have hn60 : n ≤ 60 := by omega
        have HLN := Lib.hid hln
        have HE := Lib.hid he
        have hEl : 3 < w.heap.size := block_lt_of_cell he
        clear hz hp h hn hn63 hcb hln hzi hsy he
        go_enter Tryd.func4, Tryd.ntmps4
        go_wp2_with fail
        refine Z.out.mono ?_
        rintro e w1 ⟨rfl, hb1⟩
        have HB := Lib.hid hb1
        have hz1 := hb1.size
        have P1 := Lib.hid (P.out w1 hb1)
        clear hb1 P Z
        go_wp2_with fail
        refine P1.out.mono ?_
        rintro e w2 ⟨rfl, hb2⟩
        have hbw2 := HB.out.trans (hb2.mono hz1)
        have HB2 := Lib.hid hbw2
        have hz2 := hbw2.size
        clear hb2 P1 HB
        clear hbw2
        have hxl : 0 < xs.length := by have := HLN.out; omega
        have hop0 := labOk_op0 HLAB.out hxl
        have hI2 := HIN.out w2 HB2.out
        obtain ⟨b0, o0, rfl, hlt0, hc0⟩ := hI2.2.resolve_left (by omega)
        have hcl := (hc0 0 hxl).1
        simp only [Nat.zero_mul, Nat.add_zero] at hcl
        obtain ⟨x0, hx0⟩ : ∃ x, x = xs[0].op := ⟨_, rfl⟩
        rw [← hx0] at hop0 hcl
        have hn0 : (0 : Int) < (n : Int) := by omega
        clear hI2 hc0 hx0
        have M2 := Lib.hid (ImpFixed_c _ n cap xs _ w2 (HIN.out w2 HB2.out) h0 HLAB.out HRZ.out ((HB2.out.cell (p := ⟨_, 0, none⟩) hEl).trans HE.out))
        go_wp2_with fail
        refine M2.out.mono ?_
        rintro e w3 ⟨v3, rfl, hv3, hb3⟩
        obtain ⟨A3, c3, rfl, hI3⟩ := hv3.ins ((fixL_len xs).trans HLN.out)
        have hb3w := HB2.out.trans (hb3.mono hz2)
        have HB3 := Lib.hid hb3w
        have hz3 := hb3w.size
        have B3 := Lib.hid (Bare_c A3 n c3 (fixL xs) w3 hI3 (by omega))
        clear hv3 hb3 hb3w hI3 M2
        go_wp2_with fail
        refine B3.out.mono ?_
        rintro e w4 ⟨v4, rfl, hv4, hb4⟩
        obtain ⟨A4, c4, rfl, hI4⟩ := hv4.ins ((List.length_map _).trans ((fixL_len xs).trans HLN.out))
        have hb4w := HB3.out.trans (hb4.mono hz3)
        have HB4 := Lib.hid hb4w
        have hz4 := hb4w.size
        have HI4 := Lib.hid hI4
        have F4 := Lib.hid (SFixed_c _ n cap xs w4 (HIN.out w4 hb4w) HLAB.out)
        clear hv4 hb4 hb4w hI4 B3
        go_wp2_with fail
        refine F4.out.mono ?_
        rintro e w5 ⟨v5, rfl, hv5, hb5⟩
        obtain ⟨A5, c5, rfl, hI5⟩ := hv5.ins ((fixL_len xs).trans HLN.out)
        have hb5w := HB4.out.trans (hb5.mono hz4)
        have HB5 := Lib.hid hb5w
        have hz5 := hb5w.size
        have HI45 := Lib.hid (HI4.out.keep hb5)
        have B5 := Lib.hid (Bare_c A5 n c5 (fixL xs) w5 hI5 (by omega))
        clear hv5 hb5 hb5w hI5 F4
        go_wp2_with fail
        refine B5.out.mono ?_
        rintro e w6 ⟨v6, rfl, hv6, hb6⟩
        obtain ⟨A6, c6, rfl, hI6⟩ := hv6.ins ((List.length_map _).trans ((fixL_len xs).trans HLN.out))
        have hb6w := HB5.out.trans (hb6.mono hz5)
        have HB6 := Lib.hid hb6w
        have hz6 := hb6w.size
        have EQ := Lib.hid (equalIns_c A4 A6 n c4 c6 _ w6 (by omega) (HI45.out.keep hb6) hI6)
        clear hv6 hb6 hb6w hI6 B5
        go_wp2_with fail
        refine EQ.out.mono ?_
        rintro e w7 ⟨rfl, hb7⟩
        have HB7 := Lib.hid (HB6.out.trans (hb7.mono hz6))
        clear hb7
        go_wp2
        go_ret
        exact ⟨rfl, HB7.out⟩
theorem fnFix_row (W : World) (A : Option Addr) (n cap : Nat) (xs : List Ins) (h : InsAt W A n xs ∧ n ≤ maxLen ∧ ∀ i ∈ xs, -9223372036854775808 ≤ i.c ∧ i.c ≤ 9223372036854775807) (hL : laidMetH Tryd.prog [("loop.example/pub-g03146/pub/ebpfasm.ErrUnsatisfiedProgramReference", Rows.laid_loop_example_pub_g03146_pub_ebpfasm_ErrUnsatisfiedProgramReference)] W) :
    Calls Tryd.prog 4 #[.slice A n cap] W fun e w' => e = .returned (.bool true) ∧ Below W.heap.size W w' := by
  obtain ⟨aE, hE⟩ := eup_of_laid hL
  exact fnFix_all A n cap xs W aE h.1 h.2.1 h.2.2 hE
end Go.Proofs.YtakigeichhngbaaDoor
