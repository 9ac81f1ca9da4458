import Derived.Test.YtakigeichhngbaaDoorLostA
import Derived.Test.YtakigeichhngbaaDoorOpenE
namespace Go.Proofs.YtakigeichhngbaaDoor
open Go.RowKit
set_option linter.unusedVariables false
set_option linter.unusedSimpArgs false
def lostI : Ins := ⟨5, 0, 0, -1, 0, ⟨#[]⟩, nowhereB⟩
theorem symsOk_snoc : ∀ (l : List Ins) (ss : List ByteArray) (i : Ins), noS i.sym = true → symsOk ss (l ++ [i]) = symsOk ss l
  | [], ss, i, h => by simp [symsOk, h]
  | a :: l, ss, i, h => by
    simp only [List.cons_append, symsOk, symsOk_snoc l ss i h, symsOk_snoc l (ss ++ [a.sym]) i h]
theorem lost_sym : noS lostI.sym = true := by unfold noS lostI; rw [ByteArray.toList_eq]; rfl
theorem lost_ref : noS lostI.ref = false := by unfold noS lostI; rw [nowhere_list]; rfl
theorem lost_kind : RefKind lostI ∧ lostI.ref.size ≤ maxLen := by
  refine ⟨.inr ⟨?_, rfl, ?_, ?_, ?_⟩, by decide +kernel⟩
  · decide +kernel
  · decide +kernel
  · decide +kernel
  · decide +kernel
theorem lost_fits : lostI.Fits := ⟨⟨by decide, by decide⟩, ⟨by decide, by decide⟩, ⟨by decide, by decide⟩, by decide, by decide⟩
theorem lost_not {xs : List Ins} (h : (xs.any fun i => sameS i.sym nowhereB) = false) : lAt (xs ++ [lostI]) lostI.ref < 0 := by
  have h1 : lAt xs nowhereB = -1 := lAtF_none _ _ _ fun i hi => by
    have := List.any_eq_false.1 h i hi
    simpa using this
  have h2 : sameS lostI.sym nowhereB = false := by
    cases hs : sameS lostI.sym nowhereB
    · rfl
    · have h3 := noS_same hs
      have h4 : noS nowhereB = false := lost_ref
      rw [lost_sym, h4] at h3
      cases h3
  show lAt (xs ++ [lostI]) nowhereB < 0
  rw [lAt_snoc, h1, h2]
  simp
set_option maxRecDepth 100000 in
set_option maxHeartbeats 2000000 in
theorem fnLost_all (y : Int) (A : Option Addr) (n cap : Nat) (xs : List Ins) (w : World) (aE : Addr) (h : InsAt w A n xs) (hn : n ≤ maxLen) (hcb : ∀ i ∈ xs, CBd i) (he : w.cell? ⟨3, 0, none⟩ = some (.iface 137 (.pointer (some aE)))) :
    Calls Tryd.prog 7 #[.slice A n cap, .int .u8 y] w fun e w' => e = .returned (.bool true) ∧ Below w.heap.size w w' := by
  have hn63 : n ≤ 9223372036854775807 := hn
  cases hz : (decide (n ≤ 2147483647) && xs.all fun i => zzIns i.sym i.ref)
  · have Z := Lib.hid (zzFits1_c A n cap xs w h hn63)
    rw [hz] at Z
    clear hz h hn hn63 hcb he
    go_enter Tryd.func7, Tryd.ntmps7
    go_wp2_with fail
    refine Z.out.mono ?_
    rintro e w1 ⟨rfl, hb1⟩
    have HB := Lib.hid hb1
    clear hb1
    go_wp2
    go_ret
    exact ⟨rfl, HB.out⟩
  · have hn31 : n ≤ 2147483647 := by simp only [Bool.and_eq_true, decide_eq_true_eq] at hz; exact hz.1
    have hzi : ∀ i ∈ xs, i.sym.size ≤ 2147483647 ∧ i.ref.size ≤ 2147483647 := by
      simp only [Bool.and_eq_true, decide_eq_true_eq, List.all_eq_true] at hz
      intro i hi
      have := hz.2 i hi
      simpa [zzIns] using this
    have hsy : ∀ i ∈ xs, i.sym.size ≤ 2147483647 := fun i hi => (hzi i hi).1
    cases hp : labOk xs
    · skip
      have Z := Lib.hid (zzFits1_c A n cap xs w h hn63)
      rw [hz] at Z
      have P := Lib.hid fun (W : World) (hb : Below w.heap.size w W) => ProgramOk_c A n cap xs W (h.keep hb) hn31 hsy
      rw [hp] at P
      clear hz hp h hn hn63 hcb hzi hsy he
      go_enter Tryd.func7, Tryd.ntmps7
      go_wp2_with fail
      refine Z.out.mono ?_
      rintro e w1 ⟨rfl, hb1⟩
      have HB := Lib.hid hb1
      have hz1 := hb1.size
      have P1 := Lib.hid (P.out w1 hb1)
      clear hb1 P Z
      go_wp2_with fail
      refine P1.out.mono ?_
      rintro e w2 ⟨rfl, hb2⟩
      have hbw2 := HB.out.trans (hb2.mono hz1)
      have HB2 := Lib.hid hbw2
      have hz2 := hbw2.size
      clear hb2 P1 HB
      clear hbw2
      go_wp2
      go_ret
      exact ⟨rfl, HB2.out⟩
    · have hl60 := (labOk_at hp).1
      have hln := h.1
      rcases Nat.eq_zero_or_pos n with h0 | h0
      · subst h0
        have Z := Lib.hid (zzFits1_c A 0 cap xs w h hn63)
        rw [hz] at Z
        have P := Lib.hid fun (W : World) (hb : Below w.heap.size w W) => ProgramOk_c A 0 cap xs W (h.keep hb) hn31 hsy
        rw [hp] at P
        clear hz hp h hn hn63 hcb hzi hsy he
        go_enter Tryd.func7, Tryd.ntmps7
        go_wp2_with fail
        refine Z.out.mono ?_
        rintro e w1 ⟨rfl, hb1⟩
        have HB := Lib.hid hb1
        have hz1 := hb1.size
        have P1 := Lib.hid (P.out w1 hb1)
        clear hb1 P Z
        go_wp2_with fail
        refine P1.out.mono ?_
        rintro e w2 ⟨rfl, hb2⟩
        have hbw2 := HB.out.trans (hb2.mono hz1)
        have HB2 := Lib.hid hbw2
        have hz2 := hbw2.size
        clear hb2 P1 HB
        clear hbw2
        go_wp2
        go_ret
        exact ⟨rfl, HB2.out⟩
      · have hnz : ((n : Int) == 0) = false := by simp; omega
        have Z := Lib.hid (zzFits1_c A n cap xs w h hn63)
        rw [hz] at Z
        have P := Lib.hid fun (W : World) (hb : Below w.heap.size w W) => ProgramOk_c A n cap xs W (h.keep hb) hn31 hsy
        rw [hp] at P
        have HIN := Lib.hid fun (W : World) (hb : Below w.heap.size w W) => h.keep hb
        have HLAB := Lib.hid hp
        have HCB := Lib.hid hcb
        have HRZ := Lib.hid (show ∀ i ∈ xs, i.ref.size ≤ maxLen from fun i hi => by have := (hzi i hi).2; unfold maxLen; omega)
        have hn60 : n ≤ 60 := by omega
        have HLN := Lib.hid hln
        have HE := Lib.hid he
        have hEl : 3 < w.heap.size := block_lt_of_cell he
        clear hz hp h hn hn63 hcb hln hzi hsy he
        go_enter Tryd.func7, Tryd.ntmps7
        go_wp2_with fail
        refine Z.out.mono ?_
        rintro e w1 ⟨rfl, hb1⟩
        have HB := Lib.hid hb1
        have hz1 := hb1.size
        have P1 := Lib.hid (P.out w1 hb1)
        clear hb1 P Z
        go_wp2_with fail
        refine P1.out.mono ?_
        rintro e w2 ⟨rfl, hb2⟩
        have hbw2 := HB.out.trans (hb2.mono hz1)
        have HB2 := Lib.hid hbw2
        have hz2 := hbw2.size
        clear hb2 P1 HB
        clear hbw2
        obtain ⟨i0, p0, p1, p2, p3⟩ := info_parts ins_info
        have P0 := Lib.hid p0
        have P1 := Lib.hid p1
        have P2 := Lib.hid p2
        have P3 := Lib.hid p3
        clear p0 p1 p2 p3
        have CF := Lib.hid (containsLost_c A n cap xs w2 (HIN.out w2 HB2.out) hn31)
        go_wp2_with fail
        refine CF.out.mono ?_
        rintro e w3 ⟨rfl, hb3⟩
        have hb3w := HB2.out.trans (hb3.mono hz2)
        have HB3 := Lib.hid hb3w
        have hz3 := hb3w.size
        have CL := Lib.hid (Clone_c A n cap xs w3 (HIN.out w3 hb3w) h0 (by omega))
        clear hb3 hb3w CF
        cases hany : xs.any fun i => sameS i.sym nowhereB
        rotate_left
        · go_wp2_with fail
          go_ret
          exact ⟨rfl, HB3.out⟩
        have HANY := Lib.hid hany
        clear hany
        go_wp2_with fail
        refine CL.out.mono ?_
        rintro e w4 ⟨v4, rfl, hv4, hb4⟩
        obtain ⟨A4, c4, rfl, hI4⟩ := hv4.ins HLN.out
        have hb4w := HB3.out.trans (hb4.mono hz3)
        have HB4 := Lib.hid hb4w
        have hz4 := hb4w.size
        have HO4 := Lib.hid hv4
        have hz34 := hb4.size
        clear hv4 hI4 hb4 hb4w CL
        go_wp2_with (first | (at_builtin; go_loud (refine wpList_append_own _ rfl (.tmp 27) (.tmp 29) 31 rfl w3.heap.size 24 i0 (.agg #[.int .i64 0, .int .i64 0, .int .i64 0, .int .i64 0, .int .i64 0, .string ⟨#[]⟩, .string ⟨#[]⟩]) 7 72 Tryd.underlying31 P0.out P1.out P2.out P3.out rfl (by decide) _ _ _ rfl (World.ownsRow.alloc HO4.out _) ⟨w4.heap.size, 0, none⟩ 1 1 (TCells lostI) rfl rfl ?c1 (tcells_one lostI) ?c3 ?c4 ?c5 ?_)))
        case c1 =>
          intro j u hj
          simp only [TCells, lostI, nowhereB] at hj
          have hh := heap_alloc_new w4 (.cells #[.int .i64 5, .int .i64 0, .int .i64 0, .int .i64 (-1), .int .i64 0, .string ⟨#[]⟩, .string ⟨#[110, 111, 119, 104, 101, 114, 101]⟩] 24)
          rw [add_off, Nat.zero_add, cell_of_row _ _ _ _ _ _ hh]
          simpa using hj
        case c3 => rw [HLN.out]; unfold maxLen; omega
        case c4 => rw [HLN.out]; omega
        case c5 => simp; omega
        intro v5 w5 hown5 hg5 _
        have hb5w : Below w.heap.size w w5 := (HB4.out.alloc hz4 _).grown hg5 (by simp; omega) (fun b hb => Nat.le_trans hz3 (World.ownsRow.lt HO4.out b hb).1)
        have HB5 := Lib.hid hb5w
        have hz5 := hb5w.size
        obtain ⟨A5, c5, rfl, hA5⟩ := (own_snocI rfl hown5).ins (n := n + 1) (by rw [List.length_append, HLN.out]; rfl)
        have M5 := Lib.hid (ImplMarL_bad (bits .and .u8 y 1 == 1) A5 (n + 1) c5 (xs ++ [lostI]) aE w5 hA5 (by omega) (by omega) (by rw [symsOk_snoc _ _ _ lost_sym]; exact (labOk_at HLAB.out).2.1)
          (fun i hi => by
            rcases List.mem_append.1 hi with hi | hi
            · exact labOk_fits HLAB.out i hi
            · rw [List.mem_singleton.1 hi]; exact lost_fits)
          (fun i hi hr => by
            rcases List.mem_append.1 hi with hi | hi
            · exact labOk_kinds HLAB.out HRZ.out i hi hr
            · rw [List.mem_singleton.1 hi]; exact lost_kind)
          ⟨lostI, by simp, lost_ref, lost_not HANY.out⟩ ((HB5.out.cell (p := ⟨_, 0, none⟩) hEl).trans HE.out))
        clear hown5 hg5 hb5w hA5
        go_wp2_with fail
        refine M5.out.mono ?_
        rintro e w6 ⟨⟨A6, n6, c6, rfl⟩, hb6⟩
        have hb6w := HB5.out.trans (hb6.mono hz5)
        have HB6 := Lib.hid hb6w
        have hz6 := hb6w.size
        have M6 := Lib.hid (ImplMarL_ok (bits .and .u8 y 1 == 1) A n cap xs _ w6 (HIN.out w6 hb6w) h0 HLAB.out HCB.out HRZ.out ((HB6.out.cell (p := ⟨_, 0, none⟩) hEl).trans HE.out))
        clear hb6 hb6w M5
        go_wp2_with fail
        refine M6.out.mono ?_
        rintro e w7 ⟨v7, rfl, hv7, hb7⟩
        obtain ⟨A7, n7, c7, rfl, -⟩ := hv7.slice
        have HB7 := Lib.hid (HB6.out.trans (hb7.mono hz6))
        clear hv7 hb7 M6
        go_wp2
        go_ret
        exact ⟨rfl, HB7.out⟩
theorem fnLost_row (W : World) (A : Option Addr) (n cap : Nat) (xs : List Ins) (h : InsAt W A n xs ∧ n ≤ maxLen ∧ ∀ i ∈ xs, -9223372036854775808 ≤ i.c ∧ i.c ≤ 9223372036854775807) (y : Int) (wy : (Lit.int .u8 y).wf = true) (hL : laidMetH Tryd.prog [("loop.example/pub-g03146/pub/ebpfasm.ErrUnsatisfiedProgramReference", Rows.laid_loop_example_pub_g03146_pub_ebpfasm_ErrUnsatisfiedProgramReference)] W) :
    Calls Tryd.prog 7 #[.slice A n cap, .int .u8 y] W fun e w' => e = .returned (.bool true) ∧ Below W.heap.size W w' := by
  obtain ⟨aE, hE⟩ := eup_of_laid hL
  exact fnLost_all y A n cap xs W aE h.1 h.2.1 h.2.2 hE
end Go.Proofs.YtakigeichhngbaaDoor
