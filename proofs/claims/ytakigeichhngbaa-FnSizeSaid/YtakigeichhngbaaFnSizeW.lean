import Derived.Test.YtakigeichhngbaaOffW
import Derived.Test.YtakigeichhngbaaStartsW
import Derived.Test.YtakigeichhngbaaOkProg
import Derived.Test.YtakigeichhngbaaMoreFits
namespace Go.Proofs.Ytakigeichhngbaa
open Go.RowKit
set_option linter.unusedVariables false
set_option linter.unusedSimpArgs false

/-- the two lists of starts are one -/
theorem equalOffs (l : List Ins) (A B : Option Addr) (c d : Nat) (w : World) (hn : l.length ≤ 400) (ha : RowAt w A l.length 1 (fun j => (offs l l.length).getD j undef)) (hb : RowAt w B l.length 1 (fun j => (offs l l.length).getD j undef)) :
    Calls Try.prog 15 #[.slice A l.length c, .slice B l.length d] w fun e w' => e = .returned (.bool true) ∧ ∃ m, w.drewN m = w' := by
  have key : ∀ {X : Option Addr}, RowAt w X l.length 1 (fun j => (offs l l.length).getD j undef) → RowAt w X l.length 1 (fun j => .int .i64 (sumRaw (l.take j))) := by
    rintro X (h | ⟨b, o, rfl, hlt, hc⟩)
    · exact .inl h
    · refine .inr ⟨b, o, rfl, hlt, fun j hj => ?_⟩
      have := hc j hj
      have hj' : j < l.length := by omega
      simpa [offs, hj'] using this
  exact equalInts_c A B l.length c d (fun j => sumRaw (l.take j)) w (by omega) (key ha) (key hb)
set_option maxHeartbeats 1000000 in
theorem fnSize_any (A : Option Addr) (n cap : Nat) (xs : List Ins) (w : World) (h : InsAt w A n xs) (hn : n ≤ 9223372036854775807) :
    Calls Try.prog 5 #[.slice A n cap] w fun e w' => e = .returned (.bool true) ∧ Below w.heap.size w w' := by
  have HI := Lib.hid h
  cases z : (decide (n ≤ 2147483647) && xs.all fun i => zzIns i.sym i.ref)
  · have Z := Lib.hid z
    clear z h
    go_enter Try.func5, Try.ntmps5
    go_wp2_with fail
    refine (zzFits1_c A n cap xs _ HI.out hn).mono ?_
    rintro e w1 ⟨rfl, hb1⟩
    rw [Z.out]
    go_wp2
    go_ret
    exact ⟨rfl, hb1⟩
  have hz : n ≤ 2147483647 := by simp at z; exact z.1
  have Z := Lib.hid z
  clear z
  cases s : progOk xs
  · have PS := Lib.hid s
    clear s h
    go_enter Try.func5, Try.ntmps5
    go_wp2_with fail
    refine (zzFits1_c A n cap xs _ HI.out hn).mono ?_
    rintro e w1 ⟨rfl, hb1⟩
    rw [Z.out]
    go_wp2_with fail
    refine (programOk_c A n cap xs _ (HI.out.keep hb1) hz).mono ?_
    rintro e w2 ⟨rfl, hb2⟩
    rw [PS.out]
    go_wp2
    go_ret
    exact ⟨rfl, hb1.trans (hb2.mono hb1.size)⟩
  have PS := Lib.hid s
  have hl := h.1
  have hx : xs.length ≤ 60 := by simp [progOk] at s; exact s.1
  have FT := Lib.hid (progOk_fits s)
  have sb := sumRaw_bd xs
  obtain ⟨sb0, sb1⟩ := sb
  obtain ⟨S, hS⟩ : ∃ S, S = sumRaw xs := ⟨_, rfl⟩
  rw [← hS] at sb0 sb1
  have HS := Lib.hid hS
  have hn60 : n ≤ 60 := by omega
  have sb2 : S ≤ 200 := by omega
  subst hl
  clear s h hS sb1 hx
  go_enter Try.func5, Try.ntmps5
  go_wp2_with fail
  refine (zzFits1_c A _ cap xs _ HI.out hn).mono ?_
  rintro e w1 ⟨rfl, hb1⟩
  rw [Z.out]
  go_wp2_with fail
  refine (programOk_c A _ cap xs _ (HI.out.keep hb1) hz).mono ?_
  rintro e w2 ⟨rfl, hb2⟩
  rw [PS.out]
  have hb2' := hb1.trans (hb2.mono hb1.size)
  clear hb1 hb2
  go_wp2_with fail
  refine (Starts_c A _ cap xs _ (HI.out.keep hb2') (by omega)).mono ?_
  rintro e w3 ⟨⟨A3, c3, rfl, hr3⟩, hb3⟩
  rw [← HS.out]
  have R3 := Lib.hid hr3
  have hb3' := hb2'.trans (hb3.mono hb2'.size)
  clear hb2' hb3 hr3
  go_wp2_with fail
  refine (impSize_c A _ cap xs _ (HI.out.keep hb3') (by omega) FT.out).mono ?_
  rintro e w4 ⟨rfl, hb4⟩
  rw [← HS.out]
  have R4 := Lib.hid (R3.out.keep hb4)
  have hb4' := hb3'.trans (hb4.mono hb3'.size)
  clear hb3' hb4 R3
  go_wp2_with fail
  refine (Offsets_c A _ cap xs _ (HI.out.keep hb4') (by omega) FT.out).mono ?_
  rintro e w5 ⟨⟨A5, c5, rfl, hr5⟩, hb5⟩
  have R5 := Lib.hid hr5
  have R45 := Lib.hid (R4.out.keep hb5)
  have hb5' := hb4'.trans (hb5.mono hb4'.size)
  clear hb4' hb5 hr5 R4
  go_wp2_with fail
  refine (equalOffs xs _ _ _ _ _ (by omega) R5.out R45.out).mono ?_
  rintro e w6 ⟨rfl, m, rfl⟩
  go_wp2
  go_ret
  exact ⟨rfl, below_drewN hb5' m⟩
end Go.Proofs.Ytakigeichhngbaa
