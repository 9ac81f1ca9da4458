import Derived.Test.YtakigeichhngbaaMemIns
namespace Go.Proofs.Ytakigeichhngbaa
open Go.RowKit
set_option linter.unusedVariables false
set_option linter.unusedSimpArgs false

def Ins.ok (i : Ins) : Bool := sInsOk i.op i.dst i.src i.off i.c i.sym i.ref
def progOk (xs : List Ins) : Bool := decide (xs.length ≤ 60) && xs.all Ins.ok
theorem progOk1_c (i : Ins) (w : World) : Calls Try.prog 62 #[.agg #[.int .i64 i.op, .int .i64 i.dst, .int .i64 i.src, .int .i64 i.off, .int .i64 i.c, .string i.sym, .string i.ref]] w
    fun e w' => e = .returned (.bool (!i.ok)) ∧ Below w.heap.size w w' := by
  go_enter Try.func62, Try.ntmps62
  go_wp2_with (first | (go_at_call 10; ((with_reducible refine (sInsOk_c _ _ _ _ _ _ _ _).mono ?_); rintro e w2 ⟨rfl, hb2⟩)))
  go_ret
  exact ⟨rfl, ((Below.refl _ _).alloc (Nat.le_refl _) _).trans (hb2.mono (by simp))⟩
def IdxEnd (xs : List Ins) (e : Ending) : Prop := ∃ r : Int, e = .returned (.int .i64 r) ∧ decide (0 ≤ r) = xs.any (fun i => !i.ok)
theorem indexFunc_c (A : Option Addr) (n cap : Nat) (xs : List Ins) (w : World) (h : InsAt w A n xs) (hn : n ≤ 2147483647) :
    Calls Try.prog 114 #[.slice A n cap, .func (.func 62) #[] #[]] w fun e w' => IdxEnd xs e ∧ Below w.heap.size w w' := by
  obtain ⟨hl, h⟩ := h
  rcases h with h0 | ⟨b, o, rfl, hlt, hc⟩
  · subst h0
    have : xs = [] := List.eq_nil_of_length_eq_zero hl
    subst this
    go_enter Try.func114, Try.ntmps114
    go_wp2
    go_rounds 1
    go_ret
    exact ⟨⟨-1, rfl, rfl⟩, Below.refl _ _⟩
  · have C := Lib.hid hc
    have L := Lib.hid hl
    clear hc hl
    go_enter Try.func114, Try.ntmps114
    go_wp2
    go_loopw [8] (fun i wr => ∃ k : Nat, k ≤ n ∧ i = .int .i64 k ∧ Below w.heap.size w wr ∧ Hid ((xs.take k).any (fun i => !i.ok) = false)) (fun i _ => n - (intOf i).toNat)
    case atStart => exact ⟨0, Nat.zero_le _, rfl, Below.refl _ _, by simp [Hid]⟩
    case round =>
      obtain ⟨k, hk, rfl, hb, hall⟩ := hrel
      by_cases hk' : k < n
      · have hkl : k < xs.length := by rw [L.out]; exact hk'
        obtain ⟨i, hi⟩ : ∃ i, i = xs[k] := ⟨_, rfl⟩
        obtain ⟨c0, c1, c2, c3, c4, c5, c6⟩ := (show InsCells w b (o + k * 7) i from by rw [hi]; exact C.out k _).keep hb hlt
        have HI := Lib.hid hi
        clear hi
        have hlt2 : b < wr.heap.size := Nat.lt_of_lt_of_le hlt hb.size
        have hz0 := hb.size
        cases hz : i.ok
        · go_wp2_with (first | (go_at_call 62; ((with_reducible refine (progOk1_c i _).mono ?_); rintro e w1 ⟨rfl, hb1⟩)))
          go_ret
          have hf : xs.any (fun i => !i.ok) = true := by
            rw [List.any_eq_true]
            exact ⟨i, by rw [HI.out]; exact List.getElem_mem _, by rw [hz]; rfl⟩
          exact ⟨⟨k, rfl, by rw [hf]; simp⟩, hb.trans (hb1.mono hz0)⟩
        · go_wp2_with (first | (go_at_call 62; ((with_reducible refine (progOk1_c i _).mono ?_); rintro e w1 ⟨rfl, hb1⟩)))
          go_roundw
          case rel =>
            refine ⟨k + 1, by omega, by go_num, hb.trans (hb1.mono hz0), ?_⟩
            rw [Hid, List.take_succ_eq_append_getElem hkl, List.any_append, hall.out]
            simp [← HI.out, hz]
          case measure => simp [intOf]; omega
      · go_wp2
        go_ret
        have hf : xs.any (fun i => !i.ok) = false := by
          have := hall.out
          rwa [List.take_of_length_le (by rw [L.out]; omega)] at this
        exact ⟨⟨-1, rfl, by rw [hf]; rfl⟩, hb⟩
theorem containsFunc_c (A : Option Addr) (n cap : Nat) (xs : List Ins) (w : World) (h : InsAt w A n xs) (hn : n ≤ 2147483647) :
    Calls Try.prog 61 #[.slice A n cap, .func (.func 62) #[] #[]] w fun e w' => e = .returned (.bool (xs.any fun i => !i.ok)) ∧ Below w.heap.size w w' := by
  go_enter Try.func61, Try.ntmps61
  go_wp2_with (first | (go_at_call 114; ((with_reducible refine (indexFunc_c _ _ _ _ _ h hn).mono ?_); rintro e w1 ⟨⟨r, rfl, hr⟩, hb1⟩)))
  go_ret
  exact ⟨by rw [← hr]; rfl, hb1⟩
theorem programOk_c (A : Option Addr) (n cap : Nat) (xs : List Ins) (w : World) (h : InsAt w A n xs) (hn : n ≤ 2147483647) :
    Calls Try.prog 19 #[.slice A n cap] w fun e w' => e = .returned (.bool (progOk xs)) ∧ Below w.heap.size w w' := by
  have hl := h.1
  by_cases h60 : n ≤ 60
  · have L := Lib.hid hl
    clear hl
    go_enter Try.func19, Try.ntmps19
    go_wp2_with (first | (go_at_call 61; ((with_reducible refine (containsFunc_c _ _ _ _ _ h hn).mono ?_); rintro e w1 ⟨rfl, hb1⟩)))
    go_ret
    exact ⟨by simp [progOk, L.out, h60, List.all_eq_not_any_not], hb1⟩
  · have L := Lib.hid hl
    clear hl
    have h60' : 60 < n := by omega
    go_enter Try.func19, Try.ntmps19
    go_wp2
    go_ret
    exact ⟨by simp [progOk, L.out]; omega, Below.refl _ _⟩
end Go.Proofs.Ytakigeichhngbaa
