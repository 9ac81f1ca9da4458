import Derived.Test.YtakigeichhngbaaAll
import Derived.Test.YtakigeichhngbaaOkProg
namespace Go.Proofs.Ytakigeichhngbaa
open Go.RowKit
set_option linter.unusedVariables false
set_option linter.unusedSimpArgs false

theorem InstrSize_c (i : Ins) (p : Option Addr) (w : World) : Calls Try.prog 117 #[.agg #[.int .u32 i.op, .int .u8 i.dst, .int .u8 i.src, .int .i16 i.off, .int .i64 i.c, .pointer p]] w
    fun e w' => e = .returned (.int .u64 (8 * pRaw i.op)) ∧ Below w.heap.size w w' := by
  obtain ⟨pr0, pr1⟩ := pRaw_bd i.op
  go_enter Try.func117, Try.ntmps117
  go_wp2_with (first | (go_at_call 112; ((with_reducible refine (rawInstructions_c _ _).mono ?_); rintro e w' ⟨rfl, rfl⟩)))
  go_ret
  exact ⟨rfl, (Below.refl _ _).alloc (Nat.le_refl _) _⟩
/-- a loop that adds the sizes up -/
theorem InstrsSize_c (B : Nat) (v : Value) (l : List Ins) (w : World) (h : Built w B v l) (hn : l.length ≤ 1000) :
    Calls Try.prog 65 #[v] w fun e w' => e = .returned (.int .u64 (8 * sumRaw l)) ∧ Below w.heap.size w w' := by
  rcases Nat.eq_zero_or_pos l.length with h0 | h0
  · have : l = [] := List.eq_nil_of_length_eq_zero h0
    subst this
    obtain ⟨ps, hps, ho, _⟩ := h
    obtain ⟨a, c, rfl⟩ : ∃ a c, v = .slice a 0 c := by
      rcases ho.2 with ⟨rfl, _⟩ | ⟨g, cap, cur, rfl, _⟩
      · exact ⟨_, _, rfl⟩
      · exact ⟨_, _, rfl⟩
    clear ho
    go_enter Try.func65, Try.ntmps65
    go_wp2
    go_rounds 1
    go_ret
    exact ⟨rfl, Below.refl _ _⟩
  · obtain ⟨g, cap, rfl, hc, hB, ⟨cur, hcur⟩, hi⟩ := h.opened h0
    have hg := lt_of_heap hcur
    have C := Lib.hid hi
    obtain ⟨n, hln⟩ : ∃ n, n = l.length := ⟨_, rfl⟩
    rw [← hln] at hn h0 hc ⊢
    have L := Lib.hid hln
    clear hi h hcur hln
    go_enter Try.func65, Try.ntmps65
    go_wp2
    go_loopw [3, 8] (fun s i wr => ∃ k : Nat, k ≤ n ∧ i = .int .i64 k ∧ s = .int .u64 (8 * sumRaw (l.take k)) ∧ Below w.heap.size w wr) (fun _ i _ => n - (intOf i).toNat)
    case atStart => exact ⟨0, Nat.zero_le _, rfl, rfl, Below.refl _ _⟩
    case round =>
      obtain ⟨k, hk, rfl, rfl, hb⟩ := hrel
      by_cases hk' : k < n
      · have hkl : k < l.length := by rw [← L.out]; exact hk'
        obtain ⟨i, hie⟩ : ∃ i, i = l[k] := ⟨_, rfl⟩
        obtain ⟨p, hp, _⟩ := C.out k hkl
        rw [← hie] at hp
        obtain ⟨c0, c1, c2, c3, c4, c5⟩ := hp.keep hb hg
        obtain ⟨s, hs⟩ : ∃ s, s = sumRaw (l.take k) := ⟨_, rfl⟩
        have hsb := sumRaw_bd (l.take k)
        have hkn : (l.take k).length = k := by rw [List.length_take]; omega
        rw [hkn, ← hs] at hsb
        obtain ⟨hs0, hs1⟩ := hsb
        have hs2 : s + pRaw i.op = sumRaw (l.take (k + 1)) := by rw [List.take_succ_eq_append_getElem hkl, sumRaw_snoc, hs, hie]
        have S2 := Lib.hid hs2
        obtain ⟨pr0, pr1⟩ := pRaw_bd i.op
        rw [← hs]
        have hlt2 : g < wr.heap.size := Nat.lt_of_lt_of_le hg hb.size
        have hz0 := hb.size
        clear hie hp hs hs2 hkn
        go_wp2_with (first | (go_at_call 117; ((with_reducible refine (InstrSize_c i p _).mono ?_); rintro e w1 ⟨rfl, hb1⟩)))
        go_roundw
        case rel => exact ⟨k + 1, by omega, by go_num, by rw [← S2.out]; exact congrArg (Value.int .u64) (by omega), (hb.alloc hz0 _).trans (hb1.mono (by simp; omega))⟩
        case measure => simp [intOf]; omega
      · have hall : l.take k = l := List.take_of_length_le (by rw [← L.out]; omega)
        rw [hall]
        clear hall
        go_wp2
        go_ret
        exact ⟨rfl, hb⟩
theorem impSize_c (A : Option Addr) (n cap : Nat) (xs : List Ins) (w : World) (h : InsAt w A n xs) (hn : n ≤ 1000) (hf : ∀ i ∈ xs, i.Fits) :
    Calls Try.prog 21 #[.slice A n cap] w fun e w' => e = .returned (.int .i64 (8 * sumRaw xs)) ∧ Below w.heap.size w w' := by
  have hl := h.1
  have hsb := sumRaw_bd xs
  rw [hl] at hsb
  obtain ⟨s0, s1⟩ := hsb
  have L := Lib.hid hl
  clear hl
  go_enter Try.func21, Try.ntmps21
  go_wp2_with fail
  refine (all_c A n cap xs _ h hn hf).mono ?_
  rintro e w1 ⟨⟨v, rfl, hv⟩, hb1⟩
  have HV := Lib.hid hv
  clear hv
  go_wp2_with (first | (go_at_call 65; ((with_reducible refine (InstrsSize_c _ _ xs _ HV.out (by rw [L.out]; exact hn)).mono ?_); rintro e w2 ⟨rfl, hb2⟩)))
  go_ret
  exact ⟨rfl, hb1.trans (hb2.mono hb1.size)⟩
end Go.Proofs.Ytakigeichhngbaa
