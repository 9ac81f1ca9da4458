import Derived.Test.YtakigeichhngbaaDoorPl
/-! All codes of the document, to be gone through one by one. -/
namespace Go.Proofs.YtakigeichhngbaaDoor
open Go.RowKit
set_option linter.unusedVariables false

/-- what InsOk asks of a code alone -/
def okCode (op : Int) : Bool :=
  bif sIsALU op then sAluOk op
  else bif sIsJump op then decide (op < 256) && sJumpOk op 1
  else bif sIsAtomic op then sAtomicOk op
  else decide (op < 256) && sMemoryOk op
def allCodes : List Nat := List.range 1024 ++ [64, 65, 80, 81, 160, 161, 225, 241].flatMap fun h => (List.range 256).map fun l => h * 256 + l

theorem sJumpOk_one {op src : Int} (h : sJumpOk op src = true) : sJumpOk op 1 = true := by
  revert h; simp only [sJumpOk]; grind
theorem okCode_of {op src off c : Int} (h : sOpOk op src off c = true) : okCode op = true := by
  have hj := @sJumpOk_one op src
  revert h; simp only [sOpOk, okCode]; grind
theorem aluOk_lt {op : Int} (h0 : 0 ≤ op) (h : sAluOk op = true) : op < 1024 := by
  have h1 : op / 256 ≤ 3 := by
    revert h; simp only [sAluOk]
    generalize bits .and .i64 op 240 = a
    generalize bits .and .i64 op 8 = b
    generalize sCls op = c
    generalize op / 256 = d
    grind
  omega
theorem atomicOk_mem {op : Int} (h : sAtomicOk op = true) : op / 256 = 0 ∨ op / 256 = 1 ∨ op / 256 = 64 ∨ op / 256 = 65 ∨ op / 256 = 80 ∨ op / 256 = 81 ∨ op / 256 = 160 ∨ op / 256 = 161 ∨ op / 256 = 225 ∨ op / 256 = 241 := by
  simp only [sAtomicOk, Bool.and_eq_true, Bool.or_eq_true, beq_iff_eq] at h
  rcases h.1 with ((((((((h | h) | h) | h) | h) | h) | h) | h) | h) | h <;> simp [h]
theorem mem_codes {n : Nat} (h : n / 256 ∈ [64, 65, 80, 81, 160, 161, 225, 241]) : n ∈ allCodes := by
  unfold allCodes
  refine List.mem_append_right _ (List.mem_flatMap.2 ⟨n / 256, h, List.mem_map.2 ⟨n % 256, List.mem_range.2 (Nat.mod_lt _ (by omega)), ?_⟩⟩)
  omega
theorem okCode_mem {op : Int} (h0 : 0 ≤ op) (h : okCode op = true) : ∃ n : Nat, op = (n : Int) ∧ n ∈ allCodes := by
  obtain ⟨n, rfl⟩ := Int.eq_ofNat_of_zero_le h0
  refine ⟨n, rfl, ?_⟩
  by_cases hn : n < 1024
  · exact List.mem_append_left _ (List.mem_range.2 hn)
  · apply mem_codes
    have ha : sIsALU (n : Int) = false := by
      cases e : sIsALU (n : Int)
      · rfl
      · simp only [okCode, e, cond_true] at h
        have := aluOk_lt h0 h; omega
    have hl : ¬ (n : Int) < 256 := by omega
    simp only [okCode, ha, cond_false, hl, decide_false, Bool.false_and] at h
    cases e : sIsJump (n : Int)
    · cases e2 : sIsAtomic (n : Int)
      · simp [e, e2] at h
      · simp only [e, e2, cond_false, cond_true] at h
        have hm := atomicOk_mem h
        simp only [List.mem_cons, List.not_mem_nil, or_false]
        omega
    · simp [e] at h
/-- what holds of every code in the list holds of every code of the document -/
theorem codes_all (P : Int → Bool) (h : (allCodes.all fun n => !okCode (n : Int) || P (n : Int)) = true) {op : Int} (h0 : 0 ≤ op) (hk : okCode op = true) : P op = true := by
  obtain ⟨n, rfl, hn⟩ := okCode_mem h0 hk
  have := List.all_eq_true.1 h n hn
  simpa [hk] using this
end Go.Proofs.YtakigeichhngbaaDoor
