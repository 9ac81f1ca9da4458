import Derived.Test.YtakigeichhngbaaPartsW
import Derived.Test.YtakigeichhngbaaOpen
namespace Go.Proofs.Ytakigeichhngbaa
open Go.RowKit
set_option linter.unusedVariables false
set_option linter.unusedSimpArgs false

theorem okCode_ins {op dst src off c : Int} {sym ref : ByteArray} (h : sInsOk op dst src off c sym ref = true) : 0 ≤ op ∧ op ≤ 65535 ∧ okCode op = true := by
  simp only [sInsOk, sRegOk, Bool.and_eq_true, decide_eq_true_eq] at h
  exact ⟨h.1.1.1.1.1.2, h.1.1.1.1.2, okCode_of h.2⟩
theorem sParts_length (op : Int) : (sParts op).length = 14 := rfl
theorem eqParts (op : Int) (W : World) (E : pParts op = sParts op) :
    Calls Try.prog 15 #[.slice (some ⟨W.heap.size, 0, none⟩) 14 14, .slice (some ⟨W.heap.size + 1, 0, none⟩) 14 14]
      ((W.alloc (.cells ((pParts op).map (Value.int .i64)).toArray 3)).alloc (.cells ((sParts op).map (Value.int .i64)).toArray 3)).drew fun e w' => e = .returned (.bool true) ∧ ∃ m, (((W.alloc (.cells ((pParts op).map (Value.int .i64)).toArray 3)).alloc (.cells ((sParts op).map (Value.int .i64)).toArray 3)).drew).drewN m = w' := by
  rw [E]
  refine equalInts_c _ _ 14 14 14 (fun j => (sParts op).getD j 0) _ (by omega) ?_ ?_
  · exact (RowAt.ints W (sParts op) 3).keep (((Below.refl _ _).alloc (Nat.le_refl _) _).drew)
  · have := RowAt.ints (W.alloc (.cells ((sParts op).map (Value.int .i64)).toArray 3)) (sParts op) 3
    simp only [World.size_alloc] at this
    exact this
set_option maxHeartbeats 1000000 in
theorem fnParts_tail (op dst src off c : Int) (sym ref : ByteArray) (w : World) (z : zzIns sym ref = true) (s : sInsOk op dst src off c sym ref = true) (X : Array Value)
    (P1 : Hid (∀ W, Calls Try.prog 16 #[.int .i64 op] W fun e w' => e = .returned (.slice (some ⟨W.heap.size, 0, none⟩) 14 14) ∧ W.alloc (.cells X 3) = w'))
    (P2 : Hid (∀ W, Calls Try.prog 17 #[.int .i64 op] W fun e w' => e = .returned (.slice (some ⟨W.heap.size, 0, none⟩) 14 14) ∧ W.alloc (.cells X 3) = w'))
    (P3 : Hid (∀ W : World, Calls Try.prog 15 #[.slice (some ⟨W.heap.size, 0, none⟩) 14 14, .slice (some ⟨W.heap.size + 1, 0, none⟩) 14 14] ((W.alloc (.cells X 3)).alloc (.cells X 3)).drew
      fun e w' => e = .returned (.bool true) ∧ ∃ m, (((W.alloc (.cells X 3)).alloc (.cells X 3)).drew).drewN m = w')) :
    Calls Try.prog 4 #[.agg #[.int .i64 op, .int .i64 dst, .int .i64 src, .int .i64 off, .int .i64 c, .string sym, .string ref]] w fun e w' => e = .returned (.bool true) ∧ Below w.heap.size w w' := by
  go_enter Try.func4, Try.ntmps4
  go_wp2_with (first | (go_at_call 9; ((with_reducible refine (zzFits2_c _ _ _ _ _ _ _ _).mono ?_); rintro e w1 ⟨rfl, hb1⟩; obtain ⟨hc1, hf1⟩ := bcell hb1)) | (go_at_call 10; ((with_reducible refine (sInsOk_c _ _ _ _ _ _ _ _).mono ?_); rintro e w2 ⟨rfl, hb2⟩; obtain ⟨hc2, hf2⟩ := bcell hb2; have hz : w.heap.size < w1.heap.size := (by have := hb1.size; simp at this; omega); have hz2 : w.heap.size < w2.heap.size := (by have := hb2.size; omega))))
  have hc : w2.cell? ⟨w.heap.size, 0, none⟩ = some (.int .i64 op) := by go_simp
  have hB : Below w.heap.size w w2 := (((Below.refl _ _).alloc (Nat.le_refl _) _).trans (hb1.mono (by simp))).trans (hb2.mono (by omega))
  clear hc1 hc2 hf1 hf2 hb1 hb2
  go_region_held3 (fun w' => w'.cell? ⟨w.heap.size, 0, none⟩ = some (.int .i64 op) ∧ w.heap.size < w'.heap.size) (first | exact ⟨hc, hz2⟩ | (refine ⟨by go_simp, ?_⟩; simp; omega) | go_keep) (first | (go_at_call 16; ((with_reducible refine (P1.out _).mono ?_); rintro e w' ⟨rfl, rfl⟩)) | (go_at_call 17; ((with_reducible refine (P2.out _).mono ?_); rintro e w' ⟨rfl, rfl⟩)) | (go_at_call 15; ((with_reducible refine (P3.out _).mono ?_); rintro e w' ⟨rfl, m, rfl⟩)))
  all_goals
    go_wp2
    go_ret
    exact ⟨rfl, by first | exact below_drewN (((hB.alloc (by omega) _).alloc (by simp; omega) _).drew) _ | exact below_drewN (((hB.alloc (by omega) _).alloc (by simp; omega) _)) _⟩
theorem fnParts_any (op dst src off c : Int) (sym ref : ByteArray) (w : World) :
    Calls Try.prog 4 #[.agg #[.int .i64 op, .int .i64 dst, .int .i64 src, .int .i64 off, .int .i64 c, .string sym, .string ref]] w fun e w' => e = .returned (.bool true) ∧ Below w.heap.size w w' := by
  cases z : zzIns sym ref
  · go_enter Try.func4, Try.ntmps4
    go_wp2_with (first | (go_at_call 9; ((with_reducible refine (zzFits2_c _ _ _ _ _ _ _ _).mono ?_); rintro e w1 ⟨rfl, hb1⟩; obtain ⟨hc1, hf1⟩ := bcell hb1)))
    go_ret
    exact ⟨rfl, ((Below.refl _ _).alloc (Nat.le_refl _) _).trans (hb1.mono (by simp))⟩
  cases s : sInsOk op dst src off c sym ref
  · go_enter Try.func4, Try.ntmps4
    go_wp2_with (first | (go_at_call 9; ((with_reducible refine (zzFits2_c _ _ _ _ _ _ _ _).mono ?_); rintro e w1 ⟨rfl, hb1⟩; obtain ⟨hc1, hf1⟩ := bcell hb1)) | (go_at_call 10; ((with_reducible refine (sInsOk_c _ _ _ _ _ _ _ _).mono ?_); rintro e w2 ⟨rfl, hb2⟩; obtain ⟨hc2, hf2⟩ := bcell hb2; have hz : w.heap.size < w1.heap.size := (by have := hb1.size; simp at this; omega))))
    go_ret
    exact ⟨rfl, (((Below.refl _ _).alloc (Nat.le_refl _) _).trans (hb1.mono (by simp))).trans (hb2.mono (by omega))⟩
  obtain ⟨h0, h1, hk⟩ := okCode_ins s
  have E := parts_eq h0 hk
  refine fnParts_tail op dst src off c sym ref w z s ((sParts op).map (Value.int .i64)).toArray (Lib.hid fun W => ?_) (Lib.hid fun W => ?_) (Lib.hid fun W => ?_)
  · rw [← E]; exact Parts_c op W h0 h1
  · exact sParts_c op W h0 h1
  · have := eqParts op W E
    rwa [E] at this
end Go.Proofs.Ytakigeichhngbaa
