import Derived.Test.YtakigeichhngbaaProg
import Derived.Test.YtakigeichhngbaaPl
import Derived.WalkLawsBesides
import Derived.WalkSpells
import Derived.WalkKit
import Derived.Deep.QuietTactic
import Derived.BigQuiet
import Derived.Deep.Draws
import Derived.Lib.Hide
import Derived.Handy
namespace Go.Proofs.Ytakigeichhngbaa
open Go.RowKit
set_option linter.unusedVariables false
set_option linter.unusedSimpArgs false

theorem zzFits2_c (op dst src off c : Int) (sym ref : ByteArray) (w : World) : Calls Try.prog 9 #[.agg #[.int .i64 op, .int .i64 dst, .int .i64 src, .int .i64 off, .int .i64 c, .string sym, .string ref]] w
    fun e w' => e = .returned (.bool (zzIns sym ref)) ∧ Below w.heap.size w w' := by
  by_cases a : sym.size ≤ 2147483647
  · by_cases b : ref.size ≤ 2147483647
    · go_enter Try.func9, Try.ntmps9
      go_wp2
      go_ret
      exact ⟨by simp [zzIns]; omega, (Below.refl _ _).alloc (Nat.le_refl _) _⟩
    · have b' : 2147483647 < ref.size := by omega
      go_enter Try.func9, Try.ntmps9
      go_wp2
      go_ret
      exact ⟨by simp [zzIns]; omega, (Below.refl _ _).alloc (Nat.le_refl _) _⟩
  · have a' : 2147483647 < sym.size := by omega
    go_enter Try.func9, Try.ntmps9
    go_wp2
    go_ret
    exact ⟨by simp [zzIns]; omega, (Below.refl _ _).alloc (Nat.le_refl _) _⟩
end Go.Proofs.Ytakigeichhngbaa
/-! Slices in memory. -/
namespace Go.Proofs.Ytakigeichhngbaa
open Go.RowKit
set_option linter.unusedVariables false
set_option linter.unusedSimpArgs false

/-- the slice's first n elements, 'size' cells each, are the cells f 0, f 1, .. -/
def RowAt (w : World) (A : Option Addr) (n size : Nat) (f : Nat → Value) : Prop :=
  n = 0 ∨ ∃ b o, A = some ⟨b, o, none⟩ ∧ b < w.heap.size ∧ ∀ j, j < n * size → w.cell? ⟨b, o + j, none⟩ = some (f j)
theorem RowAt.keep {w w' : World} {A : Option Addr} {n size : Nat} {f : Nat → Value} (h : RowAt w A n size f) (hb : Below w.heap.size w w') : RowAt w' A n size f := by
  rcases h with h | ⟨b, o, rfl, hlt, hc⟩
  · exact .inl h
  · exact .inr ⟨b, o, rfl, Nat.lt_of_lt_of_le hlt hb.size, fun j hj => (hb.cell (p := ⟨b, o + j, none⟩) hlt).trans (hc j hj)⟩
theorem RowAt.drewN {w : World} {A : Option Addr} {n size : Nat} {f : Nat → Value} (h : RowAt w A n size f) (k : Nat) : RowAt (w.drewN k) A n size f := h
theorem below_drewN {B : Nat} {a w : World} (h : Below B a w) (n : Nat) : Below B a (w.drewN n) := ⟨h.os, h.tape, h.output, h.size, h.block⟩

/-- a new block of numbers -/
theorem RowAt.ints (w : World) (l : List Int) (t : TypeId) : RowAt (w.alloc (.cells (l.map (Value.int .i64)).toArray t)) (some ⟨w.heap.size, 0, none⟩) l.length 1 (fun j => .int .i64 (l.getD j 0)) := by
  refine .inr ⟨w.heap.size, 0, rfl, by simp, fun j hj => ?_⟩
  have hj' : j < l.length := by omega
  have hh : (w.alloc (.cells (l.map (Value.int .i64)).toArray t)).heap[w.heap.size]? = some (.cells (l.map (Value.int .i64)).toArray t (0, 0)) := by
    exact heap_alloc_new w _
  rw [Nat.zero_add, cell_of_row _ w.heap.size j _ t (0, 0) hh]
  simp [hj']
/-- two lists of numbers that are one are Equal -/
theorem equalInts_c (A B : Option Addr) (n c d : Nat) (x : Nat → Int) (w : World) (hn : n ≤ 9223372036854775807) (ha : RowAt w A n 1 (fun j => .int .i64 (x j))) (hb : RowAt w B n 1 (fun j => .int .i64 (x j))) :
    Calls Try.prog 15 #[.slice A n c, .slice B n d] w fun e w' => e = .returned (.bool true) ∧ ∃ m, w.drewN m = w' := by
  rcases Nat.eq_zero_or_pos n with h0 | h0
  · subst h0
    go_enter Try.func15, Try.ntmps15
    go_wp2
    go_rounds 1
    go_ret
    exact ⟨rfl, 0, rfl⟩
  · obtain ⟨b1, o1, rfl, l1, c1⟩ := ha.resolve_left (by omega)
    obtain ⟨b2, o2, rfl, l2, c2⟩ := hb.resolve_left (by omega)
    have C1 := Lib.hid c1
    have C2 := Lib.hid c2
    clear c1 c2 ha hb
    go_enter Try.func15, Try.ntmps15
    go_wp2
    go_loopw [13] (fun i wr => ∃ k m : Nat, k ≤ n ∧ i = .int .i64 k ∧ wr = w.drewN m) (fun i _ => n - (intOf i).toNat)
    case atStart => exact ⟨0, 0, Nat.zero_le _, rfl, rfl⟩
    case round =>
      obtain ⟨k, m, hk, rfl, rfl⟩ := hrel
      by_cases hlt : k < n
      · have g1 : w.cell? ⟨b1, o1 + k, none⟩ = some (.int .i64 (x k)) := C1.out k (by omega)
        have g2 : w.cell? ⟨b2, o2 + k, none⟩ = some (.int .i64 (x k)) := C2.out k (by omega)
        have hlt' : (k : Int) < (n : Int) := by omega
        go_wp2
        go_quiet (fail)
        go_wp2
        go_roundw
        case rel => exact ⟨k + 1, _, by omega, by go_num, rfl⟩
        case measure => simp [intOf]; omega
      · go_wp2
        go_ret
        exact ⟨rfl, m, rfl⟩
end Go.Proofs.Ytakigeichhngbaa
