import Derived.Test.YtakigeichhngbaaDoorUnmF
import Derived.Test.YtakigeichhngbaaDoorXw
import Derived.Maps.AppendAt
namespace Go.Proofs.YtakigeichhngbaaDoor
open Go.RowKit
set_option linter.unusedVariables false
set_option linter.unusedSimpArgs false

theorem u8_infoP : (Tryd.prog.info? 5).map (fun i => (i.zero, i.size, i.bytes)) = some (some (.int .u8 0), 1, 1) := by kernel_rfl
/-- a slice of bytes of the call's own -/
def OwnB (w : World) (B : Nat) (v : Value) (bs : List Int) : Prop := w.ownsRow B 5 1 v bs.length (u8s bs)
def PutEnd (w : World) (B : Nat) (bs : List Int) (e : Ending) (w' : World) : Prop := ∃ v, e = .returned v ∧ OwnB w' B v bs ∧ Below B w w'
theorem OwnB.slice {w : World} {B : Nat} {v : Value} {bs : List Int} (h : OwnB w B v bs) : ∃ A n c, v = .slice A n c ∧ Hid (n = bs.length) := by
  rcases h.2 with ⟨rfl, h0⟩ | ⟨g, cap, cur, rfl, _⟩
  · exact ⟨_, _, _, rfl, h0.symm⟩
  · exact ⟨_, _, _, rfl, rfl⟩
theorem OwnB.step {w w1 : World} {B : Nat} {v v1 : Value} {bs : List Int} {b : Int} {X : Obj} (h : OwnB w B v bs) (hB : B ≤ w.heap.size) (ho : w1.ownsRow B 5 1 v1 (bs.length + 1) (u8s bs ++ [.int .u8 b])) (hg : (w.alloc X).grownBy w1 v.ownBlock) : OwnB w1 B v1 (bs ++ [b]) ∧ Below B w w1 := by
  refine ⟨?_, ((Below.refl B w).alloc hB X).grown hg (by simp; omega) (fun k hk => (h.lt k hk).1)⟩
  unfold OwnB
  rw [List.length_append]
  simpa [u8s] using ho
set_option maxRecDepth 100000 in
set_option maxHeartbeats 1000000 in
theorem put2L (v : Value) (bs : List Int) (x : Int) (w : World) (B : Nat) (h : OwnB w B v bs) (hB : B ≤ w.heap.size) (hm : bs.length ≤ 100000) (x0 : 0 ≤ x) (x1 : x ≤ 18446744073709551615) :
    Calls Tryd.prog 71 #[v, .int .u64 x, .int .i64 2, .bool false] w (PutEnd w B (bs ++ [x % 256, x / 256 % 256])) := by
  obtain ⟨i0, hi0, hz0, hz1, hz2⟩ := info_parts u8_infoP
  obtain ⟨A0, n0, c0, rfl, -⟩ := h.slice
  have H0 := Lib.hid h
  have HB0 := Lib.hid (Below.refl B w)
  have hs0 := hB
  clear h hB
  go_enter Tryd.func71, Tryd.ntmps71
  go_wp2_with fail
  refine wp_loop_rounds 3 ?_
  rw [rounds_succ]
  have hl0 : (bs).length ≤ 100000 + 0 := by simp; omega
  go_wp2_with (first | (at_builtin; go_loud (refine wpList_append_own _ rfl (.tmp 23) (.tmp 28) 22 rfl B 5 i0 (.int .u8 0) 1 1 Tryd.underlying22 hi0 hz0 hz1 hz2 rfl (by decide) _ _ _ rfl (H0.out.alloc _) ⟨w.heap.size, 0, none⟩ 1 1 [.int .u8 (x % 256)] rfl rfl (cell_one_new _ _ _) (ints_oneCell .u8 [x % 256]) (by unfold maxLen; omega) (by omega) (by simp; omega) ?_); intro v1 w1 hown1 hg1 _; have S := H0.out.step hs0 hown1 hg1; have H1 := Lib.hid S.1; have HB1 := Lib.hid (HB0.out.trans S.2); have hs1 : B ≤ w1.heap.size := Nat.le_trans hs0 S.2.size; obtain ⟨A1, n1, c1, rfl, -⟩ := S.1.slice; clear S hown1 hg1))
  rw [rounds_succ]
  have hl1 : ((bs ++ [x % 256])).length ≤ 100000 + 1 := by simp; omega
  go_wp2_with (first | (at_builtin; go_loud (refine wpList_append_own _ rfl (.tmp 23) (.tmp 28) 22 rfl B 5 i0 (.int .u8 0) 1 1 Tryd.underlying22 hi0 hz0 hz1 hz2 rfl (by decide) _ _ _ rfl (H1.out.alloc _) ⟨w1.heap.size, 0, none⟩ 1 1 [.int .u8 (x / 256 % 256)] rfl rfl (cell_one_new _ _ _) (ints_oneCell .u8 [x / 256 % 256]) (by unfold maxLen; omega) (by omega) (by simp; omega) ?_); intro v2 w2 hown2 hg2 _; have S := H1.out.step hs1 hown2 hg2; have H2 := Lib.hid S.1; have HB2 := Lib.hid (HB1.out.trans S.2); have hs2 : B ≤ w2.heap.size := Nat.le_trans hs1 S.2.size; obtain ⟨A2, n2, c2, rfl, -⟩ := S.1.slice; clear S hown2 hg2))
  rw [rounds_succ]
  go_wp2
  go_ret
  exact ⟨_, rfl, by simpa using H2.out, HB2.out⟩
set_option maxRecDepth 100000 in
set_option maxHeartbeats 1000000 in
theorem put2G (v : Value) (bs : List Int) (x : Int) (w : World) (B : Nat) (h : OwnB w B v bs) (hB : B ≤ w.heap.size) (hm : bs.length ≤ 100000) (x0 : 0 ≤ x) (x1 : x ≤ 18446744073709551615) :
    Calls Tryd.prog 71 #[v, .int .u64 x, .int .i64 2, .bool true] w (PutEnd w B (bs ++ [x / 256 % 256, x % 256])) := by
  obtain ⟨i0, hi0, hz0, hz1, hz2⟩ := info_parts u8_infoP
  obtain ⟨A0, n0, c0, rfl, -⟩ := h.slice
  have H0 := Lib.hid h
  have HB0 := Lib.hid (Below.refl B w)
  have hs0 := hB
  clear h hB
  go_enter Tryd.func71, Tryd.ntmps71
  go_wp2_with fail
  refine wp_loop_rounds 3 ?_
  rw [rounds_succ]
  have hl0 : (bs).length ≤ 100000 + 0 := by simp; omega
  go_wp2_with (first | (at_builtin; go_loud (refine wpList_append_own _ rfl (.tmp 23) (.tmp 28) 22 rfl B 5 i0 (.int .u8 0) 1 1 Tryd.underlying22 hi0 hz0 hz1 hz2 rfl (by decide) _ _ _ rfl (H0.out.alloc _) ⟨w.heap.size, 0, none⟩ 1 1 [.int .u8 (x / 256 % 256)] rfl rfl (cell_one_new _ _ _) (ints_oneCell .u8 [x / 256 % 256]) (by unfold maxLen; omega) (by omega) (by simp; omega) ?_); intro v1 w1 hown1 hg1 _; have S := H0.out.step hs0 hown1 hg1; have H1 := Lib.hid S.1; have HB1 := Lib.hid (HB0.out.trans S.2); have hs1 : B ≤ w1.heap.size := Nat.le_trans hs0 S.2.size; obtain ⟨A1, n1, c1, rfl, -⟩ := S.1.slice; clear S hown1 hg1))
  rw [rounds_succ]
  have hl1 : ((bs ++ [x / 256 % 256])).length ≤ 100000 + 1 := by simp; omega
  go_wp2_with (first | (at_builtin; go_loud (refine wpList_append_own _ rfl (.tmp 23) (.tmp 28) 22 rfl B 5 i0 (.int .u8 0) 1 1 Tryd.underlying22 hi0 hz0 hz1 hz2 rfl (by decide) _ _ _ rfl (H1.out.alloc _) ⟨w1.heap.size, 0, none⟩ 1 1 [.int .u8 (x % 256)] rfl rfl (cell_one_new _ _ _) (ints_oneCell .u8 [x % 256]) (by unfold maxLen; omega) (by omega) (by simp; omega) ?_); intro v2 w2 hown2 hg2 _; have S := H1.out.step hs1 hown2 hg2; have H2 := Lib.hid S.1; have HB2 := Lib.hid (HB1.out.trans S.2); have hs2 : B ≤ w2.heap.size := Nat.le_trans hs1 S.2.size; obtain ⟨A2, n2, c2, rfl, -⟩ := S.1.slice; clear S hown2 hg2))
  rw [rounds_succ]
  go_wp2
  go_ret
  exact ⟨_, rfl, by simpa using H2.out, HB2.out⟩
set_option maxRecDepth 100000 in
set_option maxHeartbeats 1000000 in
theorem put4L (v : Value) (bs : List Int) (x : Int) (w : World) (B : Nat) (h : OwnB w B v bs) (hB : B ≤ w.heap.size) (hm : bs.length ≤ 100000) (x0 : 0 ≤ x) (x1 : x ≤ 18446744073709551615) :
    Calls Tryd.prog 71 #[v, .int .u64 x, .int .i64 4, .bool false] w (PutEnd w B (bs ++ [x % 256, x / 256 % 256, x / 65536 % 256, x / 16777216 % 256])) := by
  obtain ⟨i0, hi0, hz0, hz1, hz2⟩ := info_parts u8_infoP
  obtain ⟨A0, n0, c0, rfl, -⟩ := h.slice
  have H0 := Lib.hid h
  have HB0 := Lib.hid (Below.refl B w)
  have hs0 := hB
  clear h hB
  go_enter Tryd.func71, Tryd.ntmps71
  go_wp2_with fail
  refine wp_loop_rounds 5 ?_
  rw [rounds_succ]
  have hl0 : (bs).length ≤ 100000 + 0 := by simp; omega
  go_wp2_with (first | (at_builtin; go_loud (refine wpList_append_own _ rfl (.tmp 23) (.tmp 28) 22 rfl B 5 i0 (.int .u8 0) 1 1 Tryd.underlying22 hi0 hz0 hz1 hz2 rfl (by decide) _ _ _ rfl (H0.out.alloc _) ⟨w.heap.size, 0, none⟩ 1 1 [.int .u8 (x % 256)] rfl rfl (cell_one_new _ _ _) (ints_oneCell .u8 [x % 256]) (by unfold maxLen; omega) (by omega) (by simp; omega) ?_); intro v1 w1 hown1 hg1 _; have S := H0.out.step hs0 hown1 hg1; have H1 := Lib.hid S.1; have HB1 := Lib.hid (HB0.out.trans S.2); have hs1 : B ≤ w1.heap.size := Nat.le_trans hs0 S.2.size; obtain ⟨A1, n1, c1, rfl, -⟩ := S.1.slice; clear S hown1 hg1))
  rw [rounds_succ]
  have hl1 : ((bs ++ [x % 256])).length ≤ 100000 + 1 := by simp; omega
  go_wp2_with (first | (at_builtin; go_loud (refine wpList_append_own _ rfl (.tmp 23) (.tmp 28) 22 rfl B 5 i0 (.int .u8 0) 1 1 Tryd.underlying22 hi0 hz0 hz1 hz2 rfl (by decide) _ _ _ rfl (H1.out.alloc _) ⟨w1.heap.size, 0, none⟩ 1 1 [.int .u8 (x / 256 % 256)] rfl rfl (cell_one_new _ _ _) (ints_oneCell .u8 [x / 256 % 256]) (by unfold maxLen; omega) (by omega) (by simp; omega) ?_); intro v2 w2 hown2 hg2 _; have S := H1.out.step hs1 hown2 hg2; have H2 := Lib.hid S.1; have HB2 := Lib.hid (HB1.out.trans S.2); have hs2 : B ≤ w2.heap.size := Nat.le_trans hs1 S.2.size; obtain ⟨A2, n2, c2, rfl, -⟩ := S.1.slice; clear S hown2 hg2))
  rw [rounds_succ]
  have hl2 : (((bs ++ [x % 256]) ++ [x / 256 % 256])).length ≤ 100000 + 2 := by simp; omega
  go_wp2_with (first | (at_builtin; go_loud (refine wpList_append_own _ rfl (.tmp 23) (.tmp 28) 22 rfl B 5 i0 (.int .u8 0) 1 1 Tryd.underlying22 hi0 hz0 hz1 hz2 rfl (by decide) _ _ _ rfl (H2.out.alloc _) ⟨w2.heap.size, 0, none⟩ 1 1 [.int .u8 (x / 65536 % 256)] rfl rfl (cell_one_new _ _ _) (ints_oneCell .u8 [x / 65536 % 256]) (by unfold maxLen; omega) (by omega) (by simp; omega) ?_); intro v3 w3 hown3 hg3 _; have S := H2.out.step hs2 hown3 hg3; have H3 := Lib.hid S.1; have HB3 := Lib.hid (HB2.out.trans S.2); have hs3 : B ≤ w3.heap.size := Nat.le_trans hs2 S.2.size; obtain ⟨A3, n3, c3, rfl, -⟩ := S.1.slice; clear S hown3 hg3))
  rw [rounds_succ]
  have hl3 : ((((bs ++ [x % 256]) ++ [x / 256 % 256]) ++ [x / 65536 % 256])).length ≤ 100000 + 3 := by simp; omega
  go_wp2_with (first | (at_builtin; go_loud (refine wpList_append_own _ rfl (.tmp 23) (.tmp 28) 22 rfl B 5 i0 (.int .u8 0) 1 1 Tryd.underlying22 hi0 hz0 hz1 hz2 rfl (by decide) _ _ _ rfl (H3.out.alloc _) ⟨w3.heap.size, 0, none⟩ 1 1 [.int .u8 (x / 16777216 % 256)] rfl rfl (cell_one_new _ _ _) (ints_oneCell .u8 [x / 16777216 % 256]) (by unfold maxLen; omega) (by omega) (by simp; omega) ?_); intro v4 w4 hown4 hg4 _; have S := H3.out.step hs3 hown4 hg4; have H4 := Lib.hid S.1; have HB4 := Lib.hid (HB3.out.trans S.2); have hs4 : B ≤ w4.heap.size := Nat.le_trans hs3 S.2.size; obtain ⟨A4, n4, c4, rfl, -⟩ := S.1.slice; clear S hown4 hg4))
  rw [rounds_succ]
  go_wp2
  go_ret
  exact ⟨_, rfl, by simpa using H4.out, HB4.out⟩
set_option maxRecDepth 100000 in
set_option maxHeartbeats 1000000 in
theorem put4G (v : Value) (bs : List Int) (x : Int) (w : World) (B : Nat) (h : OwnB w B v bs) (hB : B ≤ w.heap.size) (hm : bs.length ≤ 100000) (x0 : 0 ≤ x) (x1 : x ≤ 18446744073709551615) :
    Calls Tryd.prog 71 #[v, .int .u64 x, .int .i64 4, .bool true] w (PutEnd w B (bs ++ [x / 16777216 % 256, x / 65536 % 256, x / 256 % 256, x % 256])) := by
  obtain ⟨i0, hi0, hz0, hz1, hz2⟩ := info_parts u8_infoP
  obtain ⟨A0, n0, c0, rfl, -⟩ := h.slice
  have H0 := Lib.hid h
  have HB0 := Lib.hid (Below.refl B w)
  have hs0 := hB
  clear h hB
  go_enter Tryd.func71, Tryd.ntmps71
  go_wp2_with fail
  refine wp_loop_rounds 5 ?_
  rw [rounds_succ]
  have hl0 : (bs).length ≤ 100000 + 0 := by simp; omega
  go_wp2_with (first | (at_builtin; go_loud (refine wpList_append_own _ rfl (.tmp 23) (.tmp 28) 22 rfl B 5 i0 (.int .u8 0) 1 1 Tryd.underlying22 hi0 hz0 hz1 hz2 rfl (by decide) _ _ _ rfl (H0.out.alloc _) ⟨w.heap.size, 0, none⟩ 1 1 [.int .u8 (x / 16777216 % 256)] rfl rfl (cell_one_new _ _ _) (ints_oneCell .u8 [x / 16777216 % 256]) (by unfold maxLen; omega) (by omega) (by simp; omega) ?_); intro v1 w1 hown1 hg1 _; have S := H0.out.step hs0 hown1 hg1; have H1 := Lib.hid S.1; have HB1 := Lib.hid (HB0.out.trans S.2); have hs1 : B ≤ w1.heap.size := Nat.le_trans hs0 S.2.size; obtain ⟨A1, n1, c1, rfl, -⟩ := S.1.slice; clear S hown1 hg1))
  rw [rounds_succ]
  have hl1 : ((bs ++ [x / 16777216 % 256])).length ≤ 100000 + 1 := by simp; omega
  go_wp2_with (first | (at_builtin; go_loud (refine wpList_append_own _ rfl (.tmp 23) (.tmp 28) 22 rfl B 5 i0 (.int .u8 0) 1 1 Tryd.underlying22 hi0 hz0 hz1 hz2 rfl (by decide) _ _ _ rfl (H1.out.alloc _) ⟨w1.heap.size, 0, none⟩ 1 1 [.int .u8 (x / 65536 % 256)] rfl rfl (cell_one_new _ _ _) (ints_oneCell .u8 [x / 65536 % 256]) (by unfold maxLen; omega) (by omega) (by simp; omega) ?_); intro v2 w2 hown2 hg2 _; have S := H1.out.step hs1 hown2 hg2; have H2 := Lib.hid S.1; have HB2 := Lib.hid (HB1.out.trans S.2); have hs2 : B ≤ w2.heap.size := Nat.le_trans hs1 S.2.size; obtain ⟨A2, n2, c2, rfl, -⟩ := S.1.slice; clear S hown2 hg2))
  rw [rounds_succ]
  have hl2 : (((bs ++ [x / 16777216 % 256]) ++ [x / 65536 % 256])).length ≤ 100000 + 2 := by simp; omega
  go_wp2_with (first | (at_builtin; go_loud (refine wpList_append_own _ rfl (.tmp 23) (.tmp 28) 22 rfl B 5 i0 (.int .u8 0) 1 1 Tryd.underlying22 hi0 hz0 hz1 hz2 rfl (by decide) _ _ _ rfl (H2.out.alloc _) ⟨w2.heap.size, 0, none⟩ 1 1 [.int .u8 (x / 256 % 256)] rfl rfl (cell_one_new _ _ _) (ints_oneCell .u8 [x / 256 % 256]) (by unfold maxLen; omega) (by omega) (by simp; omega) ?_); intro v3 w3 hown3 hg3 _; have S := H2.out.step hs2 hown3 hg3; have H3 := Lib.hid S.1; have HB3 := Lib.hid (HB2.out.trans S.2); have hs3 : B ≤ w3.heap.size := Nat.le_trans hs2 S.2.size; obtain ⟨A3, n3, c3, rfl, -⟩ := S.1.slice; clear S hown3 hg3))
  rw [rounds_succ]
  have hl3 : ((((bs ++ [x / 16777216 % 256]) ++ [x / 65536 % 256]) ++ [x / 256 % 256])).length ≤ 100000 + 3 := by simp; omega
  go_wp2_with (first | (at_builtin; go_loud (refine wpList_append_own _ rfl (.tmp 23) (.tmp 28) 22 rfl B 5 i0 (.int .u8 0) 1 1 Tryd.underlying22 hi0 hz0 hz1 hz2 rfl (by decide) _ _ _ rfl (H3.out.alloc _) ⟨w3.heap.size, 0, none⟩ 1 1 [.int .u8 (x % 256)] rfl rfl (cell_one_new _ _ _) (ints_oneCell .u8 [x % 256]) (by unfold maxLen; omega) (by omega) (by simp; omega) ?_); intro v4 w4 hown4 hg4 _; have S := H3.out.step hs3 hown4 hg4; have H4 := Lib.hid S.1; have HB4 := Lib.hid (HB3.out.trans S.2); have hs4 : B ≤ w4.heap.size := Nat.le_trans hs3 S.2.size; obtain ⟨A4, n4, c4, rfl, -⟩ := S.1.slice; clear S hown4 hg4))
  rw [rounds_succ]
  go_wp2
  go_ret
  exact ⟨_, rfl, by simpa using H4.out, HB4.out⟩
end Go.Proofs.YtakigeichhngbaaDoor
