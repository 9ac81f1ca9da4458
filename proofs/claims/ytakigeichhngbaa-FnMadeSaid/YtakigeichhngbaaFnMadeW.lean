import Derived.Test.YtakigeichhngbaaMadeAll
import Derived.Laws.StructEq
namespace Go.Proofs.Ytakigeichhngbaa
open Go.RowKit
set_option linter.unusedVariables false
set_option linter.unusedSimpArgs false
set_option maxRecDepth 100000

set_option maxHeartbeats 1000000 in
theorem fnMade_any (w : World) (k op d s o v z : Int) (r : ByteArray) (k0 : 0 ≤ k) (k1 : k ≤ 255) (d0 : 0 ≤ d) (d1 : d ≤ 255) (s0 : 0 ≤ s) (s1 : s ≤ 255) (o0 : -32768 ≤ o) (o1 : o ≤ 32767) (v0 : -2147483648 ≤ v) (v1 : v ≤ 2147483647) (z0 : 0 ≤ z) (z1 : z ≤ 255) (rz : r.size ≤ 9223372036854775807) :
    Calls Try.prog 7 #[.int .u8 k, .int .i64 op, .int .u8 d, .int .u8 s, .int .i16 o, .int .i32 v, .int .u8 z, .string r] w fun e w' => e = .returned (.bool true) ∧ Below w.heap.size w w' := by
  by_cases c0 : 2147483647 < (r.size : Int)
  · go_enter Try.func7, Try.ntmps7
    go_wp2
    go_ret
    exact ⟨rfl, Below.refl _ _⟩
  have c0 : (r.size : Int) ≤ 2147483647 := by omega
  by_cases c1 : 10 < d
  · go_enter Try.func7, Try.ntmps7
    go_wp2
    go_ret
    exact ⟨rfl, Below.refl _ _⟩
  have c1 : d ≤ 10 := by omega
  by_cases c2 : 10 < s
  · go_enter Try.func7, Try.ntmps7
    go_wp2
    go_ret
    exact ⟨rfl, Below.refl _ _⟩
  have c2 : s ≤ 10 := by omega
  by_cases c3 : 20 < (r.size : Int)
  · go_enter Try.func7, Try.ntmps7
    go_wp2
    go_ret
    exact ⟨rfl, Below.refl _ _⟩
  have c3 : (r.size : Int) ≤ 20 := by omega
  cases c4 : r.toList.isEmpty
  rotate_left
  · go_enter Try.func7, Try.ntmps7
    go_wp2
    go_ret
    exact ⟨rfl, Below.refl _ _⟩
  by_cases c5 : op < 0
  · go_enter Try.func7, Try.ntmps7
    go_wp2
    go_ret
    exact ⟨rfl, Below.refl _ _⟩
  have c5 : 0 ≤ op := by omega
  by_cases c6 : 65535 < op
  · go_enter Try.func7, Try.ntmps7
    go_wp2
    go_ret
    exact ⟨rfl, Below.refl _ _⟩
  have c6 : op ≤ 65535 := by omega
  by_cases hm : k = 21 ∨ k = 22
  · by_cases c7 : v < 0
    · rcases hm with rfl | rfl
      all_goals
        go_enter Try.func7, Try.ntmps7
        go_wp2
        go_ret
        exact ⟨rfl, Below.refl _ _⟩
    have c7 : 0 ≤ v := by omega
    by_cases c8 : o < 0
    · rcases hm with rfl | rfl
      all_goals
        go_enter Try.func7, Try.ntmps7
        go_wp2
        go_ret
        exact ⟨rfl, Below.refl _ _⟩
    have c8 : 0 ≤ o := by omega
    have SM := Lib.hid (same_all k op d s o v z r k0 k1 c5 c6 d0 c1 s0 c2 o0 o1 v0 v1 z0 z1 (fun _ => ⟨c7, c8⟩))
    rcases hm with rfl | rfl
    · rcases SM.out with ⟨x, d', s', o', v', r', HS, HI⟩ | ⟨x, d', s', o', v', r', HS⟩
      · have HS := Lib.hid HS
        have HI := Lib.hid HI
        clear SM
        go_enter Try.func7, Try.ntmps7
        go_wp2_with fail
        refine (HS.out _).mono ?_
        rintro e w1 ⟨rfl, hb1⟩
        go_wp2_with fail
        refine (HI.out _).mono ?_
        rintro e w2 ⟨rfl, hb2⟩
        have hW := (hb2.block w1.heap.size (by simp)).trans (heap_alloc_new w1 _)
        have hz := hb2.size
        simp only [World.size_alloc] at hz
        have hz : w1.heap.size < w2.heap.size := by omega
        have hW3 := (Below.heap_alloc w2 (.cells #[.int .i64 x, .int .i64 d', .int .i64 s', .int .i64 o', .int .i64 v', .string ⟨#[]⟩, .string r'] 23) _ hz).trans hW
        obtain ⟨q0, q1, q2, q3, q4, q5, q6⟩ := cells7 hW3
        have HB := Lib.hid (((hb1.alloc hb1.size _).trans (hb2.mono (by have := hb1.size; simp only [World.size_alloc]; omega))).alloc (by have := hb1.size; omega) (.cells #[.int .i64 x, .int .i64 d', .int .i64 s', .int .i64 o', .int .i64 v', .string ⟨#[]⟩, .string r'] 23))
        clear hb1 hb2 hW hW3
        go_wp2
        go_ret
        exact ⟨rfl, HB.out⟩
      · have HS := Lib.hid HS
        clear SM
        go_enter Try.func7, Try.ntmps7
        go_wp2_with fail
        refine (HS.out _).mono ?_
        rintro e w1 ⟨rfl, hb1⟩
        go_wp2
        go_ret
        exact ⟨rfl, hb1.alloc hb1.size _⟩
    · rcases SM.out with ⟨x, d', s', o', v', r', HS, HI⟩ | ⟨x, d', s', o', v', r', HS⟩
      · have HS := Lib.hid HS
        have HI := Lib.hid HI
        clear SM
        go_enter Try.func7, Try.ntmps7
        go_wp2_with fail
        refine (HS.out _).mono ?_
        rintro e w1 ⟨rfl, hb1⟩
        go_wp2_with fail
        refine (HI.out _).mono ?_
        rintro e w2 ⟨rfl, hb2⟩
        have hW := (hb2.block w1.heap.size (by simp)).trans (heap_alloc_new w1 _)
        have hz := hb2.size
        simp only [World.size_alloc] at hz
        have hz : w1.heap.size < w2.heap.size := by omega
        have hW3 := (Below.heap_alloc w2 (.cells #[.int .i64 x, .int .i64 d', .int .i64 s', .int .i64 o', .int .i64 v', .string ⟨#[]⟩, .string r'] 23) _ hz).trans hW
        obtain ⟨q0, q1, q2, q3, q4, q5, q6⟩ := cells7 hW3
        have HB := Lib.hid (((hb1.alloc hb1.size _).trans (hb2.mono (by have := hb1.size; simp only [World.size_alloc]; omega))).alloc (by have := hb1.size; omega) (.cells #[.int .i64 x, .int .i64 d', .int .i64 s', .int .i64 o', .int .i64 v', .string ⟨#[]⟩, .string r'] 23))
        clear hb1 hb2 hW hW3
        go_wp2
        go_ret
        exact ⟨rfl, HB.out⟩
      · have HS := Lib.hid HS
        clear SM
        go_enter Try.func7, Try.ntmps7
        go_wp2_with fail
        refine (HS.out _).mono ?_
        rintro e w1 ⟨rfl, hb1⟩
        go_wp2
        go_ret
        exact ⟨rfl, hb1.alloc hb1.size _⟩
  · have e1 : (k == 21) = false := by simp; omega
    have e2 : (k == 22) = false := by simp; omega
    have SM := Lib.hid (same_all k op d s o v z r k0 k1 c5 c6 d0 c1 s0 c2 o0 o1 v0 v1 z0 z1 (fun h => absurd h hm))
    rcases SM.out with ⟨x, d', s', o', v', r', HS, HI⟩ | ⟨x, d', s', o', v', r', HS⟩
    · have HS := Lib.hid HS
      have HI := Lib.hid HI
      clear SM
      go_enter Try.func7, Try.ntmps7
      go_wp2_with fail
      refine (HS.out _).mono ?_
      rintro e w1 ⟨rfl, hb1⟩
      go_wp2_with fail
      refine (HI.out _).mono ?_
      rintro e w2 ⟨rfl, hb2⟩
      have hW := (hb2.block w1.heap.size (by simp)).trans (heap_alloc_new w1 _)
      have hz := hb2.size
      simp only [World.size_alloc] at hz
      have hz : w1.heap.size < w2.heap.size := by omega
      have hW3 := (Below.heap_alloc w2 (.cells #[.int .i64 x, .int .i64 d', .int .i64 s', .int .i64 o', .int .i64 v', .string ⟨#[]⟩, .string r'] 23) _ hz).trans hW
      obtain ⟨q0, q1, q2, q3, q4, q5, q6⟩ := cells7 hW3
      have HB := Lib.hid (((hb1.alloc hb1.size _).trans (hb2.mono (by have := hb1.size; simp only [World.size_alloc]; omega))).alloc (by have := hb1.size; omega) (.cells #[.int .i64 x, .int .i64 d', .int .i64 s', .int .i64 o', .int .i64 v', .string ⟨#[]⟩, .string r'] 23))
      clear hb1 hb2 hW hW3
      go_wp2
      go_ret
      exact ⟨rfl, HB.out⟩
    · have HS := Lib.hid HS
      clear SM
      go_enter Try.func7, Try.ntmps7
      go_wp2_with fail
      refine (HS.out _).mono ?_
      rintro e w1 ⟨rfl, hb1⟩
      go_wp2
      go_ret
      exact ⟨rfl, hb1.alloc hb1.size _⟩
end Go.Proofs.Ytakigeichhngbaa
