import Derived.Test.YtakigeichhngbaaIMade0
namespace Go.Proofs.Ytakigeichhngbaa
open Go.RowKit
set_option linter.unusedVariables false
set_option linter.unusedSimpArgs false
set_option maxRecDepth 100000

set_option maxHeartbeats 1000000 in
theorem implMade19e0z8 (op d s o v z x : Int) (r : ByteArray) (w : World) (op0 : 0 ≤ op) (op1 : op ≤ 65535) (d0 : 0 ≤ d) (d1 : d ≤ 10) (s0 : 0 ≤ s) (s1 : s ≤ 10) (o0 : -32768 ≤ o) (o1 : o ≤ 32767) (v0 : -2147483648 ≤ v) (v1 : v ≤ 2147483647) (z0 : 0 ≤ z) (z1 : z ≤ 255)  (hx : pSetSource (pSetALUOp 4 208) 0 = x) (x0 : 0 ≤ x) (x1 : x ≤ 65535) : Calls Try.prog 27 #[.int .i64 19, .int .i64 0, .int .i64 d, .int .i64 s, .int .i64 o, .int .i64 v, .int .i64 8, .string r] w (MadeEnd w x d 0 0 16 ⟨#[]⟩ true) := by
  go_enter Try.func27, Try.ntmps27
  go_wp2_with (first | (go_at_call 79; ((with_reducible refine (is32_c _ _ (by omega) (by omega)).mono ?_); rintro e w' ⟨rfl, rfl⟩)))
  refine (HostTo8_c 0 d _ (by omega) (by omega) (by omega) (by omega)).mono ?_
  rw [hx]
  rintro e w1 ⟨⟨p1, rfl, hm1⟩, hb1⟩
  obtain ⟨hI, hR, hB1, hz1⟩ := made_boxes hb1
  obtain ⟨i0, i1, i2, i3, i4, i5, fI⟩ := cells6 hI
  have HI := Lib.hid hI
  have HR := Lib.hid hR
  have HM := Lib.hid hm1
  have HB := Lib.hid hB1
  clear hI hR hm1 hb1 hB1
  go_wp2_with fail
  refine (told_c x d 0 0 16 p1 _ _ (HM.out.six HI.out) (by simp) ⟨⟨x0, by omega⟩, by omega, by omega, by omega, by omega⟩).mono ?_
  rintro e w2 ⟨rfl, hb2⟩
  have hR2 := (hb2.block w.heap.size (by simp only [six_size]; omega)).trans ((six_blk_other _ _ _ _ _ _ _ _ _ (by omega)).trans HR.out)
  obtain ⟨r0, r1, r2, r3, r4, r5, r6⟩ := cells7 hR2
  have rf : ∀ j, w2.frozen? ⟨w.heap.size, j, none⟩ = false := fun j => frozen_of_row _ _ _ _ _ hR2
  have HR2 := Lib.hid hR2
  have HB2 := Lib.hid (six_then HB.out (w.heap.size + 1) (by omega) (by omega) _ _ _ _ _ _ hb2)
  clear hb2 hR2 i0 i1 i2 i3 i4 i5 fI
  go_wp2
  exact bodyPost_ret (results_made Try.results27 _ _ w.heap.size 23 _ (0, 0) _ _ rfl rfl (seven_blk _ _ _ _ _ _ _ _ _ _ _ _ _ _ _ _ _ HR2.out) Try.underlying23 (by kernel_rfl) rfl) rfl ⟨rfl, seven_below HB2.out _ _ _ _ _ _ _⟩
set_option maxHeartbeats 1000000 in
theorem implMade19e8z8 (op d s o v z x : Int) (r : ByteArray) (w : World) (op0 : 0 ≤ op) (op1 : op ≤ 65535) (d0 : 0 ≤ d) (d1 : d ≤ 10) (s0 : 0 ≤ s) (s1 : s ≤ 10) (o0 : -32768 ≤ o) (o1 : o ≤ 32767) (v0 : -2147483648 ≤ v) (v1 : v ≤ 2147483647) (z0 : 0 ≤ z) (z1 : z ≤ 255)  (hx : pSetSource (pSetALUOp 4 208) 8 = x) (x0 : 0 ≤ x) (x1 : x ≤ 65535) : Calls Try.prog 27 #[.int .i64 19, .int .i64 8, .int .i64 d, .int .i64 s, .int .i64 o, .int .i64 v, .int .i64 8, .string r] w (MadeEnd w x d 0 0 16 ⟨#[]⟩ true) := by
  go_enter Try.func27, Try.ntmps27
  go_wp2_with (first | (go_at_call 79; ((with_reducible refine (is32_c _ _ (by omega) (by omega)).mono ?_); rintro e w' ⟨rfl, rfl⟩)))
  refine (HostTo8_c 8 d _ (by omega) (by omega) (by omega) (by omega)).mono ?_
  rw [hx]
  rintro e w1 ⟨⟨p1, rfl, hm1⟩, hb1⟩
  obtain ⟨hI, hR, hB1, hz1⟩ := made_boxes hb1
  obtain ⟨i0, i1, i2, i3, i4, i5, fI⟩ := cells6 hI
  have HI := Lib.hid hI
  have HR := Lib.hid hR
  have HM := Lib.hid hm1
  have HB := Lib.hid hB1
  clear hI hR hm1 hb1 hB1
  go_wp2_with fail
  refine (told_c x d 0 0 16 p1 _ _ (HM.out.six HI.out) (by simp) ⟨⟨x0, by omega⟩, by omega, by omega, by omega, by omega⟩).mono ?_
  rintro e w2 ⟨rfl, hb2⟩
  have hR2 := (hb2.block w.heap.size (by simp only [six_size]; omega)).trans ((six_blk_other _ _ _ _ _ _ _ _ _ (by omega)).trans HR.out)
  obtain ⟨r0, r1, r2, r3, r4, r5, r6⟩ := cells7 hR2
  have rf : ∀ j, w2.frozen? ⟨w.heap.size, j, none⟩ = false := fun j => frozen_of_row _ _ _ _ _ hR2
  have HR2 := Lib.hid hR2
  have HB2 := Lib.hid (six_then HB.out (w.heap.size + 1) (by omega) (by omega) _ _ _ _ _ _ hb2)
  clear hb2 hR2 i0 i1 i2 i3 i4 i5 fI
  go_wp2
  exact bodyPost_ret (results_made Try.results27 _ _ w.heap.size 23 _ (0, 0) _ _ rfl rfl (seven_blk _ _ _ _ _ _ _ _ _ _ _ _ _ _ _ _ _ HR2.out) Try.underlying23 (by kernel_rfl) rfl) rfl ⟨rfl, seven_below HB2.out _ _ _ _ _ _ _⟩
set_option maxHeartbeats 1000000 in
theorem implMade20z8 (op d s o v z x : Int) (r : ByteArray) (w : World) (op0 : 0 ≤ op) (op1 : op ≤ 65535) (d0 : 0 ≤ d) (d1 : d ≤ 10) (s0 : 0 ≤ s) (s1 : s ≤ 10) (o0 : -32768 ≤ o) (o1 : o ≤ 32767) (v0 : -2147483648 ≤ v) (v1 : v ≤ 2147483647) (z0 : 0 ≤ z) (z1 : z ≤ 255)  (hx : pSetALUOp 7 208 = x) (x0 : 0 ≤ x) (x1 : x ≤ 65535) : Calls Try.prog 27 #[.int .i64 20, .int .i64 op, .int .i64 d, .int .i64 s, .int .i64 o, .int .i64 v, .int .i64 8, .string r] w (MadeEnd w x d 0 0 16 ⟨#[]⟩ true) := by
  go_enter Try.func27, Try.ntmps27
  go_wp2_with (first | (go_at_call 79; ((with_reducible refine (is32_c _ _ (by omega) (by omega)).mono ?_); rintro e w' ⟨rfl, rfl⟩)))
  refine (BSwap8_c d _ (by omega) (by omega)).mono ?_
  rw [hx]
  rintro e w1 ⟨⟨p1, rfl, hm1⟩, hb1⟩
  obtain ⟨hI, hR, hB1, hz1⟩ := made_boxes hb1
  obtain ⟨i0, i1, i2, i3, i4, i5, fI⟩ := cells6 hI
  have HI := Lib.hid hI
  have HR := Lib.hid hR
  have HM := Lib.hid hm1
  have HB := Lib.hid hB1
  clear hI hR hm1 hb1 hB1
  go_wp2_with fail
  refine (told_c x d 0 0 16 p1 _ _ (HM.out.six HI.out) (by simp) ⟨⟨x0, by omega⟩, by omega, by omega, by omega, by omega⟩).mono ?_
  rintro e w2 ⟨rfl, hb2⟩
  have hR2 := (hb2.block w.heap.size (by simp only [six_size]; omega)).trans ((six_blk_other _ _ _ _ _ _ _ _ _ (by omega)).trans HR.out)
  obtain ⟨r0, r1, r2, r3, r4, r5, r6⟩ := cells7 hR2
  have rf : ∀ j, w2.frozen? ⟨w.heap.size, j, none⟩ = false := fun j => frozen_of_row _ _ _ _ _ hR2
  have HR2 := Lib.hid hR2
  have HB2 := Lib.hid (six_then HB.out (w.heap.size + 1) (by omega) (by omega) _ _ _ _ _ _ hb2)
  clear hb2 hR2 i0 i1 i2 i3 i4 i5 fI
  go_wp2
  exact bodyPost_ret (results_made Try.results27 _ _ w.heap.size 23 _ (0, 0) _ _ rfl rfl (seven_blk _ _ _ _ _ _ _ _ _ _ _ _ _ _ _ _ _ HR2.out) Try.underlying23 (by kernel_rfl) rfl) rfl ⟨rfl, seven_below HB2.out _ _ _ _ _ _ _⟩
set_option maxHeartbeats 1000000 in
theorem implMade19e0z24 (op d s o v z x : Int) (r : ByteArray) (w : World) (op0 : 0 ≤ op) (op1 : op ≤ 65535) (d0 : 0 ≤ d) (d1 : d ≤ 10) (s0 : 0 ≤ s) (s1 : s ≤ 10) (o0 : -32768 ≤ o) (o1 : o ≤ 32767) (v0 : -2147483648 ≤ v) (v1 : v ≤ 2147483647) (z0 : 0 ≤ z) (z1 : z ≤ 255)  (hx : pSetSource (pSetALUOp 4 208) 0 = x) (x0 : 0 ≤ x) (x1 : x ≤ 65535) : Calls Try.prog 27 #[.int .i64 19, .int .i64 0, .int .i64 d, .int .i64 s, .int .i64 o, .int .i64 v, .int .i64 24, .string r] w (MadeEnd w x d 0 0 64 ⟨#[]⟩ true) := by
  go_enter Try.func27, Try.ntmps27
  go_wp2_with (first | (go_at_call 79; ((with_reducible refine (is32_c _ _ (by omega) (by omega)).mono ?_); rintro e w' ⟨rfl, rfl⟩)))
  refine (HostTo24_c 0 d _ (by omega) (by omega) (by omega) (by omega)).mono ?_
  rw [hx]
  rintro e w1 ⟨⟨p1, rfl, hm1⟩, hb1⟩
  obtain ⟨hI, hR, hB1, hz1⟩ := made_boxes hb1
  obtain ⟨i0, i1, i2, i3, i4, i5, fI⟩ := cells6 hI
  have HI := Lib.hid hI
  have HR := Lib.hid hR
  have HM := Lib.hid hm1
  have HB := Lib.hid hB1
  clear hI hR hm1 hb1 hB1
  go_wp2_with fail
  refine (told_c x d 0 0 64 p1 _ _ (HM.out.six HI.out) (by simp) ⟨⟨x0, by omega⟩, by omega, by omega, by omega, by omega⟩).mono ?_
  rintro e w2 ⟨rfl, hb2⟩
  have hR2 := (hb2.block w.heap.size (by simp only [six_size]; omega)).trans ((six_blk_other _ _ _ _ _ _ _ _ _ (by omega)).trans HR.out)
  obtain ⟨r0, r1, r2, r3, r4, r5, r6⟩ := cells7 hR2
  have rf : ∀ j, w2.frozen? ⟨w.heap.size, j, none⟩ = false := fun j => frozen_of_row _ _ _ _ _ hR2
  have HR2 := Lib.hid hR2
  have HB2 := Lib.hid (six_then HB.out (w.heap.size + 1) (by omega) (by omega) _ _ _ _ _ _ hb2)
  clear hb2 hR2 i0 i1 i2 i3 i4 i5 fI
  go_wp2
  exact bodyPost_ret (results_made Try.results27 _ _ w.heap.size 23 _ (0, 0) _ _ rfl rfl (seven_blk _ _ _ _ _ _ _ _ _ _ _ _ _ _ _ _ _ HR2.out) Try.underlying23 (by kernel_rfl) rfl) rfl ⟨rfl, seven_below HB2.out _ _ _ _ _ _ _⟩
set_option maxHeartbeats 1000000 in
theorem implMade19e8z24 (op d s o v z x : Int) (r : ByteArray) (w : World) (op0 : 0 ≤ op) (op1 : op ≤ 65535) (d0 : 0 ≤ d) (d1 : d ≤ 10) (s0 : 0 ≤ s) (s1 : s ≤ 10) (o0 : -32768 ≤ o) (o1 : o ≤ 32767) (v0 : -2147483648 ≤ v) (v1 : v ≤ 2147483647) (z0 : 0 ≤ z) (z1 : z ≤ 255)  (hx : pSetSource (pSetALUOp 4 208) 8 = x) (x0 : 0 ≤ x) (x1 : x ≤ 65535) : Calls Try.prog 27 #[.int .i64 19, .int .i64 8, .int .i64 d, .int .i64 s, .int .i64 o, .int .i64 v, .int .i64 24, .string r] w (MadeEnd w x d 0 0 64 ⟨#[]⟩ true) := by
  go_enter Try.func27, Try.ntmps27
  go_wp2_with (first | (go_at_call 79; ((with_reducible refine (is32_c _ _ (by omega) (by omega)).mono ?_); rintro e w' ⟨rfl, rfl⟩)))
  refine (HostTo24_c 8 d _ (by omega) (by omega) (by omega) (by omega)).mono ?_
  rw [hx]
  rintro e w1 ⟨⟨p1, rfl, hm1⟩, hb1⟩
  obtain ⟨hI, hR, hB1, hz1⟩ := made_boxes hb1
  obtain ⟨i0, i1, i2, i3, i4, i5, fI⟩ := cells6 hI
  have HI := Lib.hid hI
  have HR := Lib.hid hR
  have HM := Lib.hid hm1
  have HB := Lib.hid hB1
  clear hI hR hm1 hb1 hB1
  go_wp2_with fail
  refine (told_c x d 0 0 64 p1 _ _ (HM.out.six HI.out) (by simp) ⟨⟨x0, by omega⟩, by omega, by omega, by omega, by omega⟩).mono ?_
  rintro e w2 ⟨rfl, hb2⟩
  have hR2 := (hb2.block w.heap.size (by simp only [six_size]; omega)).trans ((six_blk_other _ _ _ _ _ _ _ _ _ (by omega)).trans HR.out)
  obtain ⟨r0, r1, r2, r3, r4, r5, r6⟩ := cells7 hR2
  have rf : ∀ j, w2.frozen? ⟨w.heap.size, j, none⟩ = false := fun j => frozen_of_row _ _ _ _ _ hR2
  have HR2 := Lib.hid hR2
  have HB2 := Lib.hid (six_then HB.out (w.heap.size + 1) (by omega) (by omega) _ _ _ _ _ _ hb2)
  clear hb2 hR2 i0 i1 i2 i3 i4 i5 fI
  go_wp2
  exact bodyPost_ret (results_made Try.results27 _ _ w.heap.size 23 _ (0, 0) _ _ rfl rfl (seven_blk _ _ _ _ _ _ _ _ _ _ _ _ _ _ _ _ _ HR2.out) Try.underlying23 (by kernel_rfl) rfl) rfl ⟨rfl, seven_below HB2.out _ _ _ _ _ _ _⟩
set_option maxHeartbeats 1000000 in
theorem implMade20z24 (op d s o v z x : Int) (r : ByteArray) (w : World) (op0 : 0 ≤ op) (op1 : op ≤ 65535) (d0 : 0 ≤ d) (d1 : d ≤ 10) (s0 : 0 ≤ s) (s1 : s ≤ 10) (o0 : -32768 ≤ o) (o1 : o ≤ 32767) (v0 : -2147483648 ≤ v) (v1 : v ≤ 2147483647) (z0 : 0 ≤ z) (z1 : z ≤ 255)  (hx : pSetALUOp 7 208 = x) (x0 : 0 ≤ x) (x1 : x ≤ 65535) : Calls Try.prog 27 #[.int .i64 20, .int .i64 op, .int .i64 d, .int .i64 s, .int .i64 o, .int .i64 v, .int .i64 24, .string r] w (MadeEnd w x d 0 0 64 ⟨#[]⟩ true) := by
  go_enter Try.func27, Try.ntmps27
  go_wp2_with (first | (go_at_call 79; ((with_reducible refine (is32_c _ _ (by omega) (by omega)).mono ?_); rintro e w' ⟨rfl, rfl⟩)))
  refine (BSwap24_c d _ (by omega) (by omega)).mono ?_
  rw [hx]
  rintro e w1 ⟨⟨p1, rfl, hm1⟩, hb1⟩
  obtain ⟨hI, hR, hB1, hz1⟩ := made_boxes hb1
  obtain ⟨i0, i1, i2, i3, i4, i5, fI⟩ := cells6 hI
  have HI := Lib.hid hI
  have HR := Lib.hid hR
  have HM := Lib.hid hm1
  have HB := Lib.hid hB1
  clear hI hR hm1 hb1 hB1
  go_wp2_with fail
  refine (told_c x d 0 0 64 p1 _ _ (HM.out.six HI.out) (by simp) ⟨⟨x0, by omega⟩, by omega, by omega, by omega, by omega⟩).mono ?_
  rintro e w2 ⟨rfl, hb2⟩
  have hR2 := (hb2.block w.heap.size (by simp only [six_size]; omega)).trans ((six_blk_other _ _ _ _ _ _ _ _ _ (by omega)).trans HR.out)
  obtain ⟨r0, r1, r2, r3, r4, r5, r6⟩ := cells7 hR2
  have rf : ∀ j, w2.frozen? ⟨w.heap.size, j, none⟩ = false := fun j => frozen_of_row _ _ _ _ _ hR2
  have HR2 := Lib.hid hR2
  have HB2 := Lib.hid (six_then HB.out (w.heap.size + 1) (by omega) (by omega) _ _ _ _ _ _ hb2)
  clear hb2 hR2 i0 i1 i2 i3 i4 i5 fI
  go_wp2
  exact bodyPost_ret (results_made Try.results27 _ _ w.heap.size 23 _ (0, 0) _ _ rfl rfl (seven_blk _ _ _ _ _ _ _ _ _ _ _ _ _ _ _ _ _ HR2.out) Try.underlying23 (by kernel_rfl) rfl) rfl ⟨rfl, seven_below HB2.out _ _ _ _ _ _ _⟩
set_option maxHeartbeats 1000000 in
theorem implMade21 (op d s o v z x : Int) (r : ByteArray) (w : World) (op0 : 0 ≤ op) (op1 : op ≤ 65535) (d0 : 0 ≤ d) (d1 : d ≤ 10) (s0 : 0 ≤ s) (s1 : s ≤ 10) (o0 : -32768 ≤ o) (o1 : o ≤ 32767) (v0 : -2147483648 ≤ v) (v1 : v ≤ 2147483647) (z0 : 0 ≤ z) (z1 : z ≤ 255) (hA : 0 ≤ v) (hx : 24 = x) (x0 : 0 ≤ x) (x1 : x ≤ 65535) : Calls Try.prog 27 #[.int .i64 21, .int .i64 op, .int .i64 d, .int .i64 s, .int .i64 o, .int .i64 v, .int .i64 z, .string r] w (MadeEnd w x d 1 0 v ⟨#[]⟩ true) := by
  go_enter Try.func27, Try.ntmps27
  go_wp2_with (first | (go_at_call 79; ((with_reducible refine (is32_c _ _ (by omega) (by omega)).mono ?_); rintro e w' ⟨rfl, rfl⟩)))
  refine (LoadMapPtr_c d v _ (by omega) (by omega) hA (by omega)).mono ?_
  rw [hx]
  rintro e w1 ⟨⟨p1, rfl, hm1⟩, hb1⟩
  obtain ⟨hI, hR, hB1, hz1⟩ := made_boxes hb1
  obtain ⟨i0, i1, i2, i3, i4, i5, fI⟩ := cells6 hI
  have HI := Lib.hid hI
  have HR := Lib.hid hR
  have HM := Lib.hid hm1
  have HB := Lib.hid hB1
  clear hI hR hm1 hb1 hB1
  go_wp2_with fail
  refine (told_c x d 1 0 v p1 _ _ (HM.out.six HI.out) (by simp) ⟨⟨x0, by omega⟩, by omega, by omega, by omega, by omega⟩).mono ?_
  rintro e w2 ⟨rfl, hb2⟩
  have hR2 := (hb2.block w.heap.size (by simp only [six_size]; omega)).trans ((six_blk_other _ _ _ _ _ _ _ _ _ (by omega)).trans HR.out)
  obtain ⟨r0, r1, r2, r3, r4, r5, r6⟩ := cells7 hR2
  have rf : ∀ j, w2.frozen? ⟨w.heap.size, j, none⟩ = false := fun j => frozen_of_row _ _ _ _ _ hR2
  have HR2 := Lib.hid hR2
  have HB2 := Lib.hid (six_then HB.out (w.heap.size + 1) (by omega) (by omega) _ _ _ _ _ _ hb2)
  clear hb2 hR2 i0 i1 i2 i3 i4 i5 fI
  go_wp2
  exact bodyPost_ret (results_made Try.results27 _ _ w.heap.size 23 _ (0, 0) _ _ rfl rfl (seven_blk _ _ _ _ _ _ _ _ _ _ _ _ _ _ _ _ _ HR2.out) Try.underlying23 (by kernel_rfl) rfl) rfl ⟨rfl, seven_below HB2.out _ _ _ _ _ _ _⟩
set_option maxHeartbeats 1000000 in
theorem implMade22 (op d s o v z x : Int) (r : ByteArray) (w : World) (op0 : 0 ≤ op) (op1 : op ≤ 65535) (d0 : 0 ≤ d) (d1 : d ≤ 10) (s0 : 0 ≤ s) (s1 : s ≤ 10) (o0 : -32768 ≤ o) (o1 : o ≤ 32767) (v0 : -2147483648 ≤ v) (v1 : v ≤ 2147483647) (z0 : 0 ≤ z) (z1 : z ≤ 255) (hA : 0 ≤ v) (hB : 0 ≤ o) (hx : 24 = x) (x0 : 0 ≤ x) (x1 : x ≤ 65535) : Calls Try.prog 27 #[.int .i64 22, .int .i64 op, .int .i64 d, .int .i64 s, .int .i64 o, .int .i64 v, .int .i64 z, .string r] w (MadeEnd w x d 2 0 (pMapValue o v) ⟨#[]⟩ true) := by
  go_enter Try.func27, Try.ntmps27
  go_wp2_with (first | (go_at_call 79; ((with_reducible refine (is32_c _ _ (by omega) (by omega)).mono ?_); rintro e w' ⟨rfl, rfl⟩)))
  refine (LoadMapValue_c d o v _ (by omega) (by omega) (by omega) (by omega) hB (by omega) (by omega)).mono ?_
  rw [hx]
  rintro e w1 ⟨⟨p1, rfl, hm1⟩, hb1⟩
  obtain ⟨hI, hR, hB1, hz1⟩ := made_boxes hb1
  obtain ⟨i0, i1, i2, i3, i4, i5, fI⟩ := cells6 hI
  have HI := Lib.hid hI
  have HR := Lib.hid hR
  have HM := Lib.hid hm1
  have HB := Lib.hid hB1
  clear hI hR hm1 hb1 hB1
  go_wp2_with fail
  refine (told_c x d 2 0 (pMapValue o v) p1 _ _ (HM.out.six HI.out) (by simp) ⟨⟨x0, by omega⟩, by omega, by omega, by omega, by omega⟩).mono ?_
  rintro e w2 ⟨rfl, hb2⟩
  have hR2 := (hb2.block w.heap.size (by simp only [six_size]; omega)).trans ((six_blk_other _ _ _ _ _ _ _ _ _ (by omega)).trans HR.out)
  obtain ⟨r0, r1, r2, r3, r4, r5, r6⟩ := cells7 hR2
  have rf : ∀ j, w2.frozen? ⟨w.heap.size, j, none⟩ = false := fun j => frozen_of_row _ _ _ _ _ hR2
  have HR2 := Lib.hid hR2
  have HB2 := Lib.hid (six_then HB.out (w.heap.size + 1) (by omega) (by omega) _ _ _ _ _ _ hb2)
  clear hb2 hR2 i0 i1 i2 i3 i4 i5 fI
  go_wp2
  exact bodyPost_ret (results_made Try.results27 _ _ w.heap.size 23 _ (0, 0) _ _ rfl rfl (seven_blk _ _ _ _ _ _ _ _ _ _ _ _ _ _ _ _ _ HR2.out) Try.underlying23 (by kernel_rfl) rfl) rfl ⟨rfl, seven_below HB2.out _ _ _ _ _ _ _⟩
set_option maxHeartbeats 1000000 in
theorem implMade24 (op d s o v z x : Int) (r : ByteArray) (w : World) (op0 : 0 ≤ op) (op1 : op ≤ 65535) (d0 : 0 ≤ d) (d1 : d ≤ 10) (s0 : 0 ≤ s) (s1 : s ≤ 10) (o0 : -32768 ≤ o) (o1 : o ≤ 32767) (v0 : -2147483648 ≤ v) (v1 : v ≤ 2147483647) (z0 : 0 ≤ z) (z1 : z ≤ 255)  (hB : (z == 24) = false) (hx : pSetSize (pSetMode 1 128) z = x) (x0 : 0 ≤ x) (x1 : x ≤ 65535) : Calls Try.prog 27 #[.int .i64 24, .int .i64 op, .int .i64 d, .int .i64 s, .int .i64 o, .int .i64 v, .int .i64 z, .string r] w (MadeEnd w x d s o 0 ⟨#[]⟩ true) := by
  go_enter Try.func27, Try.ntmps27
  go_wp2_with (first | (go_at_call 79; ((with_reducible refine (is32_c _ _ (by omega) (by omega)).mono ?_); rintro e w' ⟨rfl, rfl⟩)))
  refine (LoadMemSX_c d s o z _ (by omega) (by omega) (by omega) (by omega) (by omega) (by omega) (by omega) (by omega) hB).mono ?_
  rw [hx]
  rintro e w1 ⟨⟨p1, rfl, hm1⟩, hb1⟩
  obtain ⟨hI, hR, hB1, hz1⟩ := made_boxes hb1
  obtain ⟨i0, i1, i2, i3, i4, i5, fI⟩ := cells6 hI
  have HI := Lib.hid hI
  have HR := Lib.hid hR
  have HM := Lib.hid hm1
  have HB := Lib.hid hB1
  clear hI hR hm1 hb1 hB1
  go_wp2_with fail
  refine (told_c x d s o 0 p1 _ _ (HM.out.six HI.out) (by simp) ⟨⟨x0, by omega⟩, by omega, by omega, by omega, by omega⟩).mono ?_
  rintro e w2 ⟨rfl, hb2⟩
  have hR2 := (hb2.block w.heap.size (by simp only [six_size]; omega)).trans ((six_blk_other _ _ _ _ _ _ _ _ _ (by omega)).trans HR.out)
  obtain ⟨r0, r1, r2, r3, r4, r5, r6⟩ := cells7 hR2
  have rf : ∀ j, w2.frozen? ⟨w.heap.size, j, none⟩ = false := fun j => frozen_of_row _ _ _ _ _ hR2
  have HR2 := Lib.hid hR2
  have HB2 := Lib.hid (six_then HB.out (w.heap.size + 1) (by omega) (by omega) _ _ _ _ _ _ hb2)
  clear hb2 hR2 i0 i1 i2 i3 i4 i5 fI
  go_wp2
  exact bodyPost_ret (results_made Try.results27 _ _ w.heap.size 23 _ (0, 0) _ _ rfl rfl (seven_blk _ _ _ _ _ _ _ _ _ _ _ _ _ _ _ _ _ HR2.out) Try.underlying23 (by kernel_rfl) rfl) rfl ⟨rfl, seven_below HB2.out _ _ _ _ _ _ _⟩
set_option maxHeartbeats 1000000 in
theorem implMade25 (op d s o v z x : Int) (r : ByteArray) (w : World) (op0 : 0 ≤ op) (op1 : op ≤ 65535) (d0 : 0 ≤ d) (d1 : d ≤ 10) (s0 : 0 ≤ s) (s1 : s ≤ 10) (o0 : -32768 ≤ o) (o1 : o ≤ 32767) (v0 : -2147483648 ≤ v) (v1 : v ≤ 2147483647) (z0 : 0 ≤ z) (z1 : z ≤ 255)  (hx : pSetSource (pSetJumpOp 6 0) 0 = x) (x0 : 0 ≤ x) (x1 : x ≤ 65535) : Calls Try.prog 27 #[.int .i64 25, .int .i64 op, .int .i64 d, .int .i64 s, .int .i64 o, .int .i64 v, .int .i64 z, .string r] w (MadeEnd w x 0 0 0 (-1) r true) := by
  go_enter Try.func27, Try.ntmps27
  go_wp2_with (first | (go_at_call 79; ((with_reducible refine (is32_c _ _ (by omega) (by omega)).mono ?_); rintro e w' ⟨rfl, rfl⟩)))
  refine (LongJump_c r _).mono ?_
  rw [hx]
  rintro e w1 ⟨⟨p1, rfl, hm1⟩, hb1⟩
  obtain ⟨hI, hR, hB1, hz1⟩ := made_boxes hb1
  obtain ⟨i0, i1, i2, i3, i4, i5, fI⟩ := cells6 hI
  have HI := Lib.hid hI
  have HR := Lib.hid hR
  have HM := Lib.hid hm1
  have HB := Lib.hid hB1
  clear hI hR hm1 hb1 hB1
  go_wp2_with fail
  refine (told_c x 0 0 0 (-1) p1 _ _ (HM.out.six HI.out) (by simp) ⟨⟨x0, by omega⟩, by omega, by omega, by omega, by omega⟩).mono ?_
  rintro e w2 ⟨rfl, hb2⟩
  have hR2 := (hb2.block w.heap.size (by simp only [six_size]; omega)).trans ((six_blk_other _ _ _ _ _ _ _ _ _ (by omega)).trans HR.out)
  obtain ⟨r0, r1, r2, r3, r4, r5, r6⟩ := cells7 hR2
  have rf : ∀ j, w2.frozen? ⟨w.heap.size, j, none⟩ = false := fun j => frozen_of_row _ _ _ _ _ hR2
  have HR2 := Lib.hid hR2
  have HB2 := Lib.hid (six_then HB.out (w.heap.size + 1) (by omega) (by omega) _ _ _ _ _ _ hb2)
  clear hb2 hR2 i0 i1 i2 i3 i4 i5 fI
  go_wp2
  exact bodyPost_ret (results_made Try.results27 _ _ w.heap.size 23 _ (0, 0) _ _ rfl rfl (seven_blk _ _ _ _ _ _ _ _ _ _ _ _ _ _ _ _ _ HR2.out) Try.underlying23 (by kernel_rfl) rfl) rfl ⟨rfl, seven_below HB2.out _ _ _ _ _ _ _⟩
end Go.Proofs.Ytakigeichhngbaa
