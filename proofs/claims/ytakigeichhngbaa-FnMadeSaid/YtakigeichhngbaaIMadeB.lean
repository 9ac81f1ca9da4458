import Derived.Test.YtakigeichhngbaaIMade0
namespace Go.Proofs.Ytakigeichhngbaa
open Go.RowKit
set_option linter.unusedVariables false
set_option linter.unusedSimpArgs false
set_option maxRecDepth 100000

set_option maxHeartbeats 1000000 in
theorem implMade8 (op d s o v z x : Int) (r : ByteArray) (w : World) (op0 : 0 ≤ op) (op1 : op ≤ 65535) (d0 : 0 ≤ d) (d1 : d ≤ 10) (s0 : 0 ≤ s) (s1 : s ≤ 10) (o0 : -32768 ≤ o) (o1 : o ≤ 32767) (v0 : -2147483648 ≤ v) (v1 : v ≤ 2147483647) (z0 : 0 ≤ z) (z1 : z ≤ 255)  (hB : (z == 24) = false) (hx : pSetSize (pSetMode 2 96) z = x) (x0 : 0 ≤ x) (x1 : x ≤ 65535) : Calls Try.prog 27 #[.int .i64 8, .int .i64 op, .int .i64 d, .int .i64 s, .int .i64 o, .int .i64 v, .int .i64 z, .string r] w (MadeEnd w x d 0 o v ⟨#[]⟩ true) := by
  go_enter Try.func27, Try.ntmps27
  go_wp2_with (first | (go_at_call 79; ((with_reducible refine (is32_c _ _ (by omega) (by omega)).mono ?_); rintro e w' ⟨rfl, rfl⟩)))
  refine (StoreImm_c d o v z _ (by omega) (by omega) (by omega) (by omega) (by omega) (by omega) hB).mono ?_
  rw [hx]
  rintro e w1 ⟨⟨p1, rfl, hm1⟩, hb1⟩
  obtain ⟨hI, hR, hB1, hz1⟩ := made_boxes hb1
  obtain ⟨i0, i1, i2, i3, i4, i5, fI⟩ := cells6 hI
  have HI := Lib.hid hI
  have HR := Lib.hid hR
  have HM := Lib.hid hm1
  have HB := Lib.hid hB1
  clear hI hR hm1 hb1 hB1
  go_wp2_with fail
  refine (told_c x d 0 o v p1 _ _ (HM.out.six HI.out) (by simp) ⟨⟨x0, by omega⟩, by omega, by omega, by omega, by omega⟩).mono ?_
  rintro e w2 ⟨rfl, hb2⟩
  have hR2 := (hb2.block w.heap.size (by simp only [six_size]; omega)).trans ((six_blk_other _ _ _ _ _ _ _ _ _ (by omega)).trans HR.out)
  obtain ⟨r0, r1, r2, r3, r4, r5, r6⟩ := cells7 hR2
  have rf : ∀ j, w2.frozen? ⟨w.heap.size, j, none⟩ = false := fun j => frozen_of_row _ _ _ _ _ hR2
  have HR2 := Lib.hid hR2
  have HB2 := Lib.hid (six_then HB.out (w.heap.size + 1) (by omega) (by omega) _ _ _ _ _ _ hb2)
  clear hb2 hR2 i0 i1 i2 i3 i4 i5 fI
  go_wp2
  exact bodyPost_ret (results_made Try.results27 _ _ w.heap.size 23 _ (0, 0) _ _ rfl rfl (seven_blk _ _ _ _ _ _ _ _ _ _ _ _ _ _ _ _ _ HR2.out) Try.underlying23 (by kernel_rfl) rfl) rfl ⟨rfl, seven_below HB2.out _ _ _ _ _ _ _⟩
set_option maxHeartbeats 1000000 in
theorem implMade9 (op d s o v z x : Int) (r : ByteArray) (w : World) (op0 : 0 ≤ op) (op1 : op ≤ 65535) (d0 : 0 ≤ d) (d1 : d ≤ 10) (s0 : 0 ≤ s) (s1 : s ≤ 10) (o0 : -32768 ≤ o) (o1 : o ≤ 32767) (v0 : -2147483648 ≤ v) (v1 : v ≤ 2147483647) (z0 : 0 ≤ z) (z1 : z ≤ 255)  (hx : pSetSize (pSetMode 0 0) z = x) (x0 : 0 ≤ x) (x1 : x ≤ 65535) : Calls Try.prog 27 #[.int .i64 9, .int .i64 op, .int .i64 d, .int .i64 s, .int .i64 o, .int .i64 v, .int .i64 z, .string r] w (MadeEnd w x d 0 0 v ⟨#[]⟩ true) := by
  go_enter Try.func27, Try.ntmps27
  go_wp2_with (first | (go_at_call 79; ((with_reducible refine (is32_c _ _ (by omega) (by omega)).mono ?_); rintro e w' ⟨rfl, rfl⟩)))
  refine (LoadImm_c d v z _ (by omega) (by omega) (by omega) (by omega)).mono ?_
  rw [hx]
  rintro e w1 ⟨⟨p1, rfl, hm1⟩, hb1⟩
  obtain ⟨hI, hR, hB1, hz1⟩ := made_boxes hb1
  obtain ⟨i0, i1, i2, i3, i4, i5, fI⟩ := cells6 hI
  have HI := Lib.hid hI
  have HR := Lib.hid hR
  have HM := Lib.hid hm1
  have HB := Lib.hid hB1
  clear hI hR hm1 hb1 hB1
  go_wp2_with fail
  refine (told_c x d 0 0 v p1 _ _ (HM.out.six HI.out) (by simp) ⟨⟨x0, by omega⟩, by omega, by omega, by omega, by omega⟩).mono ?_
  rintro e w2 ⟨rfl, hb2⟩
  have hR2 := (hb2.block w.heap.size (by simp only [six_size]; omega)).trans ((six_blk_other _ _ _ _ _ _ _ _ _ (by omega)).trans HR.out)
  obtain ⟨r0, r1, r2, r3, r4, r5, r6⟩ := cells7 hR2
  have rf : ∀ j, w2.frozen? ⟨w.heap.size, j, none⟩ = false := fun j => frozen_of_row _ _ _ _ _ hR2
  have HR2 := Lib.hid hR2
  have HB2 := Lib.hid (six_then HB.out (w.heap.size + 1) (by omega) (by omega) _ _ _ _ _ _ hb2)
  clear hb2 hR2 i0 i1 i2 i3 i4 i5 fI
  go_wp2
  exact bodyPost_ret (results_made Try.results27 _ _ w.heap.size 23 _ (0, 0) _ _ rfl rfl (seven_blk _ _ _ _ _ _ _ _ _ _ _ _ _ _ _ _ _ HR2.out) Try.underlying23 (by kernel_rfl) rfl) rfl ⟨rfl, seven_below HB2.out _ _ _ _ _ _ _⟩
set_option maxHeartbeats 1000000 in
theorem implMade10 (op d s o v z x : Int) (r : ByteArray) (w : World) (op0 : 0 ≤ op) (op1 : op ≤ 65535) (d0 : 0 ≤ d) (d1 : d ≤ 10) (s0 : 0 ≤ s) (s1 : s ≤ 10) (o0 : -32768 ≤ o) (o1 : o ≤ 32767) (v0 : -2147483648 ≤ v) (v1 : v ≤ 2147483647) (z0 : 0 ≤ z) (z1 : z ≤ 255)  (hx : pSetSize (pSetMode 0 32) z = x) (x0 : 0 ≤ x) (x1 : x ≤ 65535) : Calls Try.prog 27 #[.int .i64 10, .int .i64 op, .int .i64 d, .int .i64 s, .int .i64 o, .int .i64 v, .int .i64 z, .string r] w (MadeEnd w x 0 0 0 v ⟨#[]⟩ true) := by
  go_enter Try.func27, Try.ntmps27
  go_wp2_with (first | (go_at_call 79; ((with_reducible refine (is32_c _ _ (by omega) (by omega)).mono ?_); rintro e w' ⟨rfl, rfl⟩)))
  refine (LoadAbs_c v z _ (by omega) (by omega) (by omega) (by omega)).mono ?_
  rw [hx]
  rintro e w1 ⟨⟨p1, rfl, hm1⟩, hb1⟩
  obtain ⟨hI, hR, hB1, hz1⟩ := made_boxes hb1
  obtain ⟨i0, i1, i2, i3, i4, i5, fI⟩ := cells6 hI
  have HI := Lib.hid hI
  have HR := Lib.hid hR
  have HM := Lib.hid hm1
  have HB := Lib.hid hB1
  clear hI hR hm1 hb1 hB1
  go_wp2_with fail
  refine (told_c x 0 0 0 v p1 _ _ (HM.out.six HI.out) (by simp) ⟨⟨x0, by omega⟩, by omega, by omega, by omega, by omega⟩).mono ?_
  rintro e w2 ⟨rfl, hb2⟩
  have hR2 := (hb2.block w.heap.size (by simp only [six_size]; omega)).trans ((six_blk_other _ _ _ _ _ _ _ _ _ (by omega)).trans HR.out)
  obtain ⟨r0, r1, r2, r3, r4, r5, r6⟩ := cells7 hR2
  have rf : ∀ j, w2.frozen? ⟨w.heap.size, j, none⟩ = false := fun j => frozen_of_row _ _ _ _ _ hR2
  have HR2 := Lib.hid hR2
  have HB2 := Lib.hid (six_then HB.out (w.heap.size + 1) (by omega) (by omega) _ _ _ _ _ _ hb2)
  clear hb2 hR2 i0 i1 i2 i3 i4 i5 fI
  go_wp2
  exact bodyPost_ret (results_made Try.results27 _ _ w.heap.size 23 _ (0, 0) _ _ rfl rfl (seven_blk _ _ _ _ _ _ _ _ _ _ _ _ _ _ _ _ _ HR2.out) Try.underlying23 (by kernel_rfl) rfl) rfl ⟨rfl, seven_below HB2.out _ _ _ _ _ _ _⟩
set_option maxHeartbeats 1000000 in
theorem implMade11 (op d s o v z x : Int) (r : ByteArray) (w : World) (op0 : 0 ≤ op) (op1 : op ≤ 65535) (d0 : 0 ≤ d) (d1 : d ≤ 10) (s0 : 0 ≤ s) (s1 : s ≤ 10) (o0 : -32768 ≤ o) (o1 : o ≤ 32767) (v0 : -2147483648 ≤ v) (v1 : v ≤ 2147483647) (z0 : 0 ≤ z) (z1 : z ≤ 255)  (hx : pSetSize (pSetMode 0 64) z = x) (x0 : 0 ≤ x) (x1 : x ≤ 65535) : Calls Try.prog 27 #[.int .i64 11, .int .i64 op, .int .i64 d, .int .i64 s, .int .i64 o, .int .i64 v, .int .i64 z, .string r] w (MadeEnd w x d s 0 v ⟨#[]⟩ true) := by
  go_enter Try.func27, Try.ntmps27
  go_wp2_with (first | (go_at_call 79; ((with_reducible refine (is32_c _ _ (by omega) (by omega)).mono ?_); rintro e w' ⟨rfl, rfl⟩)))
  refine (LoadInd_c d s v z _ (by omega) (by omega) (by omega) (by omega) (by omega) (by omega) (by omega) (by omega)).mono ?_
  rw [hx]
  rintro e w1 ⟨⟨p1, rfl, hm1⟩, hb1⟩
  obtain ⟨hI, hR, hB1, hz1⟩ := made_boxes hb1
  obtain ⟨i0, i1, i2, i3, i4, i5, fI⟩ := cells6 hI
  have HI := Lib.hid hI
  have HR := Lib.hid hR
  have HM := Lib.hid hm1
  have HB := Lib.hid hB1
  clear hI hR hm1 hb1 hB1
  go_wp2_with fail
  refine (told_c x d s 0 v p1 _ _ (HM.out.six HI.out) (by simp) ⟨⟨x0, by omega⟩, by omega, by omega, by omega, by omega⟩).mono ?_
  rintro e w2 ⟨rfl, hb2⟩
  have hR2 := (hb2.block w.heap.size (by simp only [six_size]; omega)).trans ((six_blk_other _ _ _ _ _ _ _ _ _ (by omega)).trans HR.out)
  obtain ⟨r0, r1, r2, r3, r4, r5, r6⟩ := cells7 hR2
  have rf : ∀ j, w2.frozen? ⟨w.heap.size, j, none⟩ = false := fun j => frozen_of_row _ _ _ _ _ hR2
  have HR2 := Lib.hid hR2
  have HB2 := Lib.hid (six_then HB.out (w.heap.size + 1) (by omega) (by omega) _ _ _ _ _ _ hb2)
  clear hb2 hR2 i0 i1 i2 i3 i4 i5 fI
  go_wp2
  exact bodyPost_ret (results_made Try.results27 _ _ w.heap.size 23 _ (0, 0) _ _ rfl rfl (seven_blk _ _ _ _ _ _ _ _ _ _ _ _ _ _ _ _ _ HR2.out) Try.underlying23 (by kernel_rfl) rfl) rfl ⟨rfl, seven_below HB2.out _ _ _ _ _ _ _⟩
set_option maxHeartbeats 1000000 in
theorem implMade13 (op d s o v z x : Int) (r : ByteArray) (w : World) (op0 : 0 ≤ op) (op1 : op ≤ 65535) (d0 : 0 ≤ d) (d1 : d ≤ 10) (s0 : 0 ≤ s) (s1 : s ≤ 10) (o0 : -32768 ≤ o) (o1 : o ≤ 32767) (v0 : -2147483648 ≤ v) (v1 : v ≤ 2147483647) (z0 : 0 ≤ z) (z1 : z ≤ 255) (hJ : op ≤ 255) (n1 : (op == 144) = false) (n2 : (op == 128) = false) (hx : pSetSource (pSetJumpOp 5 op) 0 = x) (x0 : 0 ≤ x) (x1 : x ≤ 65535) : Calls Try.prog 27 #[.int .i64 13, .int .i64 op, .int .i64 d, .int .i64 s, .int .i64 o, .int .i64 v, .int .i64 z, .string r] w (MadeEnd w x d 0 (-1) v r true) := by
  go_enter Try.func27, Try.ntmps27
  go_wp2_with (first | (go_at_call 79; ((with_reducible refine (is32_c _ _ (by omega) (by omega)).mono ?_); rintro e w' ⟨rfl, rfl⟩)))
  refine (JImm_c op d v r _ (by omega) (by omega) (by omega) (by omega) (by omega) (by omega) n1 n2).mono ?_
  rw [hx]
  rintro e w1 ⟨⟨p1, rfl, hm1⟩, hb1⟩
  obtain ⟨hI, hR, hB1, hz1⟩ := made_boxes hb1
  obtain ⟨i0, i1, i2, i3, i4, i5, fI⟩ := cells6 hI
  have HI := Lib.hid hI
  have HR := Lib.hid hR
  have HM := Lib.hid hm1
  have HB := Lib.hid hB1
  clear hI hR hm1 hb1 hB1
  go_wp2_with fail
  refine (told_c x d 0 (-1) v p1 _ _ (HM.out.six HI.out) (by simp) ⟨⟨x0, by omega⟩, by omega, by omega, by omega, by omega⟩).mono ?_
  rintro e w2 ⟨rfl, hb2⟩
  have hR2 := (hb2.block w.heap.size (by simp only [six_size]; omega)).trans ((six_blk_other _ _ _ _ _ _ _ _ _ (by omega)).trans HR.out)
  obtain ⟨r0, r1, r2, r3, r4, r5, r6⟩ := cells7 hR2
  have rf : ∀ j, w2.frozen? ⟨w.heap.size, j, none⟩ = false := fun j => frozen_of_row _ _ _ _ _ hR2
  have HR2 := Lib.hid hR2
  have HB2 := Lib.hid (six_then HB.out (w.heap.size + 1) (by omega) (by omega) _ _ _ _ _ _ hb2)
  clear hb2 hR2 i0 i1 i2 i3 i4 i5 fI
  go_wp2
  exact bodyPost_ret (results_made Try.results27 _ _ w.heap.size 23 _ (0, 0) _ _ rfl rfl (seven_blk _ _ _ _ _ _ _ _ _ _ _ _ _ _ _ _ _ HR2.out) Try.underlying23 (by kernel_rfl) rfl) rfl ⟨rfl, seven_below HB2.out _ _ _ _ _ _ _⟩
set_option maxHeartbeats 1000000 in
theorem implMade14 (op d s o v z x : Int) (r : ByteArray) (w : World) (op0 : 0 ≤ op) (op1 : op ≤ 65535) (d0 : 0 ≤ d) (d1 : d ≤ 10) (s0 : 0 ≤ s) (s1 : s ≤ 10) (o0 : -32768 ≤ o) (o1 : o ≤ 32767) (v0 : -2147483648 ≤ v) (v1 : v ≤ 2147483647) (z0 : 0 ≤ z) (z1 : z ≤ 255) (hJ : op ≤ 255) (n1 : (op == 144) = false) (n2 : (op == 128) = false) (hx : pSetSource (pSetJumpOp 5 op) 8 = x) (x0 : 0 ≤ x) (x1 : x ≤ 65535) : Calls Try.prog 27 #[.int .i64 14, .int .i64 op, .int .i64 d, .int .i64 s, .int .i64 o, .int .i64 v, .int .i64 z, .string r] w (MadeEnd w x d s (-1) 0 r true) := by
  go_enter Try.func27, Try.ntmps27
  go_wp2_with (first | (go_at_call 79; ((with_reducible refine (is32_c _ _ (by omega) (by omega)).mono ?_); rintro e w' ⟨rfl, rfl⟩)))
  refine (JReg_c op d s r _ (by omega) (by omega) (by omega) (by omega) (by omega) (by omega) n1 n2).mono ?_
  rw [hx]
  rintro e w1 ⟨⟨p1, rfl, hm1⟩, hb1⟩
  obtain ⟨hI, hR, hB1, hz1⟩ := made_boxes hb1
  obtain ⟨i0, i1, i2, i3, i4, i5, fI⟩ := cells6 hI
  have HI := Lib.hid hI
  have HR := Lib.hid hR
  have HM := Lib.hid hm1
  have HB := Lib.hid hB1
  clear hI hR hm1 hb1 hB1
  go_wp2_with fail
  refine (told_c x d s (-1) 0 p1 _ _ (HM.out.six HI.out) (by simp) ⟨⟨x0, by omega⟩, by omega, by omega, by omega, by omega⟩).mono ?_
  rintro e w2 ⟨rfl, hb2⟩
  have hR2 := (hb2.block w.heap.size (by simp only [six_size]; omega)).trans ((six_blk_other _ _ _ _ _ _ _ _ _ (by omega)).trans HR.out)
  obtain ⟨r0, r1, r2, r3, r4, r5, r6⟩ := cells7 hR2
  have rf : ∀ j, w2.frozen? ⟨w.heap.size, j, none⟩ = false := fun j => frozen_of_row _ _ _ _ _ hR2
  have HR2 := Lib.hid hR2
  have HB2 := Lib.hid (six_then HB.out (w.heap.size + 1) (by omega) (by omega) _ _ _ _ _ _ hb2)
  clear hb2 hR2 i0 i1 i2 i3 i4 i5 fI
  go_wp2
  exact bodyPost_ret (results_made Try.results27 _ _ w.heap.size 23 _ (0, 0) _ _ rfl rfl (seven_blk _ _ _ _ _ _ _ _ _ _ _ _ _ _ _ _ _ HR2.out) Try.underlying23 (by kernel_rfl) rfl) rfl ⟨rfl, seven_below HB2.out _ _ _ _ _ _ _⟩
set_option maxHeartbeats 1000000 in
theorem implMade15 (op d s o v z x : Int) (r : ByteArray) (w : World) (op0 : 0 ≤ op) (op1 : op ≤ 65535) (d0 : 0 ≤ d) (d1 : d ≤ 10) (s0 : 0 ≤ s) (s1 : s ≤ 10) (o0 : -32768 ≤ o) (o1 : o ≤ 32767) (v0 : -2147483648 ≤ v) (v1 : v ≤ 2147483647) (z0 : 0 ≤ z) (z1 : z ≤ 255) (hJ : op ≤ 255) (n1 : (op == 144) = false) (n2 : (op == 128) = false) (hx : pSetSource (pSetJumpOp 6 op) 0 = x) (x0 : 0 ≤ x) (x1 : x ≤ 65535) : Calls Try.prog 27 #[.int .i64 15, .int .i64 op, .int .i64 d, .int .i64 s, .int .i64 o, .int .i64 v, .int .i64 z, .string r] w (MadeEnd w x d 0 (-1) v r true) := by
  go_enter Try.func27, Try.ntmps27
  go_wp2_with (first | (go_at_call 79; ((with_reducible refine (is32_c _ _ (by omega) (by omega)).mono ?_); rintro e w' ⟨rfl, rfl⟩)))
  refine (JImm32_c op d v r _ (by omega) (by omega) (by omega) (by omega) (by omega) (by omega) n1 n2).mono ?_
  rw [hx]
  rintro e w1 ⟨⟨p1, rfl, hm1⟩, hb1⟩
  obtain ⟨hI, hR, hB1, hz1⟩ := made_boxes hb1
  obtain ⟨i0, i1, i2, i3, i4, i5, fI⟩ := cells6 hI
  have HI := Lib.hid hI
  have HR := Lib.hid hR
  have HM := Lib.hid hm1
  have HB := Lib.hid hB1
  clear hI hR hm1 hb1 hB1
  go_wp2_with fail
  refine (told_c x d 0 (-1) v p1 _ _ (HM.out.six HI.out) (by simp) ⟨⟨x0, by omega⟩, by omega, by omega, by omega, by omega⟩).mono ?_
  rintro e w2 ⟨rfl, hb2⟩
  have hR2 := (hb2.block w.heap.size (by simp only [six_size]; omega)).trans ((six_blk_other _ _ _ _ _ _ _ _ _ (by omega)).trans HR.out)
  obtain ⟨r0, r1, r2, r3, r4, r5, r6⟩ := cells7 hR2
  have rf : ∀ j, w2.frozen? ⟨w.heap.size, j, none⟩ = false := fun j => frozen_of_row _ _ _ _ _ hR2
  have HR2 := Lib.hid hR2
  have HB2 := Lib.hid (six_then HB.out (w.heap.size + 1) (by omega) (by omega) _ _ _ _ _ _ hb2)
  clear hb2 hR2 i0 i1 i2 i3 i4 i5 fI
  go_wp2
  exact bodyPost_ret (results_made Try.results27 _ _ w.heap.size 23 _ (0, 0) _ _ rfl rfl (seven_blk _ _ _ _ _ _ _ _ _ _ _ _ _ _ _ _ _ HR2.out) Try.underlying23 (by kernel_rfl) rfl) rfl ⟨rfl, seven_below HB2.out _ _ _ _ _ _ _⟩
set_option maxHeartbeats 1000000 in
theorem implMade16 (op d s o v z x : Int) (r : ByteArray) (w : World) (op0 : 0 ≤ op) (op1 : op ≤ 65535) (d0 : 0 ≤ d) (d1 : d ≤ 10) (s0 : 0 ≤ s) (s1 : s ≤ 10) (o0 : -32768 ≤ o) (o1 : o ≤ 32767) (v0 : -2147483648 ≤ v) (v1 : v ≤ 2147483647) (z0 : 0 ≤ z) (z1 : z ≤ 255) (hJ : op ≤ 255) (n1 : (op == 144) = false) (n2 : (op == 128) = false) (hx : pSetSource (pSetJumpOp 6 op) 8 = x) (x0 : 0 ≤ x) (x1 : x ≤ 65535) : Calls Try.prog 27 #[.int .i64 16, .int .i64 op, .int .i64 d, .int .i64 s, .int .i64 o, .int .i64 v, .int .i64 z, .string r] w (MadeEnd w x d s (-1) 0 r true) := by
  go_enter Try.func27, Try.ntmps27
  go_wp2_with (first | (go_at_call 79; ((with_reducible refine (is32_c _ _ (by omega) (by omega)).mono ?_); rintro e w' ⟨rfl, rfl⟩)))
  refine (JReg32_c op d s r _ (by omega) (by omega) (by omega) (by omega) (by omega) (by omega) n1 n2).mono ?_
  rw [hx]
  rintro e w1 ⟨⟨p1, rfl, hm1⟩, hb1⟩
  obtain ⟨hI, hR, hB1, hz1⟩ := made_boxes hb1
  obtain ⟨i0, i1, i2, i3, i4, i5, fI⟩ := cells6 hI
  have HI := Lib.hid hI
  have HR := Lib.hid hR
  have HM := Lib.hid hm1
  have HB := Lib.hid hB1
  clear hI hR hm1 hb1 hB1
  go_wp2_with fail
  refine (told_c x d s (-1) 0 p1 _ _ (HM.out.six HI.out) (by simp) ⟨⟨x0, by omega⟩, by omega, by omega, by omega, by omega⟩).mono ?_
  rintro e w2 ⟨rfl, hb2⟩
  have hR2 := (hb2.block w.heap.size (by simp only [six_size]; omega)).trans ((six_blk_other _ _ _ _ _ _ _ _ _ (by omega)).trans HR.out)
  obtain ⟨r0, r1, r2, r3, r4, r5, r6⟩ := cells7 hR2
  have rf : ∀ j, w2.frozen? ⟨w.heap.size, j, none⟩ = false := fun j => frozen_of_row _ _ _ _ _ hR2
  have HR2 := Lib.hid hR2
  have HB2 := Lib.hid (six_then HB.out (w.heap.size + 1) (by omega) (by omega) _ _ _ _ _ _ hb2)
  clear hb2 hR2 i0 i1 i2 i3 i4 i5 fI
  go_wp2
  exact bodyPost_ret (results_made Try.results27 _ _ w.heap.size 23 _ (0, 0) _ _ rfl rfl (seven_blk _ _ _ _ _ _ _ _ _ _ _ _ _ _ _ _ _ HR2.out) Try.underlying23 (by kernel_rfl) rfl) rfl ⟨rfl, seven_below HB2.out _ _ _ _ _ _ _⟩
end Go.Proofs.Ytakigeichhngbaa
