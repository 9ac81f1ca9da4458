import Derived.Test.YtakigeichhngbaaDoorPutW
import Derived.Test.YtakigeichhngbaaDoorPlEnc
import Derived.Test.YtakigeichhngbaaDoorDecF
import Derived.Deep.QuietTactic
import Derived.BigQuiet
namespace Go.Proofs.YtakigeichhngbaaDoor
open Go.RowKit
set_option linter.unusedVariables false
set_option linter.unusedSimpArgs false

theorem offsetOf_c (op : Int) (w : World) : Calls Tryd.prog 70 #[.int .i64 op] w fun e w' => e = .returned (.int .i64 (offOf op)) ∧ w = w' := by
  cases h1 : (op / 256 == 1)
  · cases h2 : (op / 256 == 2)
    · cases h3 : (op / 256 == 3)
      all_goals
        go_enter Tryd.func70, Tryd.ntmps70
        go_wp2
        go_ret
        exact ⟨by simp [offOf, h1, h2, h3], rfl⟩
    · go_enter Tryd.func70, Tryd.ntmps70
      go_wp2
      go_ret
      exact ⟨by simp [offOf, h1, h2], rfl⟩
  · cases h4 : (bits .and .i64 op 240 == 176)
    all_goals
      go_enter Tryd.func70, Tryd.ntmps70
      go_wp2
      go_ret
      exact ⟨by simp [offOf, h1, h4], rfl⟩
theorem or_reg (a b : Int) (a0 : 0 ≤ a) (a1 : a ≤ 10) (b0 : 0 ≤ b) (b1 : b ≤ 10) : bits .or .i64 a (b * 16) = a + b * 16 ∧ bits .or .i64 (a * 16) b = a * 16 + b := by
  have w63 : ∀ n : Int, 0 ≤ n → n < 2 ^ 63 → IntKind.i64.wrap n = n := fun n h0 h1 => IntWalk.i64_in _ (by omega)
  have h := orAdd .i64 63 4 (by decide) w63 a.toNat b.toNat (by omega) (by omega)
  have e1 : ((a.toNat : Nat) : Int) = a := by omega
  have e2 : ((2 ^ 4 * b.toNat : Nat) : Int) = b * 16 := by omega
  rw [e1, e2] at h
  have g := (bits_nat .i64 63 (by decide) w63 (2 ^ 4 * a.toNat) b.toNat (by omega) (by omega)).2
  rw [← Nat.two_pow_add_eq_or_of_lt (by omega)] at g
  have e3 : ((b.toNat : Nat) : Int) = b := by omega
  have e4 : ((2 ^ 4 * a.toNat : Nat) : Int) = a * 16 := by omega
  rw [e3, e4] at g
  exact ⟨by rw [h]; omega, by rw [g]; omega⟩
theorem OwnB.lit {B : Nat} (w : World) (bs : List Int) (hB : B ≤ w.heap.size) (hm : bs.length ≤ 1000) : OwnB (w.alloc (.cells (u8s bs).toArray 5)) B (.slice (some ⟨w.heap.size, 0, none⟩) bs.length bs.length) bs :=
  ⟨by simp [u8s], .inr ⟨w.heap.size, bs.length, (u8s bs).toArray, rfl, hB, heap_alloc_new w _, Nat.le_refl _, by unfold maxLen; omega, by simp [u8s], by simp [u8s, List.take_of_length_le]⟩⟩
theorem OwnB.mono {w : World} {B B' : Nat} {v : Value} {bs : List Int} (h : OwnB w B v bs) (hB : B' ≤ B) : OwnB w B' v bs := by
  refine ⟨h.1, ?_⟩
  rcases h.2 with h0 | ⟨g, cap, cur, e, hg, hr⟩
  · exact .inl h0
  · exact .inr ⟨g, cap, cur, e, Nat.le_trans hB hg, hr⟩
theorem u16w (x : Int) : IntKind.u64.wrap (IntKind.u16.wrap x) = x % 65536 := by
  have h : IntKind.u16.wrap x = x % 65536 := by simp [IntKind.wrap, IntKind.bits, IntKind.signed]
  rw [h]
  exact IntWalk.u64_in _ (by omega)
theorem reg_enc1 (d s : Int) (d0 : 0 ≤ d) (d1 : d ≤ 10) (s0 : 0 ≤ s) (s1 : s ≤ 10) : 0 ≤ d + s * 16 ∧ d + s * 16 ≤ 255 ∧ 0 ≤ d * 16 + s ∧ d * 16 + s ≤ 255 := by omega
theorem enc_of_Lo {op dst src off c : Int} {sym ref : ByteArray} (h : (op == 24) = false) (a : sIsALU op = false) : enc false ⟨op, dst, src, off, c, sym, ref⟩ = [op % 256, dst + src * 16] ++ [((off) % 65536) % 256, ((off) % 65536) / 256 % 256] ++ [(c % 4294967296) % 256, (c % 4294967296) / 256 % 256, (c % 4294967296) / 65536 % 256, (c % 4294967296) / 16777216 % 256] := by
  simp only [enc, enc8, h, wOff, a, eReg, pb2, pb4, cond_true, cond_false, List.append_nil, List.cons_append, List.nil_append]
theorem enc_of_La {op dst src off c : Int} {sym ref : ByteArray} (h : (op == 24) = false) (a : sIsALU op = true) : enc false ⟨op, dst, src, off, c, sym, ref⟩ = [op % 256, dst + src * 16] ++ [((offOf op) % 65536) % 256, ((offOf op) % 65536) / 256 % 256] ++ [(c % 4294967296) % 256, (c % 4294967296) / 256 % 256, (c % 4294967296) / 65536 % 256, (c % 4294967296) / 16777216 % 256] := by
  simp only [enc, enc8, h, wOff, a, eReg, pb2, pb4, cond_true, cond_false, List.append_nil, List.cons_append, List.nil_append]
theorem enc_of_Go {op dst src off c : Int} {sym ref : ByteArray} (h : (op == 24) = false) (a : sIsALU op = false) : enc true ⟨op, dst, src, off, c, sym, ref⟩ = [op % 256, dst * 16 + src] ++ [((off) % 65536) / 256 % 256, ((off) % 65536) % 256] ++ [(c % 4294967296) / 16777216 % 256, (c % 4294967296) / 65536 % 256, (c % 4294967296) / 256 % 256, (c % 4294967296) % 256] := by
  simp only [enc, enc8, h, wOff, a, eReg, pb2, pb4, cond_true, cond_false, List.append_nil, List.cons_append, List.nil_append]
theorem enc_of_Ga {op dst src off c : Int} {sym ref : ByteArray} (h : (op == 24) = false) (a : sIsALU op = true) : enc true ⟨op, dst, src, off, c, sym, ref⟩ = [op % 256, dst * 16 + src] ++ [((offOf op) % 65536) / 256 % 256, ((offOf op) % 65536) % 256] ++ [(c % 4294967296) / 16777216 % 256, (c % 4294967296) / 65536 % 256, (c % 4294967296) / 256 % 256, (c % 4294967296) % 256] := by
  simp only [enc, enc8, h, wOff, a, eReg, pb2, pb4, cond_true, cond_false, List.append_nil, List.cons_append, List.nil_append]
set_option maxRecDepth 100000 in
set_option maxHeartbeats 1000000 in
theorem Encode_Lo (i : Ins) (w : World) (h : OkF i) (h24 : (i.op == 24) = false) (a : sIsALU i.op = false) :
    Calls Tryd.prog 47 #[insV i.op i.dst i.src i.off i.c i.sym i.ref, .bool false] w (PutEnd w w.heap.size (enc false i)) := by
  obtain ⟨op, dst, src, off, c, sym, ref⟩ := i
  obtain ⟨⟨o0, o1⟩, ⟨d0, d1⟩, ⟨s0, s1⟩, ⟨f0, f1⟩, -, -, hc, hk⟩ := h
  simp only at o0 o1 d0 d1 s0 s1 f0 f1 hc hk h24
  have e1 := (or_reg dst src d0 d1 s0 s1).1
  have eo := u16w (off)
  obtain ⟨q0, q1, q2, q3⟩ := reg_enc1 dst src d0 d1 s0 s1
  obtain ⟨wo, hwo⟩ : ∃ wo, wo = (off) % 65536 := ⟨_, rfl⟩
  rw [← hwo] at eo
  have wo0 : 0 ≤ wo := by rw [hwo]; omega
  have wo1 : wo ≤ 65535 := by rw [hwo]; omega
  have HWO := Lib.hid hwo
  have hb0 : ∀ nq : Nat, Below w.heap.size w ((w.alloc (.cells #[.int .i64 op, .int .i64 dst, .int .i64 src, .int .i64 off, .int .i64 c, .string sym, .string ref] 24)).drewN nq) := fun nq => below_drewN ((Below.refl _ _).alloc (Nat.le_refl _) _) nq
  have hv0 : ∀ nq : Nat, OwnB (((w.alloc (.cells #[.int .i64 op, .int .i64 dst, .int .i64 src, .int .i64 off, .int .i64 c, .string sym, .string ref] 24)).drewN nq).alloc (.cells #[.int .u8 (op % 256), .int .u8 (dst + src * 16)] 5)) (w.heap.size + 1) (.slice (some ⟨w.heap.size + 1, 0, none⟩) 2 2) [op % 256, dst + src * 16] := fun nq => by
    have := OwnB.lit (B := w.heap.size + 1) ((w.alloc (.cells #[.int .i64 op, .int .i64 dst, .int .i64 src, .int .i64 off, .int .i64 c, .string sym, .string ref] 24)).drewN nq) [op % 256, dst + src * 16] (by simp [World.drewN]) (by simp)
    have hs : ((w.alloc (.cells #[.int .i64 op, .int .i64 dst, .int .i64 src, .int .i64 off, .int .i64 c, .string sym, .string ref] 24)).drewN nq).heap.size = w.heap.size + 1 := by simp [World.drewN]
    rw [hs] at this
    exact this
  have hx0 : ∀ nq : Nat, (((w.alloc (.cells #[.int .i64 op, .int .i64 dst, .int .i64 src, .int .i64 off, .int .i64 c, .string sym, .string ref] 24)).drewN nq).alloc (.cells #[.int .u8 (op % 256), .int .u8 (dst + src * 16)] 5)).heap[w.heap.size]? = some (.cells #[.int .i64 op, .int .i64 dst, .int .i64 src, .int .i64 off, .int .i64 c, .string sym, .string ref] 24) := fun nq => by
    rw [Below.heap_alloc _ _ _ (by simp [World.drewN])]
    exact heap_alloc_new w _
  have hs0 : ∀ nq : Nat, w.heap.size + 1 ≤ (((w.alloc (.cells #[.int .i64 op, .int .i64 dst, .int .i64 src, .int .i64 off, .int .i64 c, .string sym, .string ref] 24)).drewN nq).alloc (.cells #[.int .u8 (op % 256), .int .u8 (dst + src * 16)] 5)).heap.size := fun nq => by simp [World.drewN]
  have HB0 := Lib.hid hb0
  have HV0 := Lib.hid hv0
  have HX0 := Lib.hid hx0
  have HS0 := Lib.hid hs0
  clear hc hk hwo hb0 hv0 hx0 hs0
  go_enter Tryd.func47, Tryd.ntmps47
  go_wp2_with fail
  go_quiet (fail)
  go_wp2_with (first | (go_at_call 27; ((with_reducible refine (sIsALU_c _ _).mono ?_); rintro e w' ⟨rfl, rfl⟩)) | (go_at_call 70; ((with_reducible refine (offsetOf_c _ _).mono ?_); rintro e w' ⟨rfl, rfl⟩)))
  with_reducible refine (put2L _ _ wo _ (w.heap.size + 1) (HV0.out _) ?_ ?_ ?_ ?_).mono ?_
  · exact HS0.out _
  · simp
  · exact wo0
  · omega
  rintro e w1 ⟨v1, rfl, hv1, hb1⟩
  have HB1 := Lib.hid (((HB0.out _).alloc (HB0.out _).size _).trans (hb1.mono (Nat.le_succ _)))
  have HV1 := Lib.hid hv1
  have hx1 := (hb1.block w.heap.size (Nat.lt_succ_self _)).trans (HX0.out _)
  have hs1 : w.heap.size + 1 ≤ w1.heap.size := Nat.le_trans (HS0.out _) hb1.size
  obtain ⟨x0, x1, x2, x3, x4, x5, x6, -⟩ := cell7 hx1
  have HX1 := Lib.hid hx1
  clear hx1
  obtain ⟨A1, n1, k1, rfl, -⟩ := hv1.slice
  clear hv1 hb1
  go_wp2_with fail
  with_reducible refine (put4L _ _ (c % 4294967296) _ (w.heap.size + 1) HV1.out hs1 ?_ ?_ ?_).mono ?_
  · simp
  · omega
  · omega
  rintro e w2 ⟨v2, rfl, hv2, hb2⟩
  have HB2 := Lib.hid (HB1.out.trans (hb2.mono (Nat.le_succ _)))
  have HV2 := Lib.hid hv2
  have hx2 := (hb2.block w.heap.size (Nat.lt_succ_self _)).trans HX1.out
  have hs2 : w.heap.size + 1 ≤ w2.heap.size := Nat.le_trans hs1 hb2.size
  clear x0 x1 x2 x3 x4 x5 x6
  obtain ⟨x0, x1, x2, x3, x4, x5, x6, -⟩ := cell7 hx2
  have HX2 := Lib.hid hx2
  clear hx2
  obtain ⟨A2, n2, k2, rfl, -⟩ := hv2.slice
  clear hv2 hb2
  go_wp2
  go_ret
  exact ⟨_, rfl, by rw [enc_of_Lo h24 a, ← HWO.out]; exact HV2.out.mono (Nat.le_succ _), HB2.out⟩
set_option maxRecDepth 100000 in
set_option maxHeartbeats 1000000 in
theorem Encode_La (i : Ins) (w : World) (h : OkF i) (h24 : (i.op == 24) = false) (a : sIsALU i.op = true) :
    Calls Tryd.prog 47 #[insV i.op i.dst i.src i.off i.c i.sym i.ref, .bool false] w (PutEnd w w.heap.size (enc false i)) := by
  obtain ⟨op, dst, src, off, c, sym, ref⟩ := i
  obtain ⟨⟨o0, o1⟩, ⟨d0, d1⟩, ⟨s0, s1⟩, ⟨f0, f1⟩, -, -, hc, hk⟩ := h
  simp only at o0 o1 d0 d1 s0 s1 f0 f1 hc hk h24
  have e1 := (or_reg dst src d0 d1 s0 s1).1
  have eo := u16w (offOf op)
  obtain ⟨q0, q1, q2, q3⟩ := reg_enc1 dst src d0 d1 s0 s1
  obtain ⟨wo, hwo⟩ : ∃ wo, wo = (offOf op) % 65536 := ⟨_, rfl⟩
  rw [← hwo] at eo
  have wo0 : 0 ≤ wo := by rw [hwo]; omega
  have wo1 : wo ≤ 65535 := by rw [hwo]; omega
  have HWO := Lib.hid hwo
  have hb0 : ∀ nq : Nat, Below w.heap.size w ((w.alloc (.cells #[.int .i64 op, .int .i64 dst, .int .i64 src, .int .i64 off, .int .i64 c, .string sym, .string ref] 24)).drewN nq) := fun nq => below_drewN ((Below.refl _ _).alloc (Nat.le_refl _) _) nq
  have hv0 : ∀ nq : Nat, OwnB (((w.alloc (.cells #[.int .i64 op, .int .i64 dst, .int .i64 src, .int .i64 off, .int .i64 c, .string sym, .string ref] 24)).drewN nq).alloc (.cells #[.int .u8 (op % 256), .int .u8 (dst + src * 16)] 5)) (w.heap.size + 1) (.slice (some ⟨w.heap.size + 1, 0, none⟩) 2 2) [op % 256, dst + src * 16] := fun nq => by
    have := OwnB.lit (B := w.heap.size + 1) ((w.alloc (.cells #[.int .i64 op, .int .i64 dst, .int .i64 src, .int .i64 off, .int .i64 c, .string sym, .string ref] 24)).drewN nq) [op % 256, dst + src * 16] (by simp [World.drewN]) (by simp)
    have hs : ((w.alloc (.cells #[.int .i64 op, .int .i64 dst, .int .i64 src, .int .i64 off, .int .i64 c, .string sym, .string ref] 24)).drewN nq).heap.size = w.heap.size + 1 := by simp [World.drewN]
    rw [hs] at this
    exact this
  have hx0 : ∀ nq : Nat, (((w.alloc (.cells #[.int .i64 op, .int .i64 dst, .int .i64 src, .int .i64 off, .int .i64 c, .string sym, .string ref] 24)).drewN nq).alloc (.cells #[.int .u8 (op % 256), .int .u8 (dst + src * 16)] 5)).heap[w.heap.size]? = some (.cells #[.int .i64 op, .int .i64 dst, .int .i64 src, .int .i64 off, .int .i64 c, .string sym, .string ref] 24) := fun nq => by
    rw [Below.heap_alloc _ _ _ (by simp [World.drewN])]
    exact heap_alloc_new w _
  have hs0 : ∀ nq : Nat, w.heap.size + 1 ≤ (((w.alloc (.cells #[.int .i64 op, .int .i64 dst, .int .i64 src, .int .i64 off, .int .i64 c, .string sym, .string ref] 24)).drewN nq).alloc (.cells #[.int .u8 (op % 256), .int .u8 (dst + src * 16)] 5)).heap.size := fun nq => by simp [World.drewN]
  have HB0 := Lib.hid hb0
  have HV0 := Lib.hid hv0
  have HX0 := Lib.hid hx0
  have HS0 := Lib.hid hs0
  clear hc hk hwo hb0 hv0 hx0 hs0
  go_enter Tryd.func47, Tryd.ntmps47
  go_wp2_with fail
  go_quiet (fail)
  go_wp2_with (first | (go_at_call 27; ((with_reducible refine (sIsALU_c _ _).mono ?_); rintro e w' ⟨rfl, rfl⟩)) | (go_at_call 70; ((with_reducible refine (offsetOf_c _ _).mono ?_); rintro e w' ⟨rfl, rfl⟩)))
  with_reducible refine (put2L _ _ wo _ (w.heap.size + 1) (HV0.out _) ?_ ?_ ?_ ?_).mono ?_
  · exact HS0.out _
  · simp
  · exact wo0
  · omega
  rintro e w1 ⟨v1, rfl, hv1, hb1⟩
  have HB1 := Lib.hid (((HB0.out _).alloc (HB0.out _).size _).trans (hb1.mono (Nat.le_succ _)))
  have HV1 := Lib.hid hv1
  have hx1 := (hb1.block w.heap.size (Nat.lt_succ_self _)).trans (HX0.out _)
  have hs1 : w.heap.size + 1 ≤ w1.heap.size := Nat.le_trans (HS0.out _) hb1.size
  obtain ⟨x0, x1, x2, x3, x4, x5, x6, -⟩ := cell7 hx1
  have HX1 := Lib.hid hx1
  clear hx1
  obtain ⟨A1, n1, k1, rfl, -⟩ := hv1.slice
  clear hv1 hb1
  go_wp2_with fail
  with_reducible refine (put4L _ _ (c % 4294967296) _ (w.heap.size + 1) HV1.out hs1 ?_ ?_ ?_).mono ?_
  · simp
  · omega
  · omega
  rintro e w2 ⟨v2, rfl, hv2, hb2⟩
  have HB2 := Lib.hid (HB1.out.trans (hb2.mono (Nat.le_succ _)))
  have HV2 := Lib.hid hv2
  have hx2 := (hb2.block w.heap.size (Nat.lt_succ_self _)).trans HX1.out
  have hs2 : w.heap.size + 1 ≤ w2.heap.size := Nat.le_trans hs1 hb2.size
  clear x0 x1 x2 x3 x4 x5 x6
  obtain ⟨x0, x1, x2, x3, x4, x5, x6, -⟩ := cell7 hx2
  have HX2 := Lib.hid hx2
  clear hx2
  obtain ⟨A2, n2, k2, rfl, -⟩ := hv2.slice
  clear hv2 hb2
  go_wp2
  go_ret
  exact ⟨_, rfl, by rw [enc_of_La h24 a, ← HWO.out]; exact HV2.out.mono (Nat.le_succ _), HB2.out⟩
set_option maxRecDepth 100000 in
set_option maxHeartbeats 1000000 in
theorem Encode_Go (i : Ins) (w : World) (h : OkF i) (h24 : (i.op == 24) = false) (a : sIsALU i.op = false) :
    Calls Tryd.prog 47 #[insV i.op i.dst i.src i.off i.c i.sym i.ref, .bool true] w (PutEnd w w.heap.size (enc true i)) := by
  obtain ⟨op, dst, src, off, c, sym, ref⟩ := i
  obtain ⟨⟨o0, o1⟩, ⟨d0, d1⟩, ⟨s0, s1⟩, ⟨f0, f1⟩, -, -, hc, hk⟩ := h
  simp only at o0 o1 d0 d1 s0 s1 f0 f1 hc hk h24
  have e1 := (or_reg dst src d0 d1 s0 s1).2
  have eo := u16w (off)
  obtain ⟨q0, q1, q2, q3⟩ := reg_enc1 dst src d0 d1 s0 s1
  obtain ⟨wo, hwo⟩ : ∃ wo, wo = (off) % 65536 := ⟨_, rfl⟩
  rw [← hwo] at eo
  have wo0 : 0 ≤ wo := by rw [hwo]; omega
  have wo1 : wo ≤ 65535 := by rw [hwo]; omega
  have HWO := Lib.hid hwo
  have hb0 : ∀ nq : Nat, Below w.heap.size w ((w.alloc (.cells #[.int .i64 op, .int .i64 dst, .int .i64 src, .int .i64 off, .int .i64 c, .string sym, .string ref] 24)).drewN nq) := fun nq => below_drewN ((Below.refl _ _).alloc (Nat.le_refl _) _) nq
  have hv0 : ∀ nq : Nat, OwnB (((w.alloc (.cells #[.int .i64 op, .int .i64 dst, .int .i64 src, .int .i64 off, .int .i64 c, .string sym, .string ref] 24)).drewN nq).alloc (.cells #[.int .u8 (op % 256), .int .u8 (dst * 16 + src)] 5)) (w.heap.size + 1) (.slice (some ⟨w.heap.size + 1, 0, none⟩) 2 2) [op % 256, dst * 16 + src] := fun nq => by
    have := OwnB.lit (B := w.heap.size + 1) ((w.alloc (.cells #[.int .i64 op, .int .i64 dst, .int .i64 src, .int .i64 off, .int .i64 c, .string sym, .string ref] 24)).drewN nq) [op % 256, dst * 16 + src] (by simp [World.drewN]) (by simp)
    have hs : ((w.alloc (.cells #[.int .i64 op, .int .i64 dst, .int .i64 src, .int .i64 off, .int .i64 c, .string sym, .string ref] 24)).drewN nq).heap.size = w.heap.size + 1 := by simp [World.drewN]
    rw [hs] at this
    exact this
  have hx0 : ∀ nq : Nat, (((w.alloc (.cells #[.int .i64 op, .int .i64 dst, .int .i64 src, .int .i64 off, .int .i64 c, .string sym, .string ref] 24)).drewN nq).alloc (.cells #[.int .u8 (op % 256), .int .u8 (dst * 16 + src)] 5)).heap[w.heap.size]? = some (.cells #[.int .i64 op, .int .i64 dst, .int .i64 src, .int .i64 off, .int .i64 c, .string sym, .string ref] 24) := fun nq => by
    rw [Below.heap_alloc _ _ _ (by simp [World.drewN])]
    exact heap_alloc_new w _
  have hs0 : ∀ nq : Nat, w.heap.size + 1 ≤ (((w.alloc (.cells #[.int .i64 op, .int .i64 dst, .int .i64 src, .int .i64 off, .int .i64 c, .string sym, .string ref] 24)).drewN nq).alloc (.cells #[.int .u8 (op % 256), .int .u8 (dst * 16 + src)] 5)).heap.size := fun nq => by simp [World.drewN]
  have HB0 := Lib.hid hb0
  have HV0 := Lib.hid hv0
  have HX0 := Lib.hid hx0
  have HS0 := Lib.hid hs0
  clear hc hk hwo hb0 hv0 hx0 hs0
  go_enter Tryd.func47, Tryd.ntmps47
  go_wp2_with fail
  go_quiet (fail)
  go_wp2_with (first | (go_at_call 27; ((with_reducible refine (sIsALU_c _ _).mono ?_); rintro e w' ⟨rfl, rfl⟩)) | (go_at_call 70; ((with_reducible refine (offsetOf_c _ _).mono ?_); rintro e w' ⟨rfl, rfl⟩)))
  with_reducible refine (put2G _ _ wo _ (w.heap.size + 1) (HV0.out _) ?_ ?_ ?_ ?_).mono ?_
  · exact HS0.out _
  · simp
  · exact wo0
  · omega
  rintro e w1 ⟨v1, rfl, hv1, hb1⟩
  have HB1 := Lib.hid (((HB0.out _).alloc (HB0.out _).size _).trans (hb1.mono (Nat.le_succ _)))
  have HV1 := Lib.hid hv1
  have hx1 := (hb1.block w.heap.size (Nat.lt_succ_self _)).trans (HX0.out _)
  have hs1 : w.heap.size + 1 ≤ w1.heap.size := Nat.le_trans (HS0.out _) hb1.size
  obtain ⟨x0, x1, x2, x3, x4, x5, x6, -⟩ := cell7 hx1
  have HX1 := Lib.hid hx1
  clear hx1
  obtain ⟨A1, n1, k1, rfl, -⟩ := hv1.slice
  clear hv1 hb1
  go_wp2_with fail
  with_reducible refine (put4G _ _ (c % 4294967296) _ (w.heap.size + 1) HV1.out hs1 ?_ ?_ ?_).mono ?_
  · simp
  · omega
  · omega
  rintro e w2 ⟨v2, rfl, hv2, hb2⟩
  have HB2 := Lib.hid (HB1.out.trans (hb2.mono (Nat.le_succ _)))
  have HV2 := Lib.hid hv2
  have hx2 := (hb2.block w.heap.size (Nat.lt_succ_self _)).trans HX1.out
  have hs2 : w.heap.size + 1 ≤ w2.heap.size := Nat.le_trans hs1 hb2.size
  clear x0 x1 x2 x3 x4 x5 x6
  obtain ⟨x0, x1, x2, x3, x4, x5, x6, -⟩ := cell7 hx2
  have HX2 := Lib.hid hx2
  clear hx2
  obtain ⟨A2, n2, k2, rfl, -⟩ := hv2.slice
  clear hv2 hb2
  go_wp2
  go_ret
  exact ⟨_, rfl, by rw [enc_of_Go h24 a, ← HWO.out]; exact HV2.out.mono (Nat.le_succ _), HB2.out⟩
set_option maxRecDepth 100000 in
set_option maxHeartbeats 1000000 in
theorem Encode_Ga (i : Ins) (w : World) (h : OkF i) (h24 : (i.op == 24) = false) (a : sIsALU i.op = true) :
    Calls Tryd.prog 47 #[insV i.op i.dst i.src i.off i.c i.sym i.ref, .bool true] w (PutEnd w w.heap.size (enc true i)) := by
  obtain ⟨op, dst, src, off, c, sym, ref⟩ := i
  obtain ⟨⟨o0, o1⟩, ⟨d0, d1⟩, ⟨s0, s1⟩, ⟨f0, f1⟩, -, -, hc, hk⟩ := h
  simp only at o0 o1 d0 d1 s0 s1 f0 f1 hc hk h24
  have e1 := (or_reg dst src d0 d1 s0 s1).2
  have eo := u16w (offOf op)
  obtain ⟨q0, q1, q2, q3⟩ := reg_enc1 dst src d0 d1 s0 s1
  obtain ⟨wo, hwo⟩ : ∃ wo, wo = (offOf op) % 65536 := ⟨_, rfl⟩
  rw [← hwo] at eo
  have wo0 : 0 ≤ wo := by rw [hwo]; omega
  have wo1 : wo ≤ 65535 := by rw [hwo]; omega
  have HWO := Lib.hid hwo
  have hb0 : ∀ nq : Nat, Below w.heap.size w ((w.alloc (.cells #[.int .i64 op, .int .i64 dst, .int .i64 src, .int .i64 off, .int .i64 c, .string sym, .string ref] 24)).drewN nq) := fun nq => below_drewN ((Below.refl _ _).alloc (Nat.le_refl _) _) nq
  have hv0 : ∀ nq : Nat, OwnB (((w.alloc (.cells #[.int .i64 op, .int .i64 dst, .int .i64 src, .int .i64 off, .int .i64 c, .string sym, .string ref] 24)).drewN nq).alloc (.cells #[.int .u8 (op % 256), .int .u8 (dst * 16 + src)] 5)) (w.heap.size + 1) (.slice (some ⟨w.heap.size + 1, 0, none⟩) 2 2) [op % 256, dst * 16 + src] := fun nq => by
    have := OwnB.lit (B := w.heap.size + 1) ((w.alloc (.cells #[.int .i64 op, .int .i64 dst, .int .i64 src, .int .i64 off, .int .i64 c, .string sym, .string ref] 24)).drewN nq) [op % 256, dst * 16 + src] (by simp [World.drewN]) (by simp)
    have hs : ((w.alloc (.cells #[.int .i64 op, .int .i64 dst, .int .i64 src, .int .i64 off, .int .i64 c, .string sym, .string ref] 24)).drewN nq).heap.size = w.heap.size + 1 := by simp [World.drewN]
    rw [hs] at this
    exact this
  have hx0 : ∀ nq : Nat, (((w.alloc (.cells #[.int .i64 op, .int .i64 dst, .int .i64 src, .int .i64 off, .int .i64 c, .string sym, .string ref] 24)).drewN nq).alloc (.cells #[.int .u8 (op % 256), .int .u8 (dst * 16 + src)] 5)).heap[w.heap.size]? = some (.cells #[.int .i64 op, .int .i64 dst, .int .i64 src, .int .i64 off, .int .i64 c, .string sym, .string ref] 24) := fun nq => by
    rw [Below.heap_alloc _ _ _ (by simp [World.drewN])]
    exact heap_alloc_new w _
  have hs0 : ∀ nq : Nat, w.heap.size + 1 ≤ (((w.alloc (.cells #[.int .i64 op, .int .i64 dst, .int .i64 src, .int .i64 off, .int .i64 c, .string sym, .string ref] 24)).drewN nq).alloc (.cells #[.int .u8 (op % 256), .int .u8 (dst * 16 + src)] 5)).heap.size := fun nq => by simp [World.drewN]
  have HB0 := Lib.hid hb0
  have HV0 := Lib.hid hv0
  have HX0 := Lib.hid hx0
  have HS0 := Lib.hid hs0
  clear hc hk hwo hb0 hv0 hx0 hs0
  go_enter Tryd.func47, Tryd.ntmps47
  go_wp2_with fail
  go_quiet (fail)
  go_wp2_with (first | (go_at_call 27; ((with_reducible refine (sIsALU_c _ _).mono ?_); rintro e w' ⟨rfl, rfl⟩)) | (go_at_call 70; ((with_reducible refine (offsetOf_c _ _).mono ?_); rintro e w' ⟨rfl, rfl⟩)))
  with_reducible refine (put2G _ _ wo _ (w.heap.size + 1) (HV0.out _) ?_ ?_ ?_ ?_).mono ?_
  · exact HS0.out _
  · simp
  · exact wo0
  · omega
  rintro e w1 ⟨v1, rfl, hv1, hb1⟩
  have HB1 := Lib.hid (((HB0.out _).alloc (HB0.out _).size _).trans (hb1.mono (Nat.le_succ _)))
  have HV1 := Lib.hid hv1
  have hx1 := (hb1.block w.heap.size (Nat.lt_succ_self _)).trans (HX0.out _)
  have hs1 : w.heap.size + 1 ≤ w1.heap.size := Nat.le_trans (HS0.out _) hb1.size
  obtain ⟨x0, x1, x2, x3, x4, x5, x6, -⟩ := cell7 hx1
  have HX1 := Lib.hid hx1
  clear hx1
  obtain ⟨A1, n1, k1, rfl, -⟩ := hv1.slice
  clear hv1 hb1
  go_wp2_with fail
  with_reducible refine (put4G _ _ (c % 4294967296) _ (w.heap.size + 1) HV1.out hs1 ?_ ?_ ?_).mono ?_
  · simp
  · omega
  · omega
  rintro e w2 ⟨v2, rfl, hv2, hb2⟩
  have HB2 := Lib.hid (HB1.out.trans (hb2.mono (Nat.le_succ _)))
  have HV2 := Lib.hid hv2
  have hx2 := (hb2.block w.heap.size (Nat.lt_succ_self _)).trans HX1.out
  have hs2 : w.heap.size + 1 ≤ w2.heap.size := Nat.le_trans hs1 hb2.size
  clear x0 x1 x2 x3 x4 x5 x6
  obtain ⟨x0, x1, x2, x3, x4, x5, x6, -⟩ := cell7 hx2
  have HX2 := Lib.hid hx2
  clear hx2
  obtain ⟨A2, n2, k2, rfl, -⟩ := hv2.slice
  clear hv2 hb2
  go_wp2
  go_ret
  exact ⟨_, rfl, by rw [enc_of_Ga h24 a, ← HWO.out]; exact HV2.out.mono (Nat.le_succ _), HB2.out⟩
end Go.Proofs.YtakigeichhngbaaDoor
