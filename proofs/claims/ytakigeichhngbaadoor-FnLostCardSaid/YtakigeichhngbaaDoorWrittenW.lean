import Derived.Test.YtakigeichhngbaaDoorPutW
import Derived.Test.YtakigeichhngbaaDoorPlEnc
import Derived.Test.YtakigeichhngbaaDoorDecF
import Derived.Deep.QuietTactic
import Derived.BigQuiet
import Derived.Deep.RegionHeld3
import Derived.Handy
import Derived.Test.YtakigeichhngbaaDoorAll
namespace Go.Proofs.YtakigeichhngbaaDoor
open Go.RowKit
set_option linter.unusedVariables false
set_option linter.unusedSimpArgs false

theorem offsetOf_c (op : Int) (w : World) : Calls Tryd.prog 70 #[.int .i64 op] w fun e w' => e = .returned (.int .i64 (offOf op)) ∧ w = w' := by
  cases h1 : (op / 256 == 1)
  · cases h2 : (op / 256 == 2)
    · cases h3 : (op / 256 == 3)
      all_goals
        go_enter Tryd.func70, Tryd.ntmps70
        go_wp2
        go_ret
        exact ⟨by simp [offOf, h1, h2, h3], rfl⟩
    · go_enter Tryd.func70, Tryd.ntmps70
      go_wp2
      go_ret
      exact ⟨by simp [offOf, h1, h2], rfl⟩
  · cases h4 : (bits .and .i64 op 240 == 176)
    all_goals
      go_enter Tryd.func70, Tryd.ntmps70
      go_wp2
      go_ret
      exact ⟨by simp [offOf, h1, h4], rfl⟩
theorem or_reg (a b : Int) (a0 : 0 ≤ a) (a1 : a ≤ 10) (b0 : 0 ≤ b) (b1 : b ≤ 10) : bits .or .i64 a (b * 16) = a + b * 16 ∧ bits .or .i64 (a * 16) b = a * 16 + b := by
  have w63 : ∀ n : Int, 0 ≤ n → n < 2 ^ 63 → IntKind.i64.wrap n = n := fun n h0 h1 => IntWalk.i64_in _ (by omega)
  have h := orAdd .i64 63 4 (by decide) w63 a.toNat b.toNat (by omega) (by omega)
  have e1 : ((a.toNat : Nat) : Int) = a := by omega
  have e2 : ((2 ^ 4 * b.toNat : Nat) : Int) = b * 16 := by omega
  rw [e1, e2] at h
  have g := (bits_nat .i64 63 (by decide) w63 (2 ^ 4 * a.toNat) b.toNat (by omega) (by omega)).2
  rw [← Nat.two_pow_add_eq_or_of_lt (by omega)] at g
  have e3 : ((b.toNat : Nat) : Int) = b := by omega
  have e4 : ((2 ^ 4 * a.toNat : Nat) : Int) = a * 16 := by omega
  rw [e3, e4] at g
  exact ⟨by rw [h]; omega, by rw [g]; omega⟩
theorem OwnB.lit {B : Nat} (w : World) (bs : List Int) (hB : B ≤ w.heap.size) (hm : bs.length ≤ 1000) : OwnB (w.alloc (.cells (u8s bs).toArray 5)) B (.slice (some ⟨w.heap.size, 0, none⟩) bs.length bs.length) bs :=
  ⟨by simp [u8s], .inr ⟨w.heap.size, bs.length, (u8s bs).toArray, rfl, hB, heap_alloc_new w _, Nat.le_refl _, by unfold maxLen; omega, by simp [u8s], by simp [u8s, List.take_of_length_le]⟩⟩
theorem OwnB.mono {w : World} {B B' : Nat} {v : Value} {bs : List Int} (h : OwnB w B v bs) (hB : B' ≤ B) : OwnB w B' v bs := by
  refine ⟨h.1, ?_⟩
  rcases h.2 with h0 | ⟨g, cap, cur, e, hg, hr⟩
  · exact .inl h0
  · exact .inr ⟨g, cap, cur, e, Nat.le_trans hB hg, hr⟩
theorem u16w (x : Int) : IntKind.u64.wrap (IntKind.u16.wrap x) = x % 65536 := by
  have h : IntKind.u16.wrap x = x % 65536 := by simp [IntKind.wrap, IntKind.bits, IntKind.signed]
  rw [h]
  exact IntWalk.u64_in _ (by omega)
theorem reg_enc1 (d s : Int) (d0 : 0 ≤ d) (d1 : d ≤ 10) (s0 : 0 ≤ s) (s1 : s ≤ 10) : 0 ≤ d + s * 16 ∧ d + s * 16 ≤ 255 ∧ 0 ≤ d * 16 + s ∧ d * 16 + s ≤ 255 := by omega
theorem enc_of_Lo {op dst src off c : Int} {sym ref : ByteArray} (h : (op == 24) = false) (a : sIsALU op = false) : enc false ⟨op, dst, src, off, c, sym, ref⟩ = [op % 256, dst + src * 16] ++ [((off) % 65536) % 256, ((off) % 65536) / 256 % 256] ++ [(c % 4294967296) % 256, (c % 4294967296) / 256 % 256, (c % 4294967296) / 65536 % 256, (c % 4294967296) / 16777216 % 256] := by
  simp only [enc, enc8, h, wOff, a, eReg, pb2, pb4, cond_true, cond_false, List.append_nil, List.cons_append, List.nil_append]
theorem enc_of_La {op dst src off c : Int} {sym ref : ByteArray} (h : (op == 24) = false) (a : sIsALU op = true) : enc false ⟨op, dst, src, off, c, sym, ref⟩ = [op % 256, dst + src * 16] ++ [((offOf op) % 65536) % 256, ((offOf op) % 65536) / 256 % 256] ++ [(c % 4294967296) % 256, (c % 4294967296) / 256 % 256, (c % 4294967296) / 65536 % 256, (c % 4294967296) / 16777216 % 256] := by
  simp only [enc, enc8, h, wOff, a, eReg, pb2, pb4, cond_true, cond_false, List.append_nil, List.cons_append, List.nil_append]
theorem enc_of_Go {op dst src off c : Int} {sym ref : ByteArray} (h : (op == 24) = false) (a : sIsALU op = false) : enc true ⟨op, dst, src, off, c, sym, ref⟩ = [op % 256, dst * 16 + src] ++ [((off) % 65536) / 256 % 256, ((off) % 65536) % 256] ++ [(c % 4294967296) / 16777216 % 256, (c % 4294967296) / 65536 % 256, (c % 4294967296) / 256 % 256, (c % 4294967296) % 256] := by
  simp only [enc, enc8, h, wOff, a, eReg, pb2, pb4, cond_true, cond_false, List.append_nil, List.cons_append, List.nil_append]
theorem enc_of_Ga {op dst src off c : Int} {sym ref : ByteArray} (h : (op == 24) = false) (a : sIsALU op = true) : enc true ⟨op, dst, src, off, c, sym, ref⟩ = [op % 256, dst * 16 + src] ++ [((offOf op) % 65536) / 256 % 256, ((offOf op) % 65536) % 256] ++ [(c % 4294967296) / 16777216 % 256, (c % 4294967296) / 65536 % 256, (c % 4294967296) / 256 % 256, (c % 4294967296) % 256] := by
  simp only [enc, enc8, h, wOff, a, eReg, pb2, pb4, cond_true, cond_false, List.append_nil, List.cons_append, List.nil_append]
set_option maxRecDepth 100000 in
set_option maxHeartbeats 1000000 in
theorem Encode_Lo (i : Ins) (w : World) (h : OkN i) (h24 : (i.op == 24) = false) (a : sIsALU i.op = false) :
    Calls Tryd.prog 47 #[insV i.op i.dst i.src i.off i.c i.sym i.ref, .bool false] w (PutEnd w w.heap.size (enc false i)) := by
  obtain ⟨op, dst, src, off, c, sym, ref⟩ := i
  obtain ⟨⟨o0, o1⟩, ⟨d0, d1⟩, ⟨s0, s1⟩, ⟨f0, f1⟩, hc, hk⟩ := h
  simp only at o0 o1 d0 d1 s0 s1 f0 f1 hc hk h24
  have e1 := (or_reg dst src d0 d1 s0 s1).1
  have eo := u16w (off)
  obtain ⟨q0, q1, q2, q3⟩ := reg_enc1 dst src d0 d1 s0 s1
  obtain ⟨wo, hwo⟩ : ∃ wo, wo = (off) % 65536 := ⟨_, rfl⟩
  rw [← hwo] at eo
  have wo0 : 0 ≤ wo := by rw [hwo]; omega
  have wo1 : wo ≤ 65535 := by rw [hwo]; omega
  have HWO := Lib.hid hwo
  have hb0 : ∀ nq : Nat, Below w.heap.size w ((w.alloc (.cells #[.int .i64 op, .int .i64 dst, .int .i64 src, .int .i64 off, .int .i64 c, .string sym, .string ref] 24)).drewN nq) := fun nq => below_drewN ((Below.refl _ _).alloc (Nat.le_refl _) _) nq
  have hv0 : ∀ nq : Nat, OwnB (((w.alloc (.cells #[.int .i64 op, .int .i64 dst, .int .i64 src, .int .i64 off, .int .i64 c, .string sym, .string ref] 24)).drewN nq).alloc (.cells #[.int .u8 (op % 256), .int .u8 (dst + src * 16)] 5)) (w.heap.size + 1) (.slice (some ⟨w.heap.size + 1, 0, none⟩) 2 2) [op % 256, dst + src * 16] := fun nq => by
    have := OwnB.lit (B := w.heap.size + 1) ((w.alloc (.cells #[.int .i64 op, .int .i64 dst, .int .i64 src, .int .i64 off, .int .i64 c, .string sym, .string ref] 24)).drewN nq) [op % 256, dst + src * 16] (by simp [World.drewN]) (by simp)
    have hs : ((w.alloc (.cells #[.int .i64 op, .int .i64 dst, .int .i64 src, .int .i64 off, .int .i64 c, .string sym, .string ref] 24)).drewN nq).heap.size = w.heap.size + 1 := by simp [World.drewN]
    rw [hs] at this
    exact this
  have hx0 : ∀ nq : Nat, (((w.alloc (.cells #[.int .i64 op, .int .i64 dst, .int .i64 src, .int .i64 off, .int .i64 c, .string sym, .string ref] 24)).drewN nq).alloc (.cells #[.int .u8 (op % 256), .int .u8 (dst + src * 16)] 5)).heap[w.heap.size]? = some (.cells #[.int .i64 op, .int .i64 dst, .int .i64 src, .int .i64 off, .int .i64 c, .string sym, .string ref] 24) := fun nq => by
    rw [Below.heap_alloc _ _ _ (by simp [World.drewN])]
    exact heap_alloc_new w _
  have hs0 : ∀ nq : Nat, w.heap.size + 1 ≤ (((w.alloc (.cells #[.int .i64 op, .int .i64 dst, .int .i64 src, .int .i64 off, .int .i64 c, .string sym, .string ref] 24)).drewN nq).alloc (.cells #[.int .u8 (op % 256), .int .u8 (dst + src * 16)] 5)).heap.size := fun nq => by simp [World.drewN]
  have HB0 := Lib.hid hb0
  have HV0 := Lib.hid hv0
  have HX0 := Lib.hid hx0
  have HS0 := Lib.hid hs0
  clear hc hk hwo hb0 hv0 hx0 hs0
  go_enter Tryd.func47, Tryd.ntmps47
  go_wp2_with fail
  go_quiet (fail)
  go_wp2_with (first | (go_at_call 27; ((with_reducible refine (sIsALU_c _ _).mono ?_); rintro e w' ⟨rfl, rfl⟩)) | (go_at_call 70; ((with_reducible refine (offsetOf_c _ _).mono ?_); rintro e w' ⟨rfl, rfl⟩)))
  with_reducible refine (put2L _ _ wo _ (w.heap.size + 1) (HV0.out _) ?_ ?_ ?_ ?_).mono ?_
  · exact HS0.out _
  · simp
  · exact wo0
  · omega
  rintro e w1 ⟨v1, rfl, hv1, hb1⟩
  have HB1 := Lib.hid (((HB0.out _).alloc (HB0.out _).size _).trans (hb1.mono (Nat.le_succ _)))
  have HV1 := Lib.hid hv1
  have hx1 := (hb1.block w.heap.size (Nat.lt_succ_self _)).trans (HX0.out _)
  have hs1 : w.heap.size + 1 ≤ w1.heap.size := Nat.le_trans (HS0.out _) hb1.size
  obtain ⟨x0, x1, x2, x3, x4, x5, x6, -⟩ := cell7 hx1
  have HX1 := Lib.hid hx1
  clear hx1
  obtain ⟨A1, n1, k1, rfl, -⟩ := hv1.slice
  clear hv1 hb1
  go_wp2_with fail
  with_reducible refine (put4L _ _ (c % 4294967296) _ (w.heap.size + 1) HV1.out hs1 ?_ ?_ ?_).mono ?_
  · simp
  · omega
  · omega
  rintro e w2 ⟨v2, rfl, hv2, hb2⟩
  have HB2 := Lib.hid (HB1.out.trans (hb2.mono (Nat.le_succ _)))
  have HV2 := Lib.hid hv2
  have hx2 := (hb2.block w.heap.size (Nat.lt_succ_self _)).trans HX1.out
  have hs2 : w.heap.size + 1 ≤ w2.heap.size := Nat.le_trans hs1 hb2.size
  clear x0 x1 x2 x3 x4 x5 x6
  obtain ⟨x0, x1, x2, x3, x4, x5, x6, -⟩ := cell7 hx2
  have HX2 := Lib.hid hx2
  clear hx2
  obtain ⟨A2, n2, k2, rfl, -⟩ := hv2.slice
  clear hv2 hb2
  go_wp2
  go_ret
  exact ⟨_, rfl, by rw [enc_of_Lo h24 a, ← HWO.out]; exact HV2.out.mono (Nat.le_succ _), HB2.out⟩
set_option maxRecDepth 100000 in
set_option maxHeartbeats 1000000 in
theorem Encode_La (i : Ins) (w : World) (h : OkN i) (h24 : (i.op == 24) = false) (a : sIsALU i.op = true) :
    Calls Tryd.prog 47 #[insV i.op i.dst i.src i.off i.c i.sym i.ref, .bool false] w (PutEnd w w.heap.size (enc false i)) := by
  obtain ⟨op, dst, src, off, c, sym, ref⟩ := i
  obtain ⟨⟨o0, o1⟩, ⟨d0, d1⟩, ⟨s0, s1⟩, ⟨f0, f1⟩, hc, hk⟩ := h
  simp only at o0 o1 d0 d1 s0 s1 f0 f1 hc hk h24
  have e1 := (or_reg dst src d0 d1 s0 s1).1
  have eo := u16w (offOf op)
  obtain ⟨q0, q1, q2, q3⟩ := reg_enc1 dst src d0 d1 s0 s1
  obtain ⟨wo, hwo⟩ : ∃ wo, wo = (offOf op) % 65536 := ⟨_, rfl⟩
  rw [← hwo] at eo
  have wo0 : 0 ≤ wo := by rw [hwo]; omega
  have wo1 : wo ≤ 65535 := by rw [hwo]; omega
  have HWO := Lib.hid hwo
  have hb0 : ∀ nq : Nat, Below w.heap.size w ((w.alloc (.cells #[.int .i64 op, .int .i64 dst, .int .i64 src, .int .i64 off, .int .i64 c, .string sym, .string ref] 24)).drewN nq) := fun nq => below_drewN ((Below.refl _ _).alloc (Nat.le_refl _) _) nq
  have hv0 : ∀ nq : Nat, OwnB (((w.alloc (.cells #[.int .i64 op, .int .i64 dst, .int .i64 src, .int .i64 off, .int .i64 c, .string sym, .string ref] 24)).drewN nq).alloc (.cells #[.int .u8 (op % 256), .int .u8 (dst + src * 16)] 5)) (w.heap.size + 1) (.slice (some ⟨w.heap.size + 1, 0, none⟩) 2 2) [op % 256, dst + src * 16] := fun nq => by
    have := OwnB.lit (B := w.heap.size + 1) ((w.alloc (.cells #[.int .i64 op, .int .i64 dst, .int .i64 src, .int .i64 off, .int .i64 c, .string sym, .string ref] 24)).drewN nq) [op % 256, dst + src * 16] (by simp [World.drewN]) (by simp)
    have hs : ((w.alloc (.cells #[.int .i64 op, .int .i64 dst, .int .i64 src, .int .i64 off, .int .i64 c, .string sym, .string ref] 24)).drewN nq).heap.size = w.heap.size + 1 := by simp [World.drewN]
    rw [hs] at this
    exact this
  have hx0 : ∀ nq : Nat, (((w.alloc (.cells #[.int .i64 op, .int .i64 dst, .int .i64 src, .int .i64 off, .int .i64 c, .string sym, .string ref] 24)).drewN nq).alloc (.cells #[.int .u8 (op % 256), .int .u8 (dst + src * 16)] 5)).heap[w.heap.size]? = some (.cells #[.int .i64 op, .int .i64 dst, .int .i64 src, .int .i64 off, .int .i64 c, .string sym, .string ref] 24) := fun nq => by
    rw [Below.heap_alloc _ _ _ (by simp [World.drewN])]
    exact heap_alloc_new w _
  have hs0 : ∀ nq : Nat, w.heap.size + 1 ≤ (((w.alloc (.cells #[.int .i64 op, .int .i64 dst, .int .i64 src, .int .i64 off, .int .i64 c, .string sym, .string ref] 24)).drewN nq).alloc (.cells #[.int .u8 (op % 256), .int .u8 (dst + src * 16)] 5)).heap.size := fun nq => by simp [World.drewN]
  have HB0 := Lib.hid hb0
  have HV0 := Lib.hid hv0
  have HX0 := Lib.hid hx0
  have HS0 := Lib.hid hs0
  clear hc hk hwo hb0 hv0 hx0 hs0
  go_enter Tryd.func47, Tryd.ntmps47
  go_wp2_with fail
  go_quiet (fail)
  go_wp2_with (first | (go_at_call 27; ((with_reducible refine (sIsALU_c _ _).mono ?_); rintro e w' ⟨rfl, rfl⟩)) | (go_at_call 70; ((with_reducible refine (offsetOf_c _ _).mono ?_); rintro e w' ⟨rfl, rfl⟩)))
  with_reducible refine (put2L _ _ wo _ (w.heap.size + 1) (HV0.out _) ?_ ?_ ?_ ?_).mono ?_
  · exact HS0.out _
  · simp
  · exact wo0
  · omega
  rintro e w1 ⟨v1, rfl, hv1, hb1⟩
  have HB1 := Lib.hid (((HB0.out _).alloc (HB0.out _).size _).trans (hb1.mono (Nat.le_succ _)))
  have HV1 := Lib.hid hv1
  have hx1 := (hb1.block w.heap.size (Nat.lt_succ_self _)).trans (HX0.out _)
  have hs1 : w.heap.size + 1 ≤ w1.heap.size := Nat.le_trans (HS0.out _) hb1.size
  obtain ⟨x0, x1, x2, x3, x4, x5, x6, -⟩ := cell7 hx1
  have HX1 := Lib.hid hx1
  clear hx1
  obtain ⟨A1, n1, k1, rfl, -⟩ := hv1.slice
  clear hv1 hb1
  go_wp2_with fail
  with_reducible refine (put4L _ _ (c % 4294967296) _ (w.heap.size + 1) HV1.out hs1 ?_ ?_ ?_).mono ?_
  · simp
  · omega
  · omega
  rintro e w2 ⟨v2, rfl, hv2, hb2⟩
  have HB2 := Lib.hid (HB1.out.trans (hb2.mono (Nat.le_succ _)))
  have HV2 := Lib.hid hv2
  have hx2 := (hb2.block w.heap.size (Nat.lt_succ_self _)).trans HX1.out
  have hs2 : w.heap.size + 1 ≤ w2.heap.size := Nat.le_trans hs1 hb2.size
  clear x0 x1 x2 x3 x4 x5 x6
  obtain ⟨x0, x1, x2, x3, x4, x5, x6, -⟩ := cell7 hx2
  have HX2 := Lib.hid hx2
  clear hx2
  obtain ⟨A2, n2, k2, rfl, -⟩ := hv2.slice
  clear hv2 hb2
  go_wp2
  go_ret
  exact ⟨_, rfl, by rw [enc_of_La h24 a, ← HWO.out]; exact HV2.out.mono (Nat.le_succ _), HB2.out⟩
set_option maxRecDepth 100000 in
set_option maxHeartbeats 1000000 in
theorem Encode_Go (i : Ins) (w : World) (h : OkN i) (h24 : (i.op == 24) = false) (a : sIsALU i.op = false) :
    Calls Tryd.prog 47 #[insV i.op i.dst i.src i.off i.c i.sym i.ref, .bool true] w (PutEnd w w.heap.size (enc true i)) := by
  obtain ⟨op, dst, src, off, c, sym, ref⟩ := i
  obtain ⟨⟨o0, o1⟩, ⟨d0, d1⟩, ⟨s0, s1⟩, ⟨f0, f1⟩, hc, hk⟩ := h
  simp only at o0 o1 d0 d1 s0 s1 f0 f1 hc hk h24
  have e1 := (or_reg dst src d0 d1 s0 s1).2
  have eo := u16w (off)
  obtain ⟨q0, q1, q2, q3⟩ := reg_enc1 dst src d0 d1 s0 s1
  obtain ⟨wo, hwo⟩ : ∃ wo, wo = (off) % 65536 := ⟨_, rfl⟩
  rw [← hwo] at eo
  have wo0 : 0 ≤ wo := by rw [hwo]; omega
  have wo1 : wo ≤ 65535 := by rw [hwo]; omega
  have HWO := Lib.hid hwo
  have hb0 : ∀ nq : Nat, Below w.heap.size w ((w.alloc (.cells #[.int .i64 op, .int .i64 dst, .int .i64 src, .int .i64 off, .int .i64 c, .string sym, .string ref] 24)).drewN nq) := fun nq => below_drewN ((Below.refl _ _).alloc (Nat.le_refl _) _) nq
  have hv0 : ∀ nq : Nat, OwnB (((w.alloc (.cells #[.int .i64 op, .int .i64 dst, .int .i64 src, .int .i64 off, .int .i64 c, .string sym, .string ref] 24)).drewN nq).alloc (.cells #[.int .u8 (op % 256), .int .u8 (dst * 16 + src)] 5)) (w.heap.size + 1) (.slice (some ⟨w.heap.size + 1, 0, none⟩) 2 2) [op % 256, dst * 16 + src] := fun nq => by
    have := OwnB.lit (B := w.heap.size + 1) ((w.alloc (.cells #[.int .i64 op, .int .i64 dst, .int .i64 src, .int .i64 off, .int .i64 c, .string sym, .string ref] 24)).drewN nq) [op % 256, dst * 16 + src] (by simp [World.drewN]) (by simp)
    have hs : ((w.alloc (.cells #[.int .i64 op, .int .i64 dst, .int .i64 src, .int .i64 off, .int .i64 c, .string sym, .string ref] 24)).drewN nq).heap.size = w.heap.size + 1 := by simp [World.drewN]
    rw [hs] at this
    exact this
  have hx0 : ∀ nq : Nat, (((w.alloc (.cells #[.int .i64 op, .int .i64 dst, .int .i64 src, .int .i64 off, .int .i64 c, .string sym, .string ref] 24)).drewN nq).alloc (.cells #[.int .u8 (op % 256), .int .u8 (dst * 16 + src)] 5)).heap[w.heap.size]? = some (.cells #[.int .i64 op, .int .i64 dst, .int .i64 src, .int .i64 off, .int .i64 c, .string sym, .string ref] 24) := fun nq => by
    rw [Below.heap_alloc _ _ _ (by simp [World.drewN])]
    exact heap_alloc_new w _
  have hs0 : ∀ nq : Nat, w.heap.size + 1 ≤ (((w.alloc (.cells #[.int .i64 op, .int .i64 dst, .int .i64 src, .int .i64 off, .int .i64 c, .string sym, .string ref] 24)).drewN nq).alloc (.cells #[.int .u8 (op % 256), .int .u8 (dst * 16 + src)] 5)).heap.size := fun nq => by simp [World.drewN]
  have HB0 := Lib.hid hb0
  have HV0 := Lib.hid hv0
  have HX0 := Lib.hid hx0
  have HS0 := Lib.hid hs0
  clear hc hk hwo hb0 hv0 hx0 hs0
  go_enter Tryd.func47, Tryd.ntmps47
  go_wp2_with fail
  go_quiet (fail)
  go_wp2_with (first | (go_at_call 27; ((with_reducible refine (sIsALU_c _ _).mono ?_); rintro e w' ⟨rfl, rfl⟩)) | (go_at_call 70; ((with_reducible refine (offsetOf_c _ _).mono ?_); rintro e w' ⟨rfl, rfl⟩)))
  with_reducible refine (put2G _ _ wo _ (w.heap.size + 1) (HV0.out _) ?_ ?_ ?_ ?_).mono ?_
  · exact HS0.out _
  · simp
  · exact wo0
  · omega
  rintro e w1 ⟨v1, rfl, hv1, hb1⟩
  have HB1 := Lib.hid (((HB0.out _).alloc (HB0.out _).size _).trans (hb1.mono (Nat.le_succ _)))
  have HV1 := Lib.hid hv1
  have hx1 := (hb1.block w.heap.size (Nat.lt_succ_self _)).trans (HX0.out _)
  have hs1 : w.heap.size + 1 ≤ w1.heap.size := Nat.le_trans (HS0.out _) hb1.size
  obtain ⟨x0, x1, x2, x3, x4, x5, x6, -⟩ := cell7 hx1
  have HX1 := Lib.hid hx1
  clear hx1
  obtain ⟨A1, n1, k1, rfl, -⟩ := hv1.slice
  clear hv1 hb1
  go_wp2_with fail
  with_reducible refine (put4G _ _ (c % 4294967296) _ (w.heap.size + 1) HV1.out hs1 ?_ ?_ ?_).mono ?_
  · simp
  · omega
  · omega
  rintro e w2 ⟨v2, rfl, hv2, hb2⟩
  have HB2 := Lib.hid (HB1.out.trans (hb2.mono (Nat.le_succ _)))
  have HV2 := Lib.hid hv2
  have hx2 := (hb2.block w.heap.size (Nat.lt_succ_self _)).trans HX1.out
  have hs2 : w.heap.size + 1 ≤ w2.heap.size := Nat.le_trans hs1 hb2.size
  clear x0 x1 x2 x3 x4 x5 x6
  obtain ⟨x0, x1, x2, x3, x4, x5, x6, -⟩ := cell7 hx2
  have HX2 := Lib.hid hx2
  clear hx2
  obtain ⟨A2, n2, k2, rfl, -⟩ := hv2.slice
  clear hv2 hb2
  go_wp2
  go_ret
  exact ⟨_, rfl, by rw [enc_of_Go h24 a, ← HWO.out]; exact HV2.out.mono (Nat.le_succ _), HB2.out⟩
set_option maxRecDepth 100000 in
set_option maxHeartbeats 1000000 in
theorem Encode_Ga (i : Ins) (w : World) (h : OkN i) (h24 : (i.op == 24) = false) (a : sIsALU i.op = true) :
    Calls Tryd.prog 47 #[insV i.op i.dst i.src i.off i.c i.sym i.ref, .bool true] w (PutEnd w w.heap.size (enc true i)) := by
  obtain ⟨op, dst, src, off, c, sym, ref⟩ := i
  obtain ⟨⟨o0, o1⟩, ⟨d0, d1⟩, ⟨s0, s1⟩, ⟨f0, f1⟩, hc, hk⟩ := h
  simp only at o0 o1 d0 d1 s0 s1 f0 f1 hc hk h24
  have e1 := (or_reg dst src d0 d1 s0 s1).2
  have eo := u16w (offOf op)
  obtain ⟨q0, q1, q2, q3⟩ := reg_enc1 dst src d0 d1 s0 s1
  obtain ⟨wo, hwo⟩ : ∃ wo, wo = (offOf op) % 65536 := ⟨_, rfl⟩
  rw [← hwo] at eo
  have wo0 : 0 ≤ wo := by rw [hwo]; omega
  have wo1 : wo ≤ 65535 := by rw [hwo]; omega
  have HWO := Lib.hid hwo
  have hb0 : ∀ nq : Nat, Below w.heap.size w ((w.alloc (.cells #[.int .i64 op, .int .i64 dst, .int .i64 src, .int .i64 off, .int .i64 c, .string sym, .string ref] 24)).drewN nq) := fun nq => below_drewN ((Below.refl _ _).alloc (Nat.le_refl _) _) nq
  have hv0 : ∀ nq : Nat, OwnB (((w.alloc (.cells #[.int .i64 op, .int .i64 dst, .int .i64 src, .int .i64 off, .int .i64 c, .string sym, .string ref] 24)).drewN nq).alloc (.cells #[.int .u8 (op % 256), .int .u8 (dst * 16 + src)] 5)) (w.heap.size + 1) (.slice (some ⟨w.heap.size + 1, 0, none⟩) 2 2) [op % 256, dst * 16 + src] := fun nq => by
    have := OwnB.lit (B := w.heap.size + 1) ((w.alloc (.cells #[.int .i64 op, .int .i64 dst, .int .i64 src, .int .i64 off, .int .i64 c, .string sym, .string ref] 24)).drewN nq) [op % 256, dst * 16 + src] (by simp [World.drewN]) (by simp)
    have hs : ((w.alloc (.cells #[.int .i64 op, .int .i64 dst, .int .i64 src, .int .i64 off, .int .i64 c, .string sym, .string ref] 24)).drewN nq).heap.size = w.heap.size + 1 := by simp [World.drewN]
    rw [hs] at this
    exact this
  have hx0 : ∀ nq : Nat, (((w.alloc (.cells #[.int .i64 op, .int .i64 dst, .int .i64 src, .int .i64 off, .int .i64 c, .string sym, .string ref] 24)).drewN nq).alloc (.cells #[.int .u8 (op % 256), .int .u8 (dst * 16 + src)] 5)).heap[w.heap.size]? = some (.cells #[.int .i64 op, .int .i64 dst, .int .i64 src, .int .i64 off, .int .i64 c, .string sym, .string ref] 24) := fun nq => by
    rw [Below.heap_alloc _ _ _ (by simp [World.drewN])]
    exact heap_alloc_new w _
  have hs0 : ∀ nq : Nat, w.heap.size + 1 ≤ (((w.alloc (.cells #[.int .i64 op, .int .i64 dst, .int .i64 src, .int .i64 off, .int .i64 c, .string sym, .string ref] 24)).drewN nq).alloc (.cells #[.int .u8 (op % 256), .int .u8 (dst * 16 + src)] 5)).heap.size := fun nq => by simp [World.drewN]
  have HB0 := Lib.hid hb0
  have HV0 := Lib.hid hv0
  have HX0 := Lib.hid hx0
  have HS0 := Lib.hid hs0
  clear hc hk hwo hb0 hv0 hx0 hs0
  go_enter Tryd.func47, Tryd.ntmps47
  go_wp2_with fail
  go_quiet (fail)
  go_wp2_with (first | (go_at_call 27; ((with_reducible refine (sIsALU_c _ _).mono ?_); rintro e w' ⟨rfl, rfl⟩)) | (go_at_call 70; ((with_reducible refine (offsetOf_c _ _).mono ?_); rintro e w' ⟨rfl, rfl⟩)))
  with_reducible refine (put2G _ _ wo _ (w.heap.size + 1) (HV0.out _) ?_ ?_ ?_ ?_).mono ?_
  · exact HS0.out _
  · simp
  · exact wo0
  · omega
  rintro e w1 ⟨v1, rfl, hv1, hb1⟩
  have HB1 := Lib.hid (((HB0.out _).alloc (HB0.out _).size _).trans (hb1.mono (Nat.le_succ _)))
  have HV1 := Lib.hid hv1
  have hx1 := (hb1.block w.heap.size (Nat.lt_succ_self _)).trans (HX0.out _)
  have hs1 : w.heap.size + 1 ≤ w1.heap.size := Nat.le_trans (HS0.out _) hb1.size
  obtain ⟨x0, x1, x2, x3, x4, x5, x6, -⟩ := cell7 hx1
  have HX1 := Lib.hid hx1
  clear hx1
  obtain ⟨A1, n1, k1, rfl, -⟩ := hv1.slice
  clear hv1 hb1
  go_wp2_with fail
  with_reducible refine (put4G _ _ (c % 4294967296) _ (w.heap.size + 1) HV1.out hs1 ?_ ?_ ?_).mono ?_
  · simp
  · omega
  · omega
  rintro e w2 ⟨v2, rfl, hv2, hb2⟩
  have HB2 := Lib.hid (HB1.out.trans (hb2.mono (Nat.le_succ _)))
  have HV2 := Lib.hid hv2
  have hx2 := (hb2.block w.heap.size (Nat.lt_succ_self _)).trans HX1.out
  have hs2 : w.heap.size + 1 ≤ w2.heap.size := Nat.le_trans hs1 hb2.size
  clear x0 x1 x2 x3 x4 x5 x6
  obtain ⟨x0, x1, x2, x3, x4, x5, x6, -⟩ := cell7 hx2
  have HX2 := Lib.hid hx2
  clear hx2
  obtain ⟨A2, n2, k2, rfl, -⟩ := hv2.slice
  clear hv2 hb2
  go_wp2
  go_ret
  exact ⟨_, rfl, by rw [enc_of_Ga h24 a, ← HWO.out]; exact HV2.out.mono (Nat.le_succ _), HB2.out⟩
end Go.Proofs.YtakigeichhngbaaDoor
namespace Go.Proofs.YtakigeichhngbaaDoor
open Go.RowKit
set_option linter.unusedVariables false
set_option linter.unusedSimpArgs false
theorem Reads.lit4 (W : World) (a b c d : Value) (T : TypeId) : Reads (W.alloc (.cells #[a, b, c, d] T)) (W.heap.size + 1) 1 (some ⟨W.heap.size, 0, none⟩) 4 [a, b, c, d] := by
  refine ⟨rfl, fun _ => ⟨_, rfl, Nat.lt_succ_self _, fun j u hu => ?_⟩⟩
  have hh := heap_alloc_new W (.cells #[a, b, c, d] T)
  have hadd : (⟨W.heap.size, 0, none⟩ : Addr).add j = ⟨W.heap.size, j, none⟩ := by unfold Addr.add; split <;> simp_all
  rw [hadd, cell_of_row _ _ _ _ _ _ hh]
  simpa using hu
theorem enc8_of_L4 {dst src off c : Int} {sym ref : ByteArray} (a : sIsALU 24 = false) : enc8 false ⟨24, dst, src, off, c, sym, ref⟩ = [24, dst + src * 16] ++ [(off % 65536) % 256, (off % 65536) / 256 % 256] ++ [(c % 4294967296) % 256, (c % 4294967296) / 256 % 256, (c % 4294967296) / 65536 % 256, (c % 4294967296) / 16777216 % 256] := by
  simp only [enc8, wOff, a, eReg, pb2, pb4, cond_true, cond_false, List.cons_append, List.nil_append]
  rfl
theorem enc_of_L4 {dst src off c cu : Int} {sym ref : ByteArray} (h : cu = c % 18446744073709551616) : enc false ⟨24, dst, src, off, c, sym, ref⟩ = enc8 false ⟨24, dst, src, off, c, sym, ref⟩ ++ [0, 0, 0, 0] ++ [(cu / 4294967296) % 256, (cu / 4294967296) / 256 % 256, (cu / 4294967296) / 65536 % 256, (cu / 4294967296) / 16777216 % 256] := by
  simp only [enc, ← h, pb4, cond_true, cond_false, List.append_assoc, List.cons_append, List.nil_append]
  rfl
theorem enc8_of_G4 {dst src off c : Int} {sym ref : ByteArray} (a : sIsALU 24 = false) : enc8 true ⟨24, dst, src, off, c, sym, ref⟩ = [24, dst * 16 + src] ++ [(off % 65536) / 256 % 256, (off % 65536) % 256] ++ [(c % 4294967296) / 16777216 % 256, (c % 4294967296) / 65536 % 256, (c % 4294967296) / 256 % 256, (c % 4294967296) % 256] := by
  simp only [enc8, wOff, a, eReg, pb2, pb4, cond_true, cond_false, List.cons_append, List.nil_append]
  rfl
theorem enc_of_G4 {dst src off c cu : Int} {sym ref : ByteArray} (h : cu = c % 18446744073709551616) : enc true ⟨24, dst, src, off, c, sym, ref⟩ = enc8 true ⟨24, dst, src, off, c, sym, ref⟩ ++ [0, 0, 0, 0] ++ [(cu / 4294967296) / 16777216 % 256, (cu / 4294967296) / 65536 % 256, (cu / 4294967296) / 256 % 256, (cu / 4294967296) % 256] := by
  simp only [enc, ← h, pb4, cond_true, cond_false, List.append_assoc, List.cons_append, List.nil_append]
  rfl
set_option maxRecDepth 100000 in
set_option maxHeartbeats 1000000 in
theorem Encode_L4 (i : Ins) (w : World) (h : OkN i) (h24 : i.op = 24) :
    Calls Tryd.prog 47 #[insV i.op i.dst i.src i.off i.c i.sym i.ref, .bool false] w (PutEnd w w.heap.size (enc false i)) := by
  obtain ⟨op, dst, src, off, c, sym, ref⟩ := i
  obtain ⟨⟨o0, o1⟩, ⟨d0, d1⟩, ⟨s0, s1⟩, ⟨f0, f1⟩, hc, hk⟩ := h
  simp only at o0 o1 d0 d1 s0 s1 f0 f1 hc hk h24
  have e1 := (or_reg dst src d0 d1 s0 s1).1
  subst h24
  have a : sIsALU 24 = false := by decide +kernel
  have eo := u16w (off)
  obtain ⟨q0, q1, q2, q3⟩ := reg_enc1 dst src d0 d1 s0 s1
  obtain ⟨wo, hwo⟩ : ∃ wo, wo = (off) % 65536 := ⟨_, rfl⟩
  rw [← hwo] at eo
  have wo0 : 0 ≤ wo := by rw [hwo]; omega
  have wo1 : wo ≤ 65535 := by rw [hwo]; omega
  have HWO := Lib.hid hwo
  obtain ⟨i0, hi0, hz0, hz1, hz2⟩ := info_parts u8_infoP
  have hb0 : ∀ nq : Nat, Below w.heap.size w ((w.alloc (.cells #[.int .i64 24, .int .i64 dst, .int .i64 src, .int .i64 off, .int .i64 c, .string sym, .string ref] 24)).drewN nq) := fun nq => below_drewN ((Below.refl _ _).alloc (Nat.le_refl _) _) nq
  have hv0 : ∀ nq : Nat, OwnB (((w.alloc (.cells #[.int .i64 24, .int .i64 dst, .int .i64 src, .int .i64 off, .int .i64 c, .string sym, .string ref] 24)).drewN nq).alloc (.cells #[.int .u8 (24), .int .u8 (dst + src * 16)] 5)) (w.heap.size + 1) (.slice (some ⟨w.heap.size + 1, 0, none⟩) 2 2) [24, dst + src * 16] := fun nq => by
    have := OwnB.lit (B := w.heap.size + 1) ((w.alloc (.cells #[.int .i64 24, .int .i64 dst, .int .i64 src, .int .i64 off, .int .i64 c, .string sym, .string ref] 24)).drewN nq) [24, dst + src * 16] (by simp [World.drewN]) (by simp)
    have hs : ((w.alloc (.cells #[.int .i64 24, .int .i64 dst, .int .i64 src, .int .i64 off, .int .i64 c, .string sym, .string ref] 24)).drewN nq).heap.size = w.heap.size + 1 := by simp [World.drewN]
    rw [hs] at this
    exact this
  have hx0 : ∀ nq : Nat, (((w.alloc (.cells #[.int .i64 24, .int .i64 dst, .int .i64 src, .int .i64 off, .int .i64 c, .string sym, .string ref] 24)).drewN nq).alloc (.cells #[.int .u8 (24), .int .u8 (dst + src * 16)] 5)).heap[w.heap.size]? = some (.cells #[.int .i64 24, .int .i64 dst, .int .i64 src, .int .i64 off, .int .i64 c, .string sym, .string ref] 24) := fun nq => by
    rw [Below.heap_alloc _ _ _ (by simp [World.drewN])]
    exact heap_alloc_new w _
  have hs0 : ∀ nq : Nat, w.heap.size + 1 ≤ (((w.alloc (.cells #[.int .i64 24, .int .i64 dst, .int .i64 src, .int .i64 off, .int .i64 c, .string sym, .string ref] 24)).drewN nq).alloc (.cells #[.int .u8 (24), .int .u8 (dst + src * 16)] 5)).heap.size := fun nq => by simp [World.drewN]
  have HB0 := Lib.hid hb0
  have HV0 := Lib.hid hv0
  have HX0 := Lib.hid hx0
  have HS0 := Lib.hid hs0
  clear hc hk hwo hb0 hv0 hx0 hs0
  go_enter Tryd.func47, Tryd.ntmps47
  go_wp2_with fail
  go_quiet (fail)
  go_wp2_with (first | (go_at_call 27; ((with_reducible refine (sIsALU_c _ _).mono ?_); rintro e w' ⟨rfl, rfl⟩)) | (go_at_call 70; ((with_reducible refine (offsetOf_c _ _).mono ?_); rintro e w' ⟨rfl, rfl⟩)))
  with_reducible refine (put2L _ _ wo _ (w.heap.size + 1) (HV0.out _) ?_ ?_ ?_ ?_).mono ?_
  · exact HS0.out _
  · simp
  · exact wo0
  · omega
  rintro e w1 ⟨v1, rfl, hv1, hb1⟩
  have HB1 := Lib.hid (((HB0.out _).alloc (HB0.out _).size _).trans (hb1.mono (Nat.le_succ _)))
  have HV1 := Lib.hid hv1
  have hx1 := (hb1.block w.heap.size (Nat.lt_succ_self _)).trans (HX0.out _)
  have hs1 : w.heap.size + 1 ≤ w1.heap.size := Nat.le_trans (HS0.out _) hb1.size
  obtain ⟨x0, x1, x2, x3, x4, x5, x6, -⟩ := cell7 hx1
  have HX1 := Lib.hid hx1
  clear hx1
  obtain ⟨A1, n1, k1, rfl, -⟩ := hv1.slice
  clear hv1 hb1
  go_wp2_with fail
  with_reducible refine (put4L _ _ (c % 4294967296) _ (w.heap.size + 1) HV1.out hs1 ?_ ?_ ?_).mono ?_
  · simp
  · omega
  · omega
  rintro e w2 ⟨v2, rfl, hv2', hb2⟩
  obtain ⟨l8, hl8, hv2⟩ : ∃ l8, enc8 false ⟨24, dst, src, off, c, sym, ref⟩ = l8 ∧ OwnB w2 (w.heap.size + 1) v2 l8 := ⟨_, rfl, by rw [enc8_of_L4 a, ← HWO.out]; exact hv2'⟩
  have hlen : l8.length ≤ 8 := by rw [← hl8, enc8_of_L4 a]; simp
  have HL8 := Lib.hid hl8
  clear hv2' hl8
  have HB2 := Lib.hid (HB1.out.trans (hb2.mono (Nat.le_succ _)))
  have HV2 := Lib.hid hv2
  have hx2 := (hb2.block w.heap.size (Nat.lt_succ_self _)).trans HX1.out
  have hs2 : w.heap.size + 1 ≤ w2.heap.size := Nat.le_trans hs1 hb2.size
  clear x0 x1 x2 x3 x4 x5 x6
  obtain ⟨x0, x1, x2, x3, x4, x5, x6, -⟩ := cell7 hx2
  have HX2 := Lib.hid hx2
  clear hx2
  obtain ⟨A2, n2, k2, rfl, -⟩ := hv2.slice
  clear hv2 hb2
  go_wp2_with fail
  obtain ⟨cu, hcu⟩ : ∃ cu, cu = c % 18446744073709551616 := ⟨_, rfl⟩
  have hcn : IntKind.u64.wrap c = cu := by rw [hcu]; simp [IntKind.wrap, IntKind.bits, IntKind.signed]
  have cu0 : 0 ≤ cu / 4294967296 := by omega
  have cu1 : cu / 4294967296 ≤ 18446744073709551615 := by omega
  have CU0 := Lib.hid cu0
  have CU1 := Lib.hid cu1
  have HCU := Lib.hid hcu
  clear cu0 cu1 hcu
  have hx4 := x4
  have e2 := World.new_ne w2 _ x4
  clear x0 x1 x2 x3 x4 x5 x6
  have hv2d : w2.drew.ownsRow (w.heap.size + 1) 5 1 (.slice A2 n2 k2) _ _ := HV2.out
  have hr4 := Reads.lit4 w2.drew (.int .u8 0) (.int .u8 0) (.int .u8 0) (.int .u8 0) 5
  have HV2D := Lib.hid hv2d
  have HR4 := Lib.hid hr4
  clear hv2d hr4
  go_region_held3 (fun w' => w'.cell? ⟨w.heap.size, 4, none⟩ = some (.int .i64 c)) (first | assumption | go_keep)
    (first | ((refine step_append_any _ rfl (.tmp 53) (.tmp 54) 22 rfl (w.heap.size + 1) 5 i0 (.int .u8 0) 1 1 Tryd.underlying22 hi0 hz0 hz1 hz2 rfl (by decide) _ _ _ rfl (HV2D.out.alloc _) (w2.heap.size + 1) _ 4 4 _ rfl HR4.out (ints_oneCell .u8 [0, 0, 0, 0]) (by unfold maxLen; omega) (by omega) (by simp; omega) ?_); (intro v3 w3 hown3 hg3 _; have x4' : w3.cell? ⟨w.heap.size, 4, none⟩ = some (.int .i64 c) := (World.cell?_of_block (hg3.block w.heap.size (by first | omega | (simp; omega)) (fun e => absurd (World.ownsRow.lt HV2.out _ e.symm).1 (by omega)))).trans (cell_old _ (by first | omega | (simp; omega)) hx4); have hv3 : OwnB w3 (w.heap.size + 1) v3 (l8 ++ [0, 0, 0, 0]) := (by simpa [OwnB, u8s] using hown3); have hb3 : Below w.heap.size w w3 := (HB2.out.drew.alloc (by first | omega | (simp; omega)) _).grown hg3 (by first | omega | (simp; omega)) (fun k hk => Nat.le_trans (Nat.le_succ _) (World.ownsRow.lt HV2.out _ hk).1); have HV3 := Lib.hid hv3; have HB3 := Lib.hid hb3; have hs3 : w.heap.size + 1 ≤ w3.heap.size := (Nat.le_trans (by first | omega | (simp; omega)) hg3.size); obtain ⟨A3, n3, k3, rfl, -⟩ := hv3.slice; clear hown3 hg3 hv3 hb3)) | (go_at_call 71; ((with_reducible refine (put4L _ _ (cu / 4294967296) _ (w.heap.size + 1) HV3.out hs3 ?_ ?_ ?_).mono ?_); (simp; omega); exact CU0.out; exact CU1.out; rintro e w4 ⟨v4, rfl, hv4, hb4⟩; have HV4 := Lib.hid hv4; have HB4 := Lib.hid (HB3.out.trans (hb4.mono (Nat.le_succ _))); have x4'' : w4.cell? ⟨w.heap.size, 4, none⟩ = some (.int .i64 c) := (hb4.cell (p := ⟨w.heap.size, 4, none⟩) (Nat.lt_succ_self _)).trans x4'; clear hv4 hb4)))
  all_goals
    go_wp2_with fail
    go_ret
    exact ⟨_, rfl, by rw [enc_of_L4 HCU.out, HL8.out]; exact HV4.out.mono (Nat.le_succ _), HB4.out⟩
set_option maxRecDepth 100000 in
set_option maxHeartbeats 1000000 in
theorem Encode_G4 (i : Ins) (w : World) (h : OkN i) (h24 : i.op = 24) :
    Calls Tryd.prog 47 #[insV i.op i.dst i.src i.off i.c i.sym i.ref, .bool true] w (PutEnd w w.heap.size (enc true i)) := by
  obtain ⟨op, dst, src, off, c, sym, ref⟩ := i
  obtain ⟨⟨o0, o1⟩, ⟨d0, d1⟩, ⟨s0, s1⟩, ⟨f0, f1⟩, hc, hk⟩ := h
  simp only at o0 o1 d0 d1 s0 s1 f0 f1 hc hk h24
  have e1 := (or_reg dst src d0 d1 s0 s1).2
  subst h24
  have a : sIsALU 24 = false := by decide +kernel
  have eo := u16w (off)
  obtain ⟨q0, q1, q2, q3⟩ := reg_enc1 dst src d0 d1 s0 s1
  obtain ⟨wo, hwo⟩ : ∃ wo, wo = (off) % 65536 := ⟨_, rfl⟩
  rw [← hwo] at eo
  have wo0 : 0 ≤ wo := by rw [hwo]; omega
  have wo1 : wo ≤ 65535 := by rw [hwo]; omega
  have HWO := Lib.hid hwo
  obtain ⟨i0, hi0, hz0, hz1, hz2⟩ := info_parts u8_infoP
  have hb0 : ∀ nq : Nat, Below w.heap.size w ((w.alloc (.cells #[.int .i64 24, .int .i64 dst, .int .i64 src, .int .i64 off, .int .i64 c, .string sym, .string ref] 24)).drewN nq) := fun nq => below_drewN ((Below.refl _ _).alloc (Nat.le_refl _) _) nq
  have hv0 : ∀ nq : Nat, OwnB (((w.alloc (.cells #[.int .i64 24, .int .i64 dst, .int .i64 src, .int .i64 off, .int .i64 c, .string sym, .string ref] 24)).drewN nq).alloc (.cells #[.int .u8 (24), .int .u8 (dst * 16 + src)] 5)) (w.heap.size + 1) (.slice (some ⟨w.heap.size + 1, 0, none⟩) 2 2) [24, dst * 16 + src] := fun nq => by
    have := OwnB.lit (B := w.heap.size + 1) ((w.alloc (.cells #[.int .i64 24, .int .i64 dst, .int .i64 src, .int .i64 off, .int .i64 c, .string sym, .string ref] 24)).drewN nq) [24, dst * 16 + src] (by simp [World.drewN]) (by simp)
    have hs : ((w.alloc (.cells #[.int .i64 24, .int .i64 dst, .int .i64 src, .int .i64 off, .int .i64 c, .string sym, .string ref] 24)).drewN nq).heap.size = w.heap.size + 1 := by simp [World.drewN]
    rw [hs] at this
    exact this
  have hx0 : ∀ nq : Nat, (((w.alloc (.cells #[.int .i64 24, .int .i64 dst, .int .i64 src, .int .i64 off, .int .i64 c, .string sym, .string ref] 24)).drewN nq).alloc (.cells #[.int .u8 (24), .int .u8 (dst * 16 + src)] 5)).heap[w.heap.size]? = some (.cells #[.int .i64 24, .int .i64 dst, .int .i64 src, .int .i64 off, .int .i64 c, .string sym, .string ref] 24) := fun nq => by
    rw [Below.heap_alloc _ _ _ (by simp [World.drewN])]
    exact heap_alloc_new w _
  have hs0 : ∀ nq : Nat, w.heap.size + 1 ≤ (((w.alloc (.cells #[.int .i64 24, .int .i64 dst, .int .i64 src, .int .i64 off, .int .i64 c, .string sym, .string ref] 24)).drewN nq).alloc (.cells #[.int .u8 (24), .int .u8 (dst * 16 + src)] 5)).heap.size := fun nq => by simp [World.drewN]
  have HB0 := Lib.hid hb0
  have HV0 := Lib.hid hv0
  have HX0 := Lib.hid hx0
  have HS0 := Lib.hid hs0
  clear hc hk hwo hb0 hv0 hx0 hs0
  go_enter Tryd.func47, Tryd.ntmps47
  go_wp2_with fail
  go_quiet (fail)
  go_wp2_with (first | (go_at_call 27; ((with_reducible refine (sIsALU_c _ _).mono ?_); rintro e w' ⟨rfl, rfl⟩)) | (go_at_call 70; ((with_reducible refine (offsetOf_c _ _).mono ?_); rintro e w' ⟨rfl, rfl⟩)))
  with_reducible refine (put2G _ _ wo _ (w.heap.size + 1) (HV0.out _) ?_ ?_ ?_ ?_).mono ?_
  · exact HS0.out _
  · simp
  · exact wo0
  · omega
  rintro e w1 ⟨v1, rfl, hv1, hb1⟩
  have HB1 := Lib.hid (((HB0.out _).alloc (HB0.out _).size _).trans (hb1.mono (Nat.le_succ _)))
  have HV1 := Lib.hid hv1
  have hx1 := (hb1.block w.heap.size (Nat.lt_succ_self _)).trans (HX0.out _)
  have hs1 : w.heap.size + 1 ≤ w1.heap.size := Nat.le_trans (HS0.out _) hb1.size
  obtain ⟨x0, x1, x2, x3, x4, x5, x6, -⟩ := cell7 hx1
  have HX1 := Lib.hid hx1
  clear hx1
  obtain ⟨A1, n1, k1, rfl, -⟩ := hv1.slice
  clear hv1 hb1
  go_wp2_with fail
  with_reducible refine (put4G _ _ (c % 4294967296) _ (w.heap.size + 1) HV1.out hs1 ?_ ?_ ?_).mono ?_
  · simp
  · omega
  · omega
  rintro e w2 ⟨v2, rfl, hv2', hb2⟩
  obtain ⟨l8, hl8, hv2⟩ : ∃ l8, enc8 true ⟨24, dst, src, off, c, sym, ref⟩ = l8 ∧ OwnB w2 (w.heap.size + 1) v2 l8 := ⟨_, rfl, by rw [enc8_of_G4 a, ← HWO.out]; exact hv2'⟩
  have hlen : l8.length ≤ 8 := by rw [← hl8, enc8_of_G4 a]; simp
  have HL8 := Lib.hid hl8
  clear hv2' hl8
  have HB2 := Lib.hid (HB1.out.trans (hb2.mono (Nat.le_succ _)))
  have HV2 := Lib.hid hv2
  have hx2 := (hb2.block w.heap.size (Nat.lt_succ_self _)).trans HX1.out
  have hs2 : w.heap.size + 1 ≤ w2.heap.size := Nat.le_trans hs1 hb2.size
  clear x0 x1 x2 x3 x4 x5 x6
  obtain ⟨x0, x1, x2, x3, x4, x5, x6, -⟩ := cell7 hx2
  have HX2 := Lib.hid hx2
  clear hx2
  obtain ⟨A2, n2, k2, rfl, -⟩ := hv2.slice
  clear hv2 hb2
  go_wp2_with fail
  obtain ⟨cu, hcu⟩ : ∃ cu, cu = c % 18446744073709551616 := ⟨_, rfl⟩
  have hcn : IntKind.u64.wrap c = cu := by rw [hcu]; simp [IntKind.wrap, IntKind.bits, IntKind.signed]
  have cu0 : 0 ≤ cu / 4294967296 := by omega
  have cu1 : cu / 4294967296 ≤ 18446744073709551615 := by omega
  have CU0 := Lib.hid cu0
  have CU1 := Lib.hid cu1
  have HCU := Lib.hid hcu
  clear cu0 cu1 hcu
  have hx4 := x4
  have e2 := World.new_ne w2 _ x4
  clear x0 x1 x2 x3 x4 x5 x6
  have hv2d : w2.drew.ownsRow (w.heap.size + 1) 5 1 (.slice A2 n2 k2) _ _ := HV2.out
  have hr4 := Reads.lit4 w2.drew (.int .u8 0) (.int .u8 0) (.int .u8 0) (.int .u8 0) 5
  have HV2D := Lib.hid hv2d
  have HR4 := Lib.hid hr4
  clear hv2d hr4
  go_region_held3 (fun w' => w'.cell? ⟨w.heap.size, 4, none⟩ = some (.int .i64 c)) (first | assumption | go_keep)
    (first | ((refine step_append_any _ rfl (.tmp 53) (.tmp 54) 22 rfl (w.heap.size + 1) 5 i0 (.int .u8 0) 1 1 Tryd.underlying22 hi0 hz0 hz1 hz2 rfl (by decide) _ _ _ rfl (HV2D.out.alloc _) (w2.heap.size + 1) _ 4 4 _ rfl HR4.out (ints_oneCell .u8 [0, 0, 0, 0]) (by unfold maxLen; omega) (by omega) (by simp; omega) ?_); (intro v3 w3 hown3 hg3 _; have x4' : w3.cell? ⟨w.heap.size, 4, none⟩ = some (.int .i64 c) := (World.cell?_of_block (hg3.block w.heap.size (by first | omega | (simp; omega)) (fun e => absurd (World.ownsRow.lt HV2.out _ e.symm).1 (by omega)))).trans (cell_old _ (by first | omega | (simp; omega)) hx4); have hv3 : OwnB w3 (w.heap.size + 1) v3 (l8 ++ [0, 0, 0, 0]) := (by simpa [OwnB, u8s] using hown3); have hb3 : Below w.heap.size w w3 := (HB2.out.drew.alloc (by first | omega | (simp; omega)) _).grown hg3 (by first | omega | (simp; omega)) (fun k hk => Nat.le_trans (Nat.le_succ _) (World.ownsRow.lt HV2.out _ hk).1); have HV3 := Lib.hid hv3; have HB3 := Lib.hid hb3; have hs3 : w.heap.size + 1 ≤ w3.heap.size := (Nat.le_trans (by first | omega | (simp; omega)) hg3.size); obtain ⟨A3, n3, k3, rfl, -⟩ := hv3.slice; clear hown3 hg3 hv3 hb3)) | (go_at_call 71; ((with_reducible refine (put4G _ _ (cu / 4294967296) _ (w.heap.size + 1) HV3.out hs3 ?_ ?_ ?_).mono ?_); (simp; omega); exact CU0.out; exact CU1.out; rintro e w4 ⟨v4, rfl, hv4, hb4⟩; have HV4 := Lib.hid hv4; have HB4 := Lib.hid (HB3.out.trans (hb4.mono (Nat.le_succ _))); have x4'' : w4.cell? ⟨w.heap.size, 4, none⟩ = some (.int .i64 c) := (hb4.cell (p := ⟨w.heap.size, 4, none⟩) (Nat.lt_succ_self _)).trans x4'; clear hv4 hb4)))
  all_goals
    go_wp2_with fail
    go_ret
    exact ⟨_, rfl, by rw [enc_of_G4 HCU.out, HL8.out]; exact HV4.out.mono (Nat.le_succ _), HB4.out⟩
end Go.Proofs.YtakigeichhngbaaDoor
namespace Go.Proofs.YtakigeichhngbaaDoor
open Go.RowKit
set_option linter.unusedVariables false
set_option linter.unusedSimpArgs false

theorem Encode_c (big : Bool) (i : Ins) (w : World) (h : OkN i) : Calls Tryd.prog 47 #[insV i.op i.dst i.src i.off i.c i.sym i.ref, .bool big] w (PutEnd w w.heap.size (enc big i)) := by
  cases h24 : (i.op == 24)
  · cases a : sIsALU i.op <;> cases big
    · exact Encode_Lo i w h h24 a
    · exact Encode_Go i w h h24 a
    · exact Encode_La i w h h24 a
    · exact Encode_Ga i w h h24 a
  · have h24' : i.op = 24 := by simpa using h24
    cases big
    · exact Encode_L4 i w h h24'
    · exact Encode_G4 i w h h24'
theorem pb2_len (big : Bool) (x : Int) : (pb2 big x).length = 2 := by cases big <;> rfl
theorem pb4_len (big : Bool) (x : Int) : (pb4 big x).length = 4 := by cases big <;> rfl
theorem enc8_len (big : Bool) (i : Ins) : (enc8 big i).length = 8 := by simp [enc8, pb2_len, pb4_len]
theorem enc_len (big : Bool) (i : Ins) : (enc big i).length = bif i.op == 24 then 16 else 8 := by
  unfold enc
  rw [List.length_append, enc8_len]
  cases i.op == 24 <;> simp [pb4_len]
theorem enc_len_le (big : Bool) (i : Ins) : (enc big i).length ≤ 16 := by rw [enc_len]; cases i.op == 24 <;> simp
theorem encs_snoc (big : Bool) (l : List Ins) (i : Ins) : encs big (l ++ [i]) = encs big l ++ enc big i := by simp [encs]
theorem encs_len_le (big : Bool) (l : List Ins) : (encs big l).length ≤ 16 * l.length := by
  induction l with
  | nil => simp [encs]
  | cons i l ih =>
    have e : encs big (i :: l) = enc big i ++ encs big l := by simp [encs]
    have := enc_len_le big i
    rw [e, List.length_append, List.length_cons]
    omega
set_option maxHeartbeats 1000000 in
theorem Written_c (big : Bool) (A : Option Addr) (n cap : Nat) (xs : List Ins) (w : World) (h : InsAt w A n xs) (hn : n ≤ 1000) (hk : ∀ i ∈ xs, OkN i) :
    Calls Tryd.prog 18 #[.slice A n cap, .bool big] w (PutEnd w w.heap.size (encs big xs)) := by
  obtain ⟨hl, h⟩ := h
  have hlit := OwnB.lit (B := w.heap.size) w [] (Nat.le_refl _) (by simp)
  rcases h with h0 | ⟨b, o, rfl, hlt, hc⟩
  · subst h0
    have : xs = [] := List.eq_nil_of_length_eq_zero hl
    subst this
    go_enter Tryd.func18, Tryd.ntmps18
    go_wp2
    go_rounds 1
    go_ret
    exact ⟨_, rfl, hlit, (Below.refl _ _).alloc (Nat.le_refl _) _⟩
  · obtain ⟨i0, hi0, hz0, hz1, hz2⟩ := info_parts u8_infoP
    have C := Lib.hid hc
    have L := Lib.hid hl
    have F := Lib.hid hk
    have LIT := Lib.hid hlit
    clear hc hl hk hlit
    go_enter Tryd.func18, Tryd.ntmps18
    go_wp2
    go_loopw [5, 11] (fun v i wr => ∃ k : Nat, k ≤ n ∧ i = .int .i64 k ∧ OwnB wr w.heap.size v (encs big (xs.take k)) ∧ Below w.heap.size w wr) (fun _ i _ => n - (intOf i).toNat)
    case atStart => exact ⟨0, Nat.zero_le _, rfl, LIT.out, (Below.refl _ _).alloc (Nat.le_refl _) _⟩
    case round =>
      obtain ⟨k, hk, rfl, hown, hb⟩ := hrel
      by_cases hk' : k < n
      · have hkl : k < xs.length := by rw [L.out]; exact hk'
        obtain ⟨i, hi⟩ : ∃ i, i = xs[k] := ⟨_, rfl⟩
        obtain ⟨c0, c1, c2, c3, c4, c5, c6⟩ := (show InsCells w b (o + k * 7) i from by rw [hi]; exact C.out k _).keep hb hlt
        have hok : OkN i := by rw [hi]; exact F.out _ (List.getElem_mem _)
        have hpre : encs big (xs.take (k + 1)) = encs big (xs.take k) ++ enc big i := by rw [List.take_succ_eq_append_getElem hkl, encs_snoc, hi]
        have hle : (encs big (xs.take k)).length ≤ 16000 := by
          have := encs_len_le big (xs.take k)
          rw [List.length_take] at this
          omega
        have hle2 := enc_len_le big i
        have HI := Lib.hid hi
        have HOK := Lib.hid hok
        have HPRE := Lib.hid hpre
        have HOWN := Lib.hid hown
        obtain ⟨A1, n1, k1, rfl, -⟩ := hown.slice
        clear hi hok hpre hown
        have hlt2 : b < wr.heap.size := Nat.lt_of_lt_of_le hlt hb.size
        have hz0' := hb.size
        go_wp2_with fail
        with_reducible refine (Encode_c big i _ HOK.out).mono ?_
        rintro e w2 ⟨v2, rfl, hv2, hb2⟩
        have hB2 : Below wr.heap.size wr w2 := ((Below.refl _ _).alloc (Nat.le_refl _) _).trans (hb2.mono (by simp))
        have HV2 := Lib.hid hv2
        obtain ⟨A2, n2, k2, rfl, hn2⟩ := hv2.slice
        have hv2' := hv2
        unfold OwnB at hv2'
        rw [← hn2.out] at hv2'
        have HRD := Lib.hid (Reads.of_own hv2')
        have HN2 := Lib.hid hn2.out
        have hn2le : n2 ≤ 16 := by rw [HN2.out]; exact hle2
        have HO2 := Lib.hid (own_below HOWN.out hB2)
        have HB2 := Lib.hid hB2
        have hz2' := hB2.size
        clear hv2 hb2 hn2 hv2' hB2
        go_wp2_with (first | (at_builtin; go_loud (refine wpList_append_any _ rfl (.tmp 15) (.tmp 18) 22 rfl w.heap.size 5 i0 (.int .u8 0) 1 1 Tryd.underlying22 hi0 hz0 hz1 hz2 rfl (by decide) _ _ _ rfl HO2.out w2.heap.size _ n2 k2 _ rfl HRD.out (oneCell_u8s _) (by unfold maxLen; omega) (by omega) (by omega) ?_); intro v3 w3 hown3 hg3 _))
        have hb3 : Below w.heap.size w w3 := (hb.trans (HB2.out.mono hb.size)).grown hg3 (by omega) (fun g hg => (World.ownsRow.lt HO2.out g hg).1)
        have ho3 : OwnB w3 w.heap.size v3 (encs big (xs.take (k + 1))) := by
          rw [HPRE.out]
          unfold OwnB
          rw [List.length_append, ← HN2.out]
          simpa [u8s] using hown3
        have HO3 := Lib.hid ho3
        clear hown3 hg3 ho3 HO2 HRD HV2 HOWN HPRE
        go_wp2
        go_roundw
        case rel => exact ⟨k + 1, by omega, by go_num, HO3.out, hb3⟩
        case measure => simp [intOf]; omega
      · have hall : xs.take k = xs := List.take_of_length_le (by rw [L.out]; omega)
        rw [hall] at hown
        have HO := Lib.hid hown
        clear hall hown
        go_wp2
        go_ret
        exact ⟨_, rfl, HO.out, hb⟩
end Go.Proofs.YtakigeichhngbaaDoor
