import Derived.Test.YtakigeichhngbaaDoorUnmAll
import Derived.Test.YtakigeichhngbaaDoorDec8
import Derived.Test.YtakigeichhngbaaDoorDec24
import Derived.Test.YtakigeichhngbaaDoorDec24s
import Derived.Test.YtakigeichhngbaaDoorDec24o
import Derived.Test.YtakigeichhngbaaDoorOneE
import Derived.Test.YtakigeichhngbaaDoorLawOne
import Derived.Test.YtakigeichhngbaaDoorPlOne
namespace Go.Proofs.YtakigeichhngbaaDoor
open Go.RowKit
set_option linter.unusedVariables false

theorem reg_bd {big : Bool} {b1 : Int} (h : isByte b1) : (0 ≤ rDst big b1 ∧ rDst big b1 ≤ 255) ∧ (0 ≤ rSrc big b1 ∧ rSrc big b1 ≤ 255) := by
  obtain ⟨h0, h1⟩ := h
  cases big <;> simp only [rDst, rSrc, cond_true, cond_false] <;> omega
theorem r32_bd {big : Bool} {a b c d : Int} (ha : isByte a) (hb : isByte b) (hc : isByte c) (hd : isByte d) : 0 ≤ r32 big a b c d ∧ r32 big a b c d < 4294967296 := by
  obtain ⟨a0, a1⟩ := ha
  obtain ⟨b0, b1⟩ := hb
  obtain ⟨c0, c1⟩ := hc
  obtain ⟨d0, d1⟩ := hd
  cases big <;> simp only [r32, n32, cond_true, cond_false] <;> omega
theorem BytesAt.byte0 {w : World} {A : Option Addr} {b0 b1 b2 b3 b4 b5 b6 b7 : Int} {bs : List Int} (h : BytesAt w A (b0 :: b1 :: b2 :: b3 :: b4 :: b5 :: b6 :: b7 :: bs)) : isByte b0 ∧ isByte b1 ∧ isByte b4 ∧ isByte b5 ∧ isByte b6 ∧ isByte b7 ∧ ∀ b ∈ bs, isByte b := by
  have := h.1
  simp only [List.forall_mem_cons] at this
  obtain ⟨y0, y1, y2, y3, y4, y5, y6, y7, y8⟩ := this
  exact ⟨y0, y1, y4, y5, y6, y7, y8⟩
theorem fnOne_8 (big : Bool) (B o n cap : Nat) (w : World) (E U : Addr) (b0 b1 b2 b3 b4 b5 b6 b7 : Int) (bs : List Int) (h : BytesAt w (some ⟨B, o, none⟩) (b0 :: b1 :: b2 :: b3 :: b4 :: b5 :: b6 :: b7 :: bs)) (hn : 8 + bs.length = n) (hc : n ≤ cap) (h16 : n ≤ 16)
    (he : Errs w E U) (hg2 : 2 < w.heap.size) (hg5 : 5 < w.heap.size) (e24 : (b0 == 24) = false) :
    Calls Tryd.prog 3 #[.slice (some ⟨B, o, none⟩) n cap, .bool big] w fun e w' => e = .returned (.bool true) ∧ Below w.heap.size w w' := by
  obtain ⟨y0, y1, -⟩ := h.byte0
  obtain ⟨off, hoff⟩ : ∃ off, off = IntKind.i16.wrap (r16 big b2 b3) := ⟨_, rfl⟩
  obtain ⟨c, hcc⟩ : ∃ c, c = wrap64 (wrap32 (r32 big b4 b5 b6 b7)) := ⟨_, rfl⟩
  have D := Decode_8 big B o n cap w b0 b1 b2 b3 b4 b5 b6 b7 bs h hn hc off c hoff hcc e24
  change Calls Tryd.prog 8 #[.slice (some ⟨B, o, none⟩) n cap, .bool big] w fun e w' => e = .returned (decode8 big b0 (rDst big b1) (rSrc big b1) off c) ∧ Below w.heap.size w w' at D
  cases ho : dOpen b0 off c
  · have hd : decode8 big b0 (rDst big b1) (rSrc big b1) off c = decV (dOp b0 off c) (rDst big b1) (rSrc big b1) (dOff b0 off) c 8 0 := by simp only [decode8, ho, cond_false]
    rw [hd] at D
    cases hI : sInsOk (dOp b0 off c) (rDst big b1) (rSrc big b1) (dOff b0 off) c ⟨#[]⟩ ⟨#[]⟩
    · exact law_skip big _ n cap _ _ _ _ _ _ w h16 D hI
    · have hk : sOpOk (dOp b0 off c) (rSrc big b1) (dOff b0 off) c = true := by
        simp only [sInsOk, Bool.and_eq_true] at hI
        exact hI.2
      obtain ⟨e1, e2, e3, e4, e5, e6⟩ := one_eq (d := rDst big b1) y0.1 y0.2 e24 ho hk
      obtain ⟨r1, r2⟩ := reg_bd (big := big) y1
      have ho2 : -32768 ≤ dOff b0 off ∧ dOff b0 off ≤ 32767 := by
        have := w16 (r16 big b2 b3)
        rw [← hoff] at this
        unfold dOff
        cases sIsALU b0 <;> simp only [cond_true, cond_false] <;> omega
      refine law_right big _ n cap _ _ _ _ _ _ w h16 D hI fun W hb => ?_
      have hO := One_ok big (some ⟨B, o, none⟩) n cap (b0 :: b1 :: b2 :: b3 :: b4 :: b5 :: b6 :: b7 :: bs) bs (dOp b0 off c) (rDst big b1) (rSrc big b1) (dOff b0 off) c W E U (h.keep hb) (by simp; omega) (by omega) (he.keep hb hg2 hg5) (Nat.lt_of_lt_of_le hg2 hb.size) (Nat.lt_of_lt_of_le hg5 hb.size)
        ⟨⟨e5, e6⟩, r1, r2, ho2.1, ho2.2⟩ (by omega) (fun g X W s hs hX hgX => by
          have := Unm8 big X g b0 b1 b2 b3 b4 b5 b6 b7 bs W hs hX hgX s off c hoff hcc e3 e4
          rw [e1, e2] at this
          exact this)
      have hsz : (n : Int) - (bs.length : Int) = 8 := by omega
      rw [hsz] at hO
      exact hO
  · have hd : decode8 big b0 (rDst big b1) (rSrc big b1) off c = decV 0 0 0 0 0 0 2 := by simp only [decode8, ho, cond_true]
    rw [hd] at D
    exact law_open big _ n cap w h16 D
theorem fnOne_24 (big : Bool) (B o n cap : Nat) (w : World) (E U : Addr) (b1 b2 b3 b4 b5 b6 b7 : Int) (bs : List Int) (h : BytesAt w (some ⟨B, o, none⟩) (24 :: b1 :: b2 :: b3 :: b4 :: b5 :: b6 :: b7 :: bs)) (hn : 8 + bs.length = n) (hc : n ≤ cap) (h16 : n ≤ 16)
    (he : Errs w E U) (hg2 : 2 < w.heap.size) (hg5 : 5 < w.heap.size) :
    Calls Tryd.prog 3 #[.slice (some ⟨B, o, none⟩) n cap, .bool big] w fun e w' => e = .returned (.bool true) ∧ Below w.heap.size w w' := by
  by_cases hl : bs.length < 8
  · refine law_wrong big _ n cap w h16 (Decode_24s big B o n cap w b1 b2 b3 b4 b5 b6 b7 bs h hn hc _ _ rfl rfl hl) fun W hb => ?_
    refine One_err big (some ⟨B, o, none⟩) n cap (24 :: b1 :: b2 :: b3 :: b4 :: b5 :: b6 :: b7 :: bs) W E U (h.keep hb) (by simp; omega) (by omega) (he.keep hb hg2 hg5) (Nat.lt_of_lt_of_le hg2 hb.size) (Nat.lt_of_lt_of_le hg5 hb.size) fun g X V s hs hX hgX hE hWg => ?_
    refine (Unm25 big X g b1 b2 b3 b4 b5 b6 b7 bs V hs hX hgX s E U hE (by have := hb.size; omega) (by have := hb.size; omega) hl).mono ?_
    rintro e w' ⟨p, s', rfl, -, -, hB⟩
    exact ⟨⟨_, rfl⟩, hB⟩
  · match bs, hn, hl, h with
    | [c0, c1, c2, c3, c4, c5, c6, c7], hn, hl, h =>
      obtain ⟨-, y1, y4, y5, y6, y7, yy⟩ := h.byte0
      simp only [List.forall_mem_cons] at yy
      obtain ⟨z0, z1, z2, z3, z4, z5, z6, z7, -⟩ := yy
      obtain ⟨off, hoff⟩ : ∃ off, off = IntKind.i16.wrap (r16 big b2 b3) := ⟨_, rfl⟩
      obtain ⟨c, hcc⟩ : ∃ c, c = wrap64 (wrap32 (r32 big b4 b5 b6 b7)) := ⟨_, rfl⟩
      cases hz : (r32 big c0 c1 c2 c3 == 0)
      · exact law_open big _ n cap w h16 (Decode_24o big B o n cap w b1 b2 b3 b4 b5 b6 b7 c0 c1 c2 c3 c4 c5 c6 c7 [] h (by simpa using hn) hc off c hoff hcc hz)
      · have hz' : r32 big c0 c1 c2 c3 = 0 := by simpa using hz
        have D := Decode_24 big B o n cap w b1 b2 b3 b4 b5 b6 b7 c0 c1 c2 c3 c4 c5 c6 c7 [] h (by simpa using hn) hc off c hoff hcc hz'
        change Calls Tryd.prog 8 #[.slice (some ⟨B, o, none⟩) n cap, .bool big] w fun e w' => e = .returned (decV 24 (rDst big b1) (rSrc big b1) off (dC (r32 big c4 c5 c6 c7) (r32 big b4 b5 b6 b7)) 16 0) ∧ Below w.heap.size w w' at D
        have hq : uC (r32 big c4 c5 c6 c7) c = dC (r32 big c4 c5 c6 c7) (r32 big b4 b5 b6 b7) := by
          obtain ⟨p0, p1⟩ := r32_bd (big := big) z4 z5 z6 z7
          obtain ⟨q0, q1⟩ := r32_bd (big := big) y4 y5 y6 y7
          rw [hcc]
          exact const_eq p0 p1 q0 q1
        cases hI : sInsOk 24 (rDst big b1) (rSrc big b1) off (dC (r32 big c4 c5 c6 c7) (r32 big b4 b5 b6 b7)) ⟨#[]⟩ ⟨#[]⟩
        · exact law_skip big _ n cap _ _ _ _ _ _ w h16 D hI
        · obtain ⟨r1, r2⟩ := reg_bd (big := big) y1
          have ho2 : -32768 ≤ off ∧ off ≤ 32767 := by rw [hoff]; exact w16 _
          refine law_right big _ n cap _ _ _ _ _ _ w h16 D hI fun W hb => ?_
          have hO := One_ok big (some ⟨B, o, none⟩) n cap (24 :: b1 :: b2 :: b3 :: b4 :: b5 :: b6 :: b7 :: [c0, c1, c2, c3, c4, c5, c6, c7]) [] 24 (rDst big b1) (rSrc big b1) off (dC (r32 big c4 c5 c6 c7) (r32 big b4 b5 b6 b7)) W E U (h.keep hb) (by simp at hn ⊢; omega) (by omega) (he.keep hb hg2 hg5) (Nat.lt_of_lt_of_le hg2 hb.size) (Nat.lt_of_lt_of_le hg5 hb.size)
            ⟨⟨by omega, by omega⟩, r1, r2, ho2.1, ho2.2⟩ (by simp) (fun g X W s hs hX hgX => by
              have := Unm24 big X g b1 b2 b3 b4 b5 b6 b7 c0 c1 c2 c3 c4 c5 c6 c7 [] W hs hX hgX s off c hoff hcc hz'
              rw [hq] at this
              exact this)
          have hsz : (n : Int) - (([] : List Int).length : Int) = 16 := by simp at hn ⊢; omega
          rw [hsz] at hO
          exact hO
    | _ :: _ :: _ :: _ :: _ :: _ :: _ :: _ :: _ :: _, hn, hl, h => simp at hn; omega
    | [], _, hl, _ | [_], _, hl, _ | [_, _], _, hl, _ | [_, _, _], _, hl, _ | [_, _, _, _], _, hl, _ | [_, _, _, _, _], _, hl, _ | [_, _, _, _, _, _], _, hl, _ | [_, _, _, _, _, _, _], _, hl, _ => simp at hl
theorem fnOne_all (big : Bool) (A : Option Addr) (n cap : Nat) (bs : List Int) (w : World) (E U : Addr) (h : BytesAt w A bs) (hn : bs.length = n) (hc : n ≤ cap)
    (he : Errs w E U) (hg2 : 2 < w.heap.size) (hg5 : 5 < w.heap.size) :
    Calls Tryd.prog 3 #[.slice A n cap, .bool big] w fun e w' => e = .returned (.bool true) ∧ Below w.heap.size w w' := by
  by_cases h16 : 16 < n
  · exact law_long big A n cap w h16
  by_cases h8 : n < 8
  · refine law_wrong big A n cap w (by omega) (Decode_short big A n cap w h8) fun W hb => ?_
    refine One_err big A n cap bs W E U (h.keep hb) hn (by omega) (he.keep hb hg2 hg5) (Nat.lt_of_lt_of_le hg2 hb.size) (Nat.lt_of_lt_of_le hg5 hb.size) fun g X V s hs hX hgX hE hWg => ?_
    refine (Unm_no big X g bs V E U hs (by omega) hE (by have := hb.size; omega) (by have := hb.size; omega) s).mono ?_
    rintro e w' ⟨rfl, hB, -⟩
    exact ⟨⟨_, rfl⟩, hB⟩
  · obtain ⟨b0, b1, b2, b3, b4, b5, b6, b7, r, rfl⟩ : ∃ b0 b1 b2 b3 b4 b5 b6 b7 r, bs = b0 :: b1 :: b2 :: b3 :: b4 :: b5 :: b6 :: b7 :: r := by
      match bs, hn with
      | b0 :: b1 :: b2 :: b3 :: b4 :: b5 :: b6 :: b7 :: r, _ => exact ⟨_, _, _, _, _, _, _, _, _, rfl⟩
      | [], hn | [_], hn | [_, _], hn | [_, _, _], hn | [_, _, _, _], hn | [_, _, _, _, _], hn | [_, _, _, _, _, _], hn | [_, _, _, _, _, _, _], hn => simp at hn; omega
    obtain ⟨B, o, rfl, -⟩ := h.2.resolve_left (by simp)
    have hn' : 8 + r.length = n := by simp at hn; omega
    cases e24 : (b0 == 24)
    · exact fnOne_8 big B o n cap w E U b0 b1 b2 b3 b4 b5 b6 b7 r h hn' hc (by omega) he hg2 hg5 e24
    · obtain rfl : b0 = 24 := by simpa using e24
      exact fnOne_24 big B o n cap w E U b1 b2 b3 b4 b5 b6 b7 r h hn' hc (by omega) he hg2 hg5
end Go.Proofs.YtakigeichhngbaaDoor
