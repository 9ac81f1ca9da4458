import Derived.Test.YtakigeichhngbaaDoorPlEnc
import Derived.Test.YtakigeichhngbaaDoorErrIs
import Derived.Test.YtakigeichhngbaaDoorWrittenW
import Derived.Test.YtakigeichhngbaaDoorAll
namespace Go.Proofs.YtakigeichhngbaaDoor
open Go.RowKit
set_option linter.unusedVariables false
set_option linter.unusedSimpArgs false

theorem pRaw_bd2 (op : Int) : 1 ≤ pRaw op ∧ pRaw op ≤ 2 := by
  unfold pRaw; cases op == 24 <;> simp
theorem ISize_c (op dst src off c : Int) (p : Option Addr) (w : World) : Calls Tryd.prog 73 #[.agg #[.int .u32 op, .int .u8 dst, .int .u8 src, .int .i16 off, .int .i64 c, .pointer p]] w
    fun e w' => e = .returned (.int .u64 (8 * pRaw op)) ∧ Below w.heap.size w w' := by
  obtain ⟨pr0, pr1⟩ := pRaw_bd2 op
  go_enter Tryd.func73, Tryd.ntmps73
  go_wp2_with (first | (go_at_call 92; ((with_reducible refine (rawInstructions_c _ _).mono ?_); rintro e w' ⟨rfl, rfl⟩)))
  go_ret
  exact ⟨rfl, (Below.refl _ _).alloc (Nat.le_refl _) _⟩
/-- io.EOF and io.ErrUnexpectedEOF stand in their variables, in memory of their own, apart -/
structure EofIn (w : World) (E U : Addr) : Prop where
  errs : Errs w E U
  ne : E ≠ U
  e : ∃ c t, w.heap[E.block]? = some (.cells c t (0, 0))
  u : ∃ c t, w.heap[U.block]? = some (.cells c t (0, 0))
theorem EofIn.keep {w w' : World} {E U : Addr} {B : Nat} (h : EofIn w E U) (hb : Below B w w') (h2 : 2 < B) (h5 : 5 < B) (hE : E.block < B) (hU : U.block < B) : EofIn w' E U := by
  obtain ⟨h1, hn, ⟨c, t, he⟩, d, s, hu⟩ := h
  exact ⟨h1.keep hb h2 h5, hn, ⟨c, t, (hb.block _ hE).trans he⟩, ⟨d, s, (hb.block _ hU).trans hu⟩⟩
/-- a slice of instructions without metadata, of the call's own -/
def BuiltN (w : World) (B : Nat) (v : Value) (l : List Ins) : Prop := w.ownsRow B 65 6 v l.length (cellsAll l (List.replicate l.length none))
theorem BuiltN.built {w : World} {B : Nat} {v : Value} {l : List Ins} (h : BuiltN w B v l) (hk : ∀ i ∈ l, i.metas = []) : Built w B v l := by
  refine ⟨List.replicate l.length none, by simp, h, fun x hx => ?_⟩
  have h1 := (List.of_mem_zip hx).1
  have h2 := List.eq_of_mem_replicate (List.of_mem_zip hx).2
  rw [h2, hk _ h1]
  rfl
theorem BuiltN.slice {w : World} {B : Nat} {v : Value} {l : List Ins} (h : BuiltN w B v l) : ∃ A n c, v = .slice A n c ∧ n = l.length := by
  rcases h.2 with ⟨rfl, h0⟩ | ⟨g, cap, cur, rfl, _⟩
  · exact ⟨_, _, _, rfl, h0.symm⟩
  · exact ⟨_, _, _, rfl, rfl⟩
theorem own_fr {w W w' : World} {B g X : Nat} {e : TypeId} {size : Nat} {v : Value} {n : Nat} {xs : List Value} (h : w.ownsRow B e size v n xs) (ha : Below w.heap.size w W) (hf : Fr W w' g X) (hg : g < B) (hX : w.heap.size ≤ X) : w'.ownsRow B e size v n xs := by
  refine ⟨h.1, ?_⟩
  rcases h.2 with h0 | ⟨b, cap, cur, rfl, hb, hh, hr⟩
  · exact .inl h0
  · have hl := lt_of_blk hh
    exact .inr ⟨b, cap, cur, rfl, hb, (hf.other b (Nat.lt_of_lt_of_le hl ha.size) (by omega) (by omega)).trans ((ha.block b hl).trans hh), hr⟩
theorem replicate_snoc (n : Nat) : (List.replicate (n + 1) (none : Option Addr)) = List.replicate n none ++ [none] := List.replicate_succ'
def lenOf : Value → Nat | .slice _ n _ => n | _ => 0
def AppEnd (B g : Nat) (l : List Ins) (w : World) (e : Ending) (w' : World) : Prop := ∃ v, e = .returned (.tuple #[v, .nilIface]) ∧ BuiltN w' B v l ∧ ∀ C, C ≤ g → Below C w w'
set_option maxHeartbeats 2000000 in
theorem appI_ok (big : Bool) (l : List Ins) (g : Nat) (w : World) (E U : Addr) (s : ByteArray) (hs : SrcAt w g (encs big l)) (hk : ∀ i ∈ l, OkF i ∧ -9223372036854775808 ≤ i.c ∧ i.c ≤ 9223372036854775807) (hn : l.length ≤ 1000)
    (he : EofIn w E U) (h2 : 2 < g) (h5 : 5 < g) (hE : E.block < g) (hU : U.block < g) :
    Calls Tryd.prog 48 #[.slice none 0 0, .iface 56 (.pointer (some ⟨g, 0, none⟩)), ordV big, .string s] w (AppEnd (g + 1) g l w) := by
  have hlt := hs.lt
  obtain ⟨i0, hi0, hz0, hz1, hz2⟩ := info_parts instr_info
  have K := Lib.hid hk
  have HE0 := Lib.hid he
  have HS0 := Lib.hid hs
  have hs1 := Lib.hid hz1
  have hs2 := Lib.hid hz2
  have hs0 := Lib.hid hi0
  have hsz := Lib.hid hz0
  clear hk he hs hi0 hz0 hz1 hz2
  go_enter Tryd.func48, Tryd.ntmps48
  go_wp2
  go_loopw [0, 10] (fun v off wr => ∃ (k : Nat) (q : Int), k ≤ l.length ∧ off = .int .u64 q ∧ BuiltN wr (g + 1) v (l.take k) ∧ SrcAt wr g (encs big (l.drop k)) ∧ EofIn wr E U ∧ ∀ C, C ≤ g → Below C w wr) (fun v _ _ => l.length + 1 - lenOf v)
  case atStart => exact ⟨0, 0, Nat.zero_le _, rfl, ⟨by simp [cellsAll], .inl ⟨rfl, rfl⟩⟩, HS0.out, HE0.out, fun C _ => Below.refl _ _⟩
  case round =>
    obtain ⟨k, q, hk, rfl, hbn, hsrc, heo, hbel⟩ := hrel
    obtain ⟨A1, n1, c1, rfl, hn1⟩ := hbn.slice
    have hn1' : n1 = k := by rw [hn1, List.length_take]; omega
    subst hn1'
    have hbX := (Below.refl wr.heap.size wr).alloc (Nat.le_refl _) (.cells #[.int .u32 0, .int .u8 0, .int .u8 0, .int .i16 0, .int .i64 0, .pointer none] 65)
    have hrX := heap_alloc_new wr (.cells #[.int .u32 0, .int .u8 0, .int .u8 0, .int .i16 0, .int .i64 0, .pointer none] 65)
    have hgw := hsrc.lt
    clear hn1
    by_cases hk' : n1 < l.length
    · obtain ⟨i, hi⟩ : ∃ i, i = l[n1] := ⟨_, rfl⟩
      obtain ⟨hok, hcb⟩ := K.out i (by rw [hi]; exact List.getElem_mem _)
      have hdr : encs big (l.drop n1) = enc big i ++ encs big (l.drop (n1 + 1)) := by
        unfold encs
        rw [List.drop_eq_getElem_cons hk', List.flatMap_cons, hi]
      have htk : l.take (n1 + 1) = l.take n1 ++ [i] := by rw [List.take_succ_eq_append_getElem hk', hi]
      rw [hdr] at hsrc
      have HU := Lib.hid (unm_enc big i hok hcb wr.heap.size g (encs big (l.drop (n1 + 1))) _ s (hsrc.keep hbX hgw) hrX hgw)
      have HTK := Lib.hid htk
      have HBN := Lib.hid hbn
      have HEO := Lib.hid heo
      have HBEL := Lib.hid hbel
      have HBX := Lib.hid hbX
      clear hi hok hcb hdr htk hbn hsrc heo hbel hbX hrX
      go_wp2_with fail
      refine HU.out.mono ?_
      rintro e w2 ⟨rfl, hend⟩
      have hBC : ∀ C, C ≤ g → Below C wr w2 := fun C hC => (HBX.out.mono (by omega)).trans (hend.fr.below C hC (by omega))
      have heo2 := HEO.out.keep (hBC g (Nat.le_refl _)) h2 h5 hE hU
      have hbn2 := own_fr HBN.out HBX.out hend.fr (Nat.lt_succ_self g) (Nat.le_refl _)
      have hbl2 : ∀ C, C ≤ g → Below C w w2 := fun C hC => (HBEL.out C hC).trans (hBC C hC)
      have hxl := lt_of_blk hend.x
      obtain ⟨x0, x1, x2, x3, x4, x5, -⟩ := cells6u hend.x
      have hcE := heo2.errs.eof
      have hsz2 := hend.fr.size
      have HX2 := Lib.hid hend.x
      have HS2 := Lib.hid hend.src
      have HEO2 := Lib.hid heo2
      have HBN2 := Lib.hid hbn2
      have HBL2 := Lib.hid hbl2
      have hown1 := HBN.out.lt
      have HL1 := Lib.hid hown1
      clear hend hBC heo2 hbn2 hbl2 HU HBX hown1
      go_wp2_with fail
      refine (is_nil E _).mono ?_
      rintro e wx ⟨rfl, rfl⟩
      have hlk : (l.take n1).length = n1 := by rw [List.length_take]; omega
      have LK := Lib.hid hlk
      clear hlk
      go_wp2_with (first | (at_builtin; go_loud (refine wpList_append_own _ rfl (.tmp 23) (.tmp 25) 76 rfl (g + 1) 65 i0 (.agg #[.int .u32 0, .int .u8 0, .int .u8 0, .int .i16 0, .int .i64 0, .pointer none]) 6 24 Tryd.underlying76 hs0.out hsz.out hs1.out hs2.out rfl (by decide) _ _ _ rfl (HBN2.out.alloc _) ⟨w2.heap.size, 0, none⟩ 1 1 (InstrCells i none) rfl rfl ?c1 (instrCells_one i none) ?c3 ?c4 ?c5 ?_)))
      case c1 =>
        intro j u hj
        simp only [InstrCells] at hj
        have hh := heap_alloc_new w2 (.cells #[.int .u32 i.op, .int .u8 i.dst, .int .u8 i.src, .int .i16 i.off, .int .i64 i.c, .pointer none] 65)
        have hadd : (⟨w2.heap.size, 0, none⟩ : Addr).add j = ⟨w2.heap.size, j, none⟩ := by unfold Addr.add; split <;> simp_all
        rw [hadd, cell_of_row _ _ _ _ _ _ hh]
        simpa using hj
      case c3 => rw [LK.out]; unfold maxLen; omega
      case c4 => rw [LK.out]; omega
      case c5 => simp; omega
      intro v3 w3 hown3 hg3 _
      have hbn3 : BuiltN w3 (g + 1) v3 (l.take (n1 + 1)) := by
        rw [HTK.out]
        unfold BuiltN
        rw [List.length_append, List.length_singleton, replicate_snoc, cellsAll_snoc _ _ (by simp), LK.out]
        exact hown3
      have hxX : w3.heap[wr.heap.size]? = some (.cells #[.int .u32 i.op, .int .u8 i.dst, .int .u8 i.src, .int .i16 i.off, .int .i64 i.c, .pointer none] 65 (0, 0)) := by
        refine (hg3.block wr.heap.size (by simp; omega) (fun e => ?_)).trans ?_
        · have := (HL1.out _ e.symm).2
          omega
        · rw [Below.heap_alloc _ _ _ (by omega)]
          exact HX2.out
      have hb3 : Below (g + 1) w2 w3 := ((Below.refl _ _).alloc (by omega) _).grown hg3 (by simp; omega) (fun b hb => (HBN2.out.lt b hb).1)
      have heo3 := HEO2.out.keep (hb3.mono (Nat.le_succ g)) h2 h5 hE hU
      have hs3 := HS2.out.keep hb3 (Nat.lt_succ_self g)
      have hbl3 : ∀ C, C ≤ g → Below C w w3 := fun C hC => (HBL2.out C hC).trans (hb3.mono (by omega))
      obtain ⟨A3, n3, c3, rfl, hn3⟩ := hbn3.slice
      have hn3' : n3 = n1 + 1 := by rw [hn3, List.length_take]; omega
      subst hn3'
      clear x0 x1 x2 x3 x4 x5 hcE
      obtain ⟨x0, x1, x2, x3, x4, x5, -⟩ := cells6u hxX
      have HBN3 := Lib.hid hbn3
      have HEO3 := Lib.hid heo3
      have HS3 := Lib.hid hs3
      have HBL3 := Lib.hid hbl3
      have hsz3 := hb3.size
      have hgl3 := hs3.lt
      clear hown3 hg3 hbn3 hxX hb3 heo3 hs3 hbl3 hn3 HBN HEO HBEL HX2 HS2 HEO2 HBN2 HBL2 HL1
      go_wp2_with fail
      refine (ISize_c i.op i.dst i.src i.off i.c none _).mono ?_
      rintro e w4 ⟨rfl, hb4⟩
      have HBN4 := Lib.hid (own_below HBN3.out hb4)
      have HEO4 := Lib.hid (HEO3.out.keep (hb4.mono (Nat.le_of_lt hgl3)) h2 h5 hE hU)
      have HS4 := Lib.hid (HS3.out.keep hb4 hgl3)
      have HBL4 := Lib.hid (fun C (hC : C ≤ g) => (HBL3.out C hC).trans (hb4.mono (by omega)))
      clear HBN3 HEO3 HS3 HBL3 hb4
      go_wp2
      go_roundw
      case rel => exact ⟨n1 + 1, _, by omega, rfl, HBN4.out, HS4.out, HEO4.out, HBL4.out⟩
      case measure => simp [lenOf]; omega
    · have hkn : n1 = l.length := by omega
      have hdr : encs big (l.drop n1) = [] := by rw [hkn, List.drop_length]; rfl
      have htk : l.take n1 = l := by rw [hkn, List.take_length]
      rw [hdr] at hsrc
      rw [htk] at hbn
      have HU := Lib.hid (Unm_no big wr.heap.size g [] _ E U (hsrc.keep hbX hgw) (by simp) (heo.errs.keep hbX (by omega) (by omega)) h2 h5 s)
      have HBN := Lib.hid hbn
      have HEO := Lib.hid heo
      have HBEL := Lib.hid hbel
      have HBX := Lib.hid hbX
      clear hkn hdr htk hbn hsrc heo hbel hbX hrX
      go_wp2_with fail
      refine HU.out.mono ?_
      rintro e w2 ⟨rfl, hbC, hsz, ho⟩
      have hBC : ∀ C, C ≤ g → Below C wr w2 := fun C hC => (HBX.out.mono (by omega)).trans (hbC C hC)
      have heo2 := HEO.out.keep (hBC g (Nat.le_refl _)) h2 h5 hE hU
      have hbn2 : BuiltN w2 (g + 1) (.slice A1 n1 c1) l := by
        refine ⟨HBN.out.1, ?_⟩
        rcases HBN.out.2 with h0 | ⟨b, cap, cur, e, hb, hh, hr⟩
        · exact .inl h0
        · have hl := lt_of_blk hh
          exact .inr ⟨b, cap, cur, e, hb, (ho b (by simp; omega) (by omega)).trans ((HBX.out.block b hl).trans hh), hr⟩
      have hcE := heo2.errs.eof
      have HBN2 := Lib.hid hbn2
      have HBL2 := Lib.hid (fun C (hC : C ≤ g) => (HBEL.out C hC).trans (hBC C hC))
      clear hbC hsz ho hBC heo2 hbn2 HU HBN HEO HBEL HBX
      go_wp2_with fail
      refine (is_same E _).mono ?_
      rintro e wx ⟨rfl, rfl⟩
      go_wp2
      go_ret2
      exact ⟨_, rfl, HBN2.out, HBL2.out⟩
end Go.Proofs.YtakigeichhngbaaDoor
namespace Go.Proofs.YtakigeichhngbaaDoor
open Go.RowKit
set_option linter.unusedVariables false
set_option linter.unusedSimpArgs false
/-- an error came back that is not io.EOF -/
def BadEnd (E : Addr) (g : Nat) (w : World) (e : Ending) (w' : World) : Prop := ∃ p, e = .returned (.iface 137 (.pointer (some p))) ∧ p ≠ E ∧ (∃ c t, w'.heap[p.block]? = some (.cells c t (0, 0))) ∧ ∀ B, B ≤ g → Below B w w'
def AppBad (g : Nat) (w : World) (e : Ending) (w' : World) : Prop := ∃ p, e = .returned (.tuple #[.slice none 0 0, .iface 137 (.pointer (some p))]) ∧ ∀ C, C ≤ g → Below C w w'
/-- an instruction's bytes without the last ones -/
theorem unm_cut (big : Bool) (i : Ins) (k : Nat) (k0 : 1 ≤ k) (k1 : k ≤ 7) (E U : Addr) (g X : Nat) (W : World) (s : ByteArray) (hs : SrcAt W g ((enc big i).take ((enc big i).length - k))) (hX : rowX W X) (hgX : g < X)
    (he : EofIn W E U) (h2 : 2 < g) (h5 : 5 < g) (hE : E.block < g) (hU : U.block < g) :
    Calls Tryd.prog 35 #[.pointer (some ⟨X, 0, none⟩), .iface 56 (.pointer (some ⟨g, 0, none⟩)), ordV big, .string s] W (BadEnd E g W) := by
  have hlen := enc_len big i
  cases h24 : (i.op == 24)
  · rw [h24, cond_false] at hlen
    have hl : ((enc big i).take ((enc big i).length - k)).length = 8 - k := by rw [List.length_take, hlen]; omega
    have hc : ∃ b r, (enc big i).take ((enc big i).length - k) = b :: r := by
      cases h : (enc big i).take ((enc big i).length - k) with
      | nil => rw [h] at hl; simp at hl; omega
      | cons b r => exact ⟨b, r, rfl⟩
    obtain ⟨b, r, hc⟩ := hc
    refine (Unm_no big X g _ W E U hs (by omega) he.errs h2 h5 s).mono ?_
    rintro e w' ⟨rfl, hB, -, -⟩
    rw [hc]
    obtain ⟨c, t, hu⟩ := he.u
    exact ⟨U, rfl, fun h => he.ne h.symm, ⟨c, t, ((hB g (Nat.le_refl _)).block _ hU).trans hu⟩, hB⟩
  · rw [h24, cond_true] at hlen
    have he24 : i.op = 24 := by simpa using h24
    obtain ⟨b1, b2, b3, b4, b5, b6, b7, r, hr⟩ : ∃ b1 b2 b3 b4 b5 b6 b7 r, (enc big i).take ((enc big i).length - k) = 24 :: b1 :: b2 :: b3 :: b4 :: b5 :: b6 :: b7 :: r := by
      have h8 : ∃ b1 b2 b3 b4 b5 b6 b7, enc8 big i = [24, b1, b2, b3, b4, b5, b6, b7] := by
        have e16 : i.op % 256 = 24 := by rw [he24]; rfl
        cases big <;> exact ⟨_, _, _, _, _, _, _, by simp only [enc8, e16, pb2, pb4, cond_true, cond_false, List.cons_append, List.nil_append]; rfl⟩
      obtain ⟨b1, b2, b3, b4, b5, b6, b7, h8⟩ := h8
      refine ⟨b1, b2, b3, b4, b5, b6, b7, (bif i.op == 24 then 0 :: 0 :: 0 :: 0 :: pb4 big (i.c % 18446744073709551616 / 4294967296) else []).take ((enc big i).length - k - 8), ?_⟩
      rw [hlen]
      unfold enc
      rw [List.take_append, h8]
      have e1 : ([24, b1, b2, b3, b4, b5, b6, b7] : List Int).take (16 - k) = [24, b1, b2, b3, b4, b5, b6, b7] := List.take_of_length_le (by simp; omega)
      rw [e1]
      rfl
    have hl : r.length < 8 := by
      have h := congrArg List.length hr
      rw [List.length_take, hlen] at h
      simp at h
      omega
    rw [hr] at hs
    refine (Unm25 big X g b1 b2 b3 b4 b5 b6 b7 r W hs hX hgX s E U he.errs h2 h5 hl).mono ?_
    rintro e w' ⟨p, s', rfl, hp, hrow, hB⟩
    exact ⟨⟨p, 0, none⟩, rfl, fun h => by have := hs.lt; rw [← h] at hE; simp at hE; omega, ⟨_, _, hrow⟩, hB⟩
set_option maxHeartbeats 2000000 in
theorem appI_bad (big : Bool) (l : List Ins) (tail : List Int) (g : Nat) (w : World) (E U : Addr) (s : ByteArray) (hs : SrcAt w g (encs big l ++ tail)) (hk : ∀ i ∈ l, OkF i ∧ -9223372036854775808 ≤ i.c ∧ i.c ≤ 9223372036854775807) (hn : l.length ≤ 1000)
    (he : EofIn w E U) (h2 : 2 < g) (h5 : 5 < g) (hE : E.block < g) (hU : U.block < g)
    (hT : ∀ (X : Nat) (W : World), SrcAt W g tail → rowX W X → g < X → EofIn W E U → Calls Tryd.prog 35 #[.pointer (some ⟨X, 0, none⟩), .iface 56 (.pointer (some ⟨g, 0, none⟩)), ordV big, .string s] W (BadEnd E g W)) :
    Calls Tryd.prog 48 #[.slice none 0 0, .iface 56 (.pointer (some ⟨g, 0, none⟩)), ordV big, .string s] w (AppBad g w) := by
  have hlt := hs.lt
  obtain ⟨i0, hi0, hz0, hz1, hz2⟩ := info_parts instr_info
  have K := Lib.hid hk
  have HT := Lib.hid hT
  have HE0 := Lib.hid he
  have HS0 := Lib.hid hs
  have hs1 := Lib.hid hz1
  have hs2 := Lib.hid hz2
  have hs0 := Lib.hid hi0
  have hsz := Lib.hid hz0
  clear hk hT he hs hi0 hz0 hz1 hz2
  go_enter Tryd.func48, Tryd.ntmps48
  go_wp2
  go_loopw [0, 10] (fun v off wr => ∃ (k : Nat) (q : Int), k ≤ l.length ∧ off = .int .u64 q ∧ BuiltN wr (g + 1) v (l.take k) ∧ SrcAt wr g (encs big (l.drop k) ++ tail) ∧ EofIn wr E U ∧ ∀ C, C ≤ g → Below C w wr) (fun v _ _ => l.length + 1 - lenOf v)
  case atStart => exact ⟨0, 0, Nat.zero_le _, rfl, ⟨by simp [cellsAll], .inl ⟨rfl, rfl⟩⟩, HS0.out, HE0.out, fun C _ => Below.refl _ _⟩
  case round =>
    obtain ⟨k, q, hk, rfl, hbn, hsrc, heo, hbel⟩ := hrel
    obtain ⟨A1, n1, c1, rfl, hn1⟩ := hbn.slice
    have hn1' : n1 = k := by rw [hn1, List.length_take]; omega
    subst hn1'
    have hbX := (Below.refl wr.heap.size wr).alloc (Nat.le_refl _) (.cells #[.int .u32 0, .int .u8 0, .int .u8 0, .int .i16 0, .int .i64 0, .pointer none] 65)
    have hrX := heap_alloc_new wr (.cells #[.int .u32 0, .int .u8 0, .int .u8 0, .int .i16 0, .int .i64 0, .pointer none] 65)
    have hgw := hsrc.lt
    clear hn1
    by_cases hk' : n1 < l.length
    · obtain ⟨i, hi⟩ : ∃ i, i = l[n1] := ⟨_, rfl⟩
      obtain ⟨hok, hcb⟩ := K.out i (by rw [hi]; exact List.getElem_mem _)
      have hdr : encs big (l.drop n1) ++ tail = enc big i ++ (encs big (l.drop (n1 + 1)) ++ tail) := by
        unfold encs
        rw [List.drop_eq_getElem_cons hk', List.flatMap_cons, hi, List.append_assoc]
      have htk : l.take (n1 + 1) = l.take n1 ++ [i] := by rw [List.take_succ_eq_append_getElem hk', hi]
      rw [hdr] at hsrc
      have HU := Lib.hid (unm_enc big i hok hcb wr.heap.size g (encs big (l.drop (n1 + 1)) ++ tail) _ s (hsrc.keep hbX hgw) hrX hgw)
      have HTK := Lib.hid htk
      have HBN := Lib.hid hbn
      have HEO := Lib.hid heo
      have HBEL := Lib.hid hbel
      have HBX := Lib.hid hbX
      clear hi hok hcb hdr htk hbn hsrc heo hbel hbX hrX
      go_wp2_with fail
      refine HU.out.mono ?_
      rintro e w2 ⟨rfl, hend⟩
      have hBC : ∀ C, C ≤ g → Below C wr w2 := fun C hC => (HBX.out.mono (by omega)).trans (hend.fr.below C hC (by omega))
      have heo2 := HEO.out.keep (hBC g (Nat.le_refl _)) h2 h5 hE hU
      have hbn2 := own_fr HBN.out HBX.out hend.fr (Nat.lt_succ_self g) (Nat.le_refl _)
      have hbl2 : ∀ C, C ≤ g → Below C w w2 := fun C hC => (HBEL.out C hC).trans (hBC C hC)
      have hxl := lt_of_blk hend.x
      obtain ⟨x0, x1, x2, x3, x4, x5, -⟩ := cells6u hend.x
      have hcE := heo2.errs.eof
      have hsz2 := hend.fr.size
      have HX2 := Lib.hid hend.x
      have HS2 := Lib.hid hend.src
      have HEO2 := Lib.hid heo2
      have HBN2 := Lib.hid hbn2
      have HBL2 := Lib.hid hbl2
      have hown1 := HBN.out.lt
      have HL1 := Lib.hid hown1
      clear hend hBC heo2 hbn2 hbl2 HU HBX hown1
      go_wp2_with fail
      refine (is_nil E _).mono ?_
      rintro e wx ⟨rfl, rfl⟩
      have hlk : (l.take n1).length = n1 := by rw [List.length_take]; omega
      have LK := Lib.hid hlk
      clear hlk
      go_wp2_with (first | (at_builtin; go_loud (refine wpList_append_own _ rfl (.tmp 23) (.tmp 25) 76 rfl (g + 1) 65 i0 (.agg #[.int .u32 0, .int .u8 0, .int .u8 0, .int .i16 0, .int .i64 0, .pointer none]) 6 24 Tryd.underlying76 hs0.out hsz.out hs1.out hs2.out rfl (by decide) _ _ _ rfl (HBN2.out.alloc _) ⟨w2.heap.size, 0, none⟩ 1 1 (InstrCells i none) rfl rfl ?c1 (instrCells_one i none) ?c3 ?c4 ?c5 ?_)))
      case c1 =>
        intro j u hj
        simp only [InstrCells] at hj
        have hh := heap_alloc_new w2 (.cells #[.int .u32 i.op, .int .u8 i.dst, .int .u8 i.src, .int .i16 i.off, .int .i64 i.c, .pointer none] 65)
        have hadd : (⟨w2.heap.size, 0, none⟩ : Addr).add j = ⟨w2.heap.size, j, none⟩ := by unfold Addr.add; split <;> simp_all
        rw [hadd, cell_of_row _ _ _ _ _ _ hh]
        simpa using hj
      case c3 => rw [LK.out]; unfold maxLen; omega
      case c4 => rw [LK.out]; omega
      case c5 => simp; omega
      intro v3 w3 hown3 hg3 _
      have hbn3 : BuiltN w3 (g + 1) v3 (l.take (n1 + 1)) := by
        rw [HTK.out]
        unfold BuiltN
        rw [List.length_append, List.length_singleton, replicate_snoc, cellsAll_snoc _ _ (by simp), LK.out]
        exact hown3
      have hxX : w3.heap[wr.heap.size]? = some (.cells #[.int .u32 i.op, .int .u8 i.dst, .int .u8 i.src, .int .i16 i.off, .int .i64 i.c, .pointer none] 65 (0, 0)) := by
        refine (hg3.block wr.heap.size (by simp; omega) (fun e => ?_)).trans ?_
        · have := (HL1.out _ e.symm).2
          omega
        · rw [Below.heap_alloc _ _ _ (by omega)]
          exact HX2.out
      have hb3 : Below (g + 1) w2 w3 := ((Below.refl _ _).alloc (by omega) _).grown hg3 (by simp; omega) (fun b hb => (HBN2.out.lt b hb).1)
      have heo3 := HEO2.out.keep (hb3.mono (Nat.le_succ g)) h2 h5 hE hU
      have hs3 := HS2.out.keep hb3 (Nat.lt_succ_self g)
      have hbl3 : ∀ C, C ≤ g → Below C w w3 := fun C hC => (HBL2.out C hC).trans (hb3.mono (by omega))
      obtain ⟨A3, n3, c3, rfl, hn3⟩ := hbn3.slice
      have hn3' : n3 = n1 + 1 := by rw [hn3, List.length_take]; omega
      subst hn3'
      clear x0 x1 x2 x3 x4 x5 hcE
      obtain ⟨x0, x1, x2, x3, x4, x5, -⟩ := cells6u hxX
      have HBN3 := Lib.hid hbn3
      have HEO3 := Lib.hid heo3
      have HS3 := Lib.hid hs3
      have HBL3 := Lib.hid hbl3
      have hsz3 := hb3.size
      have hgl3 := hs3.lt
      clear hown3 hg3 hbn3 hxX hb3 heo3 hs3 hbl3 hn3 HBN HEO HBEL HX2 HS2 HEO2 HBN2 HBL2 HL1
      go_wp2_with fail
      refine (ISize_c i.op i.dst i.src i.off i.c none _).mono ?_
      rintro e w4 ⟨rfl, hb4⟩
      have HBN4 := Lib.hid (own_below HBN3.out hb4)
      have HEO4 := Lib.hid (HEO3.out.keep (hb4.mono (Nat.le_of_lt hgl3)) h2 h5 hE hU)
      have HS4 := Lib.hid (HS3.out.keep hb4 hgl3)
      have HBL4 := Lib.hid (fun C (hC : C ≤ g) => (HBL3.out C hC).trans (hb4.mono (by omega)))
      clear HBN3 HEO3 HS3 HBL3 hb4
      go_wp2
      go_roundw
      case rel => exact ⟨n1 + 1, _, by omega, rfl, HBN4.out, HS4.out, HEO4.out, HBL4.out⟩
      case measure => simp [lenOf]; omega
    · have hkn : n1 = l.length := by omega
      have hdr : encs big (l.drop n1) ++ tail = tail := by rw [hkn, List.drop_length]; rfl
      rw [hdr] at hsrc
      have HU := Lib.hid (HT.out wr.heap.size _ (hsrc.keep hbX hgw) hrX hgw (heo.keep hbX (by omega) (by omega) (by omega) (by omega)))
      have HEO := Lib.hid heo
      have HBEL := Lib.hid hbel
      have HBX := Lib.hid hbX
      clear hkn hdr hbn hsrc heo hbel hbX hrX
      go_wp2_with fail
      refine HU.out.mono ?_
      rintro e w2 ⟨p, rfl, hne, ⟨cp, tp, hp⟩, hbC⟩
      have hBC : ∀ C, C ≤ g → Below C wr w2 := fun C hC => (HBX.out.mono (by omega)).trans (hbC C hC)
      have heo2 := HEO.out.keep (hBC g (Nat.le_refl _)) h2 h5 hE hU
      have hcE := heo2.errs.eof
      obtain ⟨cE, tE, hEb⟩ := heo2.e
      have HI := Lib.hid (is_other p E cp cE tp tE w2 hne hp hEb)
      have HBL2 := Lib.hid (fun C (hC : C ≤ g) => (HBEL.out C hC).trans (hBC C hC))
      clear hbC hBC heo2 hEb hp HU HEO HBEL HBX
      go_wp2_with fail
      refine HI.out.mono ?_
      rintro e wx ⟨rfl, rfl⟩
      go_wp2
      go_ret2
      exact ⟨p, rfl, HBL2.out⟩
end Go.Proofs.YtakigeichhngbaaDoor
namespace Go.Proofs.YtakigeichhngbaaDoor
open Go.RowKit
set_option linter.unusedVariables false
set_option linter.unusedSimpArgs false

theorem ins_info : (Tryd.prog.info? 24).map (fun i => (i.zero, i.size, i.bytes)) = some (some (.agg #[.int .i64 0, .int .i64 0, .int .i64 0, .int .i64 0, .int .i64 0, .string ⟨#[]⟩, .string ⟨#[]⟩]), 7, 72) := by kernel_rfl
/-- an instruction, as tell hands it back -/
def Ins.back (i : Ins) : Ins := { i with sym := symOf i.metas, ref := refOf i.metas }
def TCells (i : Ins) : List Value := [.int .i64 i.op, .int .i64 i.dst, .int .i64 i.src, .int .i64 i.off, .int .i64 i.c, .string i.sym, .string i.ref]
def tcells (l : List Ins) : List Value := l.flatMap TCells
theorem tcells_snoc (l : List Ins) (i : Ins) : tcells (l ++ [i]) = tcells l ++ TCells i := by simp [tcells]
theorem tcells_one (i : Ins) : ∀ u ∈ TCells i, u.oneCell' = true := by
  intro u hu
  simp only [TCells, List.mem_cons, List.not_mem_nil, or_false] at hu
  rcases hu with rfl | rfl | rfl | rfl | rfl | rfl | rfl <;> rfl
/-- a slice of instructions as data, of the call's own -/
def OwnI (w : World) (B : Nat) (v : Value) (l : List Ins) : Prop := w.ownsRow B 24 7 v l.length (tcells l)
theorem OwnI.slice {w : World} {B : Nat} {v : Value} {l : List Ins} (h : OwnI w B v l) : ∃ A n c, v = .slice A n c ∧ n = l.length := by
  rcases h.2 with ⟨rfl, h0⟩ | ⟨g, cap, cur, rfl, _⟩
  · exact ⟨_, _, _, rfl, h0.symm⟩
  · exact ⟨_, _, _, rfl, rfl⟩
def TellEnd (w : World) (l : List Ins) (e : Ending) (w' : World) : Prop := ∃ v, e = .returned v ∧ OwnI w' w.heap.size v (l.map Ins.back) ∧ Below w.heap.size w w'
theorem metas_len (i : Ins) : i.metas.length ≤ 2 := by
  unfold Ins.metas
  cases i.ref.toList.isEmpty <;> cases i.sym.toList.isEmpty <;> simp
set_option maxHeartbeats 1000000 in
theorem tell_c (v : Value) (l : List Ins) (B : Nat) (w : World) (h : Built w B v l) (hn : l.length ≤ 1000) (hF : ∀ i ∈ l, i.Fits) :
    Calls Tryd.prog 44 #[v] w (TellEnd w l) := by
  rcases Nat.eq_zero_or_pos l.length with h0 | h0
  · have : l = [] := List.eq_nil_of_length_eq_zero h0
    subst this
    obtain ⟨ps, hps, ho, _⟩ := h
    obtain ⟨a, c, rfl⟩ : ∃ a c, v = .slice a 0 c := by
      rcases ho.2 with ⟨rfl, _⟩ | ⟨g, cap, cur, rfl, _⟩
      · exact ⟨_, _, rfl⟩
      · exact ⟨_, _, rfl⟩
    clear ho
    go_enter Tryd.func44, Tryd.ntmps44
    go_wp2
    go_rounds 1
    go_ret
    exact ⟨_, rfl, ⟨rfl, .inl ⟨rfl, rfl⟩⟩, Below.refl _ _⟩
  · obtain ⟨g, cap, rfl, hc, hB, ⟨cur, hcur⟩, hi⟩ := h.opened h0
    have hg := lt_of_heap hcur
    obtain ⟨i0, hi0, hz0, hz1, hz2⟩ := info_parts ins_info
    have C := Lib.hid hi
    have F := Lib.hid hF
    obtain ⟨n, hln⟩ : ∃ n, n = l.length := ⟨_, rfl⟩
    rw [← hln] at hn h0 hc ⊢
    have L := Lib.hid hln
    have S := Lib.hid hz0
    have S1 := Lib.hid hz1
    have S2 := Lib.hid hz2
    have S0 := Lib.hid hi0
    clear hi h hcur hln hF hz0 hz1 hz2 hi0
    go_enter Tryd.func44, Tryd.ntmps44
    go_wp2
    go_loopw [3, 8] (fun v i wr => ∃ k : Nat, k ≤ n ∧ i = .int .i64 k ∧ OwnI wr w.heap.size v ((l.take k).map Ins.back) ∧ Below w.heap.size w wr) (fun _ i _ => n - (intOf i).toNat)
    case atStart => exact ⟨0, Nat.zero_le _, rfl, ⟨by simp [tcells], .inl ⟨rfl, by simp⟩⟩, Below.refl _ _⟩
    case round =>
      obtain ⟨k, hk, rfl, hown, hb⟩ := hrel
      by_cases hk' : k < n
      · have hkl : k < l.length := by rw [← L.out]; exact hk'
        obtain ⟨i, hi⟩ : ∃ i, i = l[k] := ⟨_, rfl⟩
        obtain ⟨p, hat, hml⟩ := C.out k hkl
        rw [← hi] at hat hml
        have hfit : i.Fits := by rw [hi]; exact F.out _ (List.getElem_mem _)
        obtain ⟨c0, c1, c2, c3, c4, c5⟩ := hat.keep (hb.mono (Nat.le_refl _)) hg
        have hml2 := hml.keep hb
        have htk : (l.take (k + 1)).map Ins.back = (l.take k).map Ins.back ++ [i.back] := by
          rw [List.take_succ_eq_append_getElem hkl, List.map_append, hi]
          rfl
        have hlk : ((l.take k).map Ins.back).length = k := by rw [List.length_map, List.length_take]; omega
        generalize (l.take k).map Ins.back = pre at hown htk hlk
        have HML := Lib.hid hml2
        have HF := Lib.hid hfit
        have HTK := Lib.hid htk
        have HOWN := Lib.hid hown
        have LK := Lib.hid hlk
        obtain ⟨A1, n1, k1, rfl, -⟩ := hown.slice
        clear hi hat hml hml2 hfit htk hown hlk
        have hg2 : g < wr.heap.size := Nat.lt_of_lt_of_le hg hb.size
        have hz := hb.size
        go_wp2_with fail
        refine (told_c i.op i.dst i.src i.off i.c p i.metas _ (HML.out.keep ((Below.refl _ _).alloc (Nat.le_refl _) _)) (metas_len i) HF.out).mono ?_
        rintro e w2 ⟨rfl, hb2⟩
        have hB2 : Below wr.heap.size wr w2 := ((Below.refl _ _).alloc (Nat.le_refl _) _).trans (hb2.mono (by simp))
        have HO2 := Lib.hid (own_below HOWN.out hB2)
        have HB2 := Lib.hid hB2
        have hz2' := hB2.size
        clear hb2 hB2 HOWN HML
        go_wp2_with (first | (at_builtin; go_loud (refine wpList_append_own _ rfl (.tmp 12) (.tmp 15) 31 rfl w.heap.size 24 i0 (.agg #[.int .i64 0, .int .i64 0, .int .i64 0, .int .i64 0, .int .i64 0, .string ⟨#[]⟩, .string ⟨#[]⟩]) 7 72 Tryd.underlying31 S0.out S.out S1.out S2.out rfl (by decide) _ _ _ rfl (HO2.out.alloc _) ⟨w2.heap.size, 0, none⟩ 1 1 (TCells i.back) rfl rfl ?c1 (tcells_one i.back) ?c3 ?c4 ?c5 ?_)))
        case c1 =>
          intro j u hj
          simp only [TCells, Ins.back] at hj
          have hh := heap_alloc_new w2 (.cells #[.int .i64 i.op, .int .i64 i.dst, .int .i64 i.src, .int .i64 i.off, .int .i64 i.c, .string (symOf i.metas), .string (refOf i.metas)] 24)
          have hadd : (⟨w2.heap.size, 0, none⟩ : Addr).add j = ⟨w2.heap.size, j, none⟩ := by unfold Addr.add; split <;> simp_all
          rw [hadd, cell_of_row _ _ _ _ _ _ hh]
          simpa using hj
        case c3 => rw [LK.out]; unfold maxLen; omega
        case c4 => rw [LK.out]; omega
        case c5 => simp; omega
        intro v3 w3 hown3 hg3 _
        have hb3 : Below w.heap.size w w3 := ((hb.trans (HB2.out.mono hb.size)).alloc (by omega) _).grown hg3 (by simp; omega) (fun b hb => (World.ownsRow.lt HO2.out b hb).1)
        have ho3 : OwnI w3 w.heap.size v3 ((l.take (k + 1)).map Ins.back) := by
          rw [HTK.out]
          unfold OwnI
          rw [List.length_append, List.length_singleton, tcells_snoc]
          exact hown3
        have HO3 := Lib.hid ho3
        clear hown3 hg3 ho3 HO2 HB2 HTK
        go_wp2
        go_roundw
        case rel => exact ⟨k + 1, by omega, by go_num, HO3.out, hb3⟩
        case measure => simp [intOf]; omega
      · have hall : l.take k = l := List.take_of_length_le (by rw [← L.out]; omega)
        rw [hall] at hown
        have HO := Lib.hid hown
        clear hall hown
        go_wp2
        go_ret
        exact ⟨_, rfl, HO.out, hb⟩
end Go.Proofs.YtakigeichhngbaaDoor
