import Derived.Test.YtakigeichhngbaaDoorAppI
import Derived.Test.YtakigeichhngbaaDoorOneW
namespace Go.Proofs.YtakigeichhngbaaDoor
open Go.RowKit
set_option linter.unusedVariables false
set_option linter.unusedSimpArgs false

theorem Ins.ok_metas {i : Ins} (h : OkF i) : i.metas = [] ∧ i.back = i := by
  obtain ⟨op, dst, src, off, c, sym, ref⟩ := i
  have hs := h.sym
  have hr := h.ref
  simp only at hs hr
  subst hs
  subst hr
  have hm : (⟨op, dst, src, off, c, ⟨#[]⟩, ⟨#[]⟩⟩ : Ins).metas = [] := by
    have e : (⟨#[]⟩ : ByteArray).toList.isEmpty = true := by rw [ByteArray.toList_eq]; rfl
    simp only [Ins.metas, e, cond_true, List.append_nil]
  refine ⟨hm, ?_⟩
  unfold Ins.back
  rw [hm]
  rfl
theorem back_map {l : List Ins} (h : ∀ i ∈ l, OkF i) : l.map Ins.back = l := by
  induction l with
  | nil => rfl
  | cons i l ih =>
    rw [List.map_cons, (Ins.ok_metas (h i (by simp))).2, ih fun j hj => h j (by simp [hj])]
theorem OkF.fits {i : Ins} (h : OkF i) : i.Fits := by
  obtain ⟨⟨a, b⟩, ⟨c, d⟩, ⟨e, f⟩, ⟨g, k⟩, -, -, -, -⟩ := h
  exact ⟨⟨a, by omega⟩, ⟨c, by omega⟩, ⟨e, by omega⟩, g, k⟩
theorem SrcAt.made2 {w : World} {base n : Nat} {v : Value} {bs : List Int} (h : w.ownsRow base 5 1 v n (u8s bs)) (hn : bs.length = n) (hb : ∀ b ∈ bs, isByte b) : SrcAt (w.alloc (.cells #[v] 58)) w.heap.size bs := SrcAt.made h hn hb
def UnmOk (w : World) (l : List Ins) (e : Ending) (w' : World) : Prop := ∃ v, e = .returned (.tuple #[v, .bool true]) ∧ OwnI w' w.heap.size v l ∧ Below w.heap.size w w'
set_option maxRecDepth 100000 in
set_option maxHeartbeats 2000000 in
theorem UnmI_ok (big : Bool) (A : Option Addr) (n cap : Nat) (l : List Ins) (w : World) (E U : Addr) (h : BytesAt w A (encs big l)) (hn : (encs big l).length = n) (hk : ∀ i ∈ l, OkF i ∧ -9223372036854775808 ≤ i.c ∧ i.c ≤ 9223372036854775807) (hl : l.length ≤ 1000)
    (he : EofIn w E U) (hg2 : 2 < w.heap.size) (hg5 : 5 < w.heap.size) (hE : E.block < w.heap.size) (hUb : U.block < w.heap.size) :
    Calls Tryd.prog 19 #[.slice A n cap, .bool big] w (UnmOk w l) := by
  obtain ⟨i0, hi0, hz0, hz1, hz2⟩ := info_parts u8_info
  have hle := encs_len_le big l
  have n16 : n ≤ 16000 := by omega
  have hr := h.reads
  rw [hn] at hr
  have HR := Lib.hid hr
  have HY := Lib.hid h.1
  have HN := Lib.hid hn
  have HK := Lib.hid hk
  have HE := Lib.hid he
  clear h hn hr hk he hle
  go_enter Tryd.func19, Tryd.ntmps19
  go_wp2_with (first
    | (at_builtin
       go_loud (refine wpList_append_any _ rfl (.const (.slice none 0 0)) (.tmp 9) _ rfl w.heap.size 5 i0 _ 1 1 Tryd.underlying22 hi0 hz0 hz1 hz2 rfl (by omega) (.slice none 0 0) 0 [] rfl ⟨by simp, .inl ⟨rfl, rfl⟩⟩ w.heap.size A n cap (u8s (encs big l)) rfl HR.out (oneCell_u8s _) (by simp only [maxLen]; omega) (by omega) (Nat.le_refl _) ?_)
       intro v1 w1 hown1 hg1 _
       rw [Nat.zero_add, List.nil_append] at hown1
       obtain ⟨A1, k1, rfl⟩ := own_slice hown1
       have hb1 : Below w.heap.size w w1 := (Below.refl _ _).grown hg1 (Nat.le_refl _) (by simp [Value.ownBlock])
       have HO := Lib.hid hown1
       clear hown1 hg1)
    | (go_at_call 36; ((with_reducible refine (ZZOrder_c _ _).mono ?_); rintro e w' ⟨rfl, rfl⟩)))
  have hs1 := SrcAt.made HO.out HN.out HY.out
  have hz1' := hb1.size
  have hbb : Below w.heap.size w (w1.alloc (.cells #[.slice A1 n k1] 58)) := hb1.alloc hb1.size _
  have HU := Lib.hid (appI_ok big l w1.heap.size _ E U ⟨#[108, 105, 110, 117, 120]⟩ hs1 HK.out hl (HE.out.keep hbb hg2 hg5 hE hUb) (by omega) (by omega) (by omega) (by omega))
  refine HU.out.mono ?_
  rintro e w2 ⟨v2, rfl, hbn, hbel⟩
  have hbu := hbn.built fun i hi => (Ins.ok_metas (HK.out i hi).1).1
  have hb2 : Below w.heap.size w w2 := hbb.trans ((hbel w1.heap.size (Nat.le_refl _)).mono hz1')
  obtain ⟨A2, n2, k2, rfl, -⟩ := hbn.slice
  have HT := Lib.hid (tell_c _ l _ w2 hbu hl fun i hi => (HK.out i hi).1.fits)
  have HB2 := Lib.hid hb2
  clear hs1 hbb HU hbn hbel hbu hb2 hb1 HO HR HY
  go_wp2_with fail
  refine HT.out.mono ?_
  rintro e w3 ⟨v3, rfl, ho3, hb3⟩
  rw [back_map fun i hi => (HK.out i hi).1] at ho3
  have hfin : OwnI w3 w.heap.size v3 l := by
    refine ⟨ho3.1, ?_⟩
    rcases ho3.2 with h0 | ⟨b, cp, cur, e, hb, hr⟩
    · exact .inl h0
    · exact .inr ⟨b, cp, cur, e, Nat.le_trans HB2.out.size hb, hr⟩
  have HF := Lib.hid hfin
  have HB3 := Lib.hid (HB2.out.trans (hb3.mono HB2.out.size))
  obtain ⟨A3, n3, k3, rfl, -⟩ := ho3.slice
  clear ho3 hb3 hfin
  go_wp2
  go_ret2
  exact ⟨_, rfl, HF.out, HB3.out⟩
end Go.Proofs.YtakigeichhngbaaDoor
namespace Go.Proofs.YtakigeichhngbaaDoor
open Go.RowKit
set_option linter.unusedVariables false
set_option linter.unusedSimpArgs false
set_option maxRecDepth 100000 in
set_option maxHeartbeats 2000000 in
theorem UnmI_bad (big : Bool) (A : Option Addr) (n cap : Nat) (l : List Ins) (tail : List Int) (w : World) (E U : Addr) (h : BytesAt w A (encs big l ++ tail)) (hn : (encs big l ++ tail).length = n) (hn2 : n ≤ 16000) (hk : ∀ i ∈ l, OkF i ∧ -9223372036854775808 ≤ i.c ∧ i.c ≤ 9223372036854775807) (hl : l.length ≤ 1000)
    (he : EofIn w E U) (hg2 : 2 < w.heap.size) (hg5 : 5 < w.heap.size) (hE : E.block < w.heap.size) (hUb : U.block < w.heap.size)
    (hT : ∀ (g X : Nat) (W : World) (s : ByteArray), w.heap.size ≤ g → SrcAt W g tail → rowX W X → g < X → EofIn W E U → Calls Tryd.prog 35 #[.pointer (some ⟨X, 0, none⟩), .iface 56 (.pointer (some ⟨g, 0, none⟩)), ordV big, .string s] W (BadEnd E g W)) :
    Calls Tryd.prog 19 #[.slice A n cap, .bool big] w fun e w' => e = .returned (.tuple #[.slice none 0 0, .bool false]) ∧ Below w.heap.size w w' := by
  obtain ⟨i0, hi0, hz0, hz1, hz2⟩ := info_parts u8_info
  have hr := h.reads
  rw [hn] at hr
  have HR := Lib.hid hr
  have HY := Lib.hid h.1
  have HN := Lib.hid hn
  have HK := Lib.hid hk
  have HE := Lib.hid he
  have HT := Lib.hid hT
  clear h hn hr hk he hT
  go_enter Tryd.func19, Tryd.ntmps19
  go_wp2_with (first
    | (at_builtin
       go_loud (refine wpList_append_any _ rfl (.const (.slice none 0 0)) (.tmp 9) _ rfl w.heap.size 5 i0 _ 1 1 Tryd.underlying22 hi0 hz0 hz1 hz2 rfl (by omega) (.slice none 0 0) 0 [] rfl ⟨by simp, .inl ⟨rfl, rfl⟩⟩ w.heap.size A n cap (u8s (encs big l ++ tail)) rfl HR.out (oneCell_u8s _) (by simp only [maxLen]; omega) (by omega) (Nat.le_refl _) ?_)
       intro v1 w1 hown1 hg1 _
       rw [Nat.zero_add, List.nil_append] at hown1
       obtain ⟨A1, k1, rfl⟩ := own_slice hown1
       have hb1 : Below w.heap.size w w1 := (Below.refl _ _).grown hg1 (Nat.le_refl _) (by simp [Value.ownBlock])
       have HO := Lib.hid hown1
       clear hown1 hg1)
    | (go_at_call 36; ((with_reducible refine (ZZOrder_c _ _).mono ?_); rintro e w' ⟨rfl, rfl⟩)))
  have hs1 := SrcAt.made HO.out HN.out HY.out
  have hz1' := hb1.size
  have hbb : Below w.heap.size w (w1.alloc (.cells #[.slice A1 n k1] 58)) := hb1.alloc hb1.size _
  have HU := Lib.hid (appI_bad big l tail w1.heap.size _ E U ⟨#[108, 105, 110, 117, 120]⟩ hs1 HK.out hl (HE.out.keep hbb hg2 hg5 hE hUb) (by omega) (by omega) (by omega) (by omega) fun X W h1 h2 h3 h4 => HT.out _ X W _ hz1' h1 h2 h3 h4)
  refine HU.out.mono ?_
  rintro e w2 ⟨p, rfl, hbel⟩
  have hb2 : Below w.heap.size w w2 := hbb.trans ((hbel w1.heap.size (Nat.le_refl _)).mono hz1')
  have HB2 := Lib.hid hb2
  clear hs1 hbb HU hbel hb2 hb1 HO HR HY HT
  go_wp2
  go_ret2
  exact ⟨rfl, HB2.out⟩
end Go.Proofs.YtakigeichhngbaaDoor
