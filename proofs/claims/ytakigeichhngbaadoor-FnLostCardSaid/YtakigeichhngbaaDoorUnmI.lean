import Derived.Test.YtakigeichhngbaaDoorAppI
import Derived.Test.YtakigeichhngbaaDoorOneW
import Derived.Test.YtakigeichhngbaaDoorOkProg
import Derived.Laws.StructEq
namespace Go.Proofs.YtakigeichhngbaaDoor
open Go.RowKit
set_option linter.unusedVariables false
set_option linter.unusedSimpArgs false

theorem Ins.ok_metas {i : Ins} (h : OkF i) : i.metas = [] ∧ i.back = i := by
  obtain ⟨op, dst, src, off, c, sym, ref⟩ := i
  have hs := h.sym
  have hr := h.ref
  simp only at hs hr
  subst hs
  subst hr
  have hm : (⟨op, dst, src, off, c, ⟨#[]⟩, ⟨#[]⟩⟩ : Ins).metas = [] := by
    have e : (⟨#[]⟩ : ByteArray).toList.isEmpty = true := by rw [ByteArray.toList_eq]; rfl
    simp only [Ins.metas, e, cond_true, List.append_nil]
  refine ⟨hm, ?_⟩
  unfold Ins.back
  rw [hm]
  rfl
theorem back_map {l : List Ins} (h : ∀ i ∈ l, OkF i) : l.map Ins.back = l := by
  induction l with
  | nil => rfl
  | cons i l ih =>
    rw [List.map_cons, (Ins.ok_metas (h i (by simp))).2, ih fun j hj => h j (by simp [hj])]
theorem OkF.fits {i : Ins} (h : OkF i) : i.Fits := by
  obtain ⟨⟨⟨a, b⟩, ⟨c, d⟩, ⟨e, f⟩, ⟨g, k⟩, -, -⟩, -, -⟩ := h
  exact ⟨⟨a, by omega⟩, ⟨c, by omega⟩, ⟨e, by omega⟩, g, k⟩
theorem SrcAt.made2 {w : World} {base n : Nat} {v : Value} {bs : List Int} (h : w.ownsRow base 5 1 v n (u8s bs)) (hn : bs.length = n) (hb : ∀ b ∈ bs, isByte b) : SrcAt (w.alloc (.cells #[v] 58)) w.heap.size bs := SrcAt.made h hn hb
def UnmOk (w : World) (l : List Ins) (e : Ending) (w' : World) : Prop := ∃ v, e = .returned (.tuple #[v, .bool true]) ∧ OwnI w' w.heap.size v l ∧ Below w.heap.size w w'
set_option maxRecDepth 100000 in
set_option maxHeartbeats 2000000 in
theorem UnmI_ok (big : Bool) (A : Option Addr) (n cap : Nat) (l : List Ins) (w : World) (E U : Addr) (h : BytesAt w A (encs big l)) (hn : (encs big l).length = n) (hk : ∀ i ∈ l, OkF i ∧ -9223372036854775808 ≤ i.c ∧ i.c ≤ 9223372036854775807) (hl : l.length ≤ 1000)
    (he : EofIn w E U) (hg2 : 2 < w.heap.size) (hg5 : 5 < w.heap.size) (hE : E.block < w.heap.size) (hUb : U.block < w.heap.size) :
    Calls Tryd.prog 19 #[.slice A n cap, .bool big] w (UnmOk w l) := by
  obtain ⟨i0, hi0, hz0, hz1, hz2⟩ := info_parts u8_info
  have hle := encs_len_le big l
  have n16 : n ≤ 16000 := by omega
  have hr := h.reads
  rw [hn] at hr
  have HR := Lib.hid hr
  have HY := Lib.hid h.1
  have HN := Lib.hid hn
  have HK := Lib.hid hk
  have HE := Lib.hid he
  clear h hn hr hk he hle
  go_enter Tryd.func19, Tryd.ntmps19
  go_wp2_with (first
    | (at_builtin
       go_loud (refine wpList_append_any _ rfl (.const (.slice none 0 0)) (.tmp 9) _ rfl w.heap.size 5 i0 _ 1 1 Tryd.underlying22 hi0 hz0 hz1 hz2 rfl (by omega) (.slice none 0 0) 0 [] rfl ⟨by simp, .inl ⟨rfl, rfl⟩⟩ w.heap.size A n cap (u8s (encs big l)) rfl HR.out (oneCell_u8s _) (by simp only [maxLen]; omega) (by omega) (Nat.le_refl _) ?_)
       intro v1 w1 hown1 hg1 _
       rw [Nat.zero_add, List.nil_append] at hown1
       obtain ⟨A1, k1, rfl⟩ := own_slice hown1
       have hb1 : Below w.heap.size w w1 := (Below.refl _ _).grown hg1 (Nat.le_refl _) (by simp [Value.ownBlock])
       have HO := Lib.hid hown1
       clear hown1 hg1)
    | (go_at_call 36; ((with_reducible refine (ZZOrder_c _ _).mono ?_); rintro e w' ⟨rfl, rfl⟩)))
  have hs1 := SrcAt.made HO.out HN.out HY.out
  have hz1' := hb1.size
  have hbb : Below w.heap.size w (w1.alloc (.cells #[.slice A1 n k1] 58)) := hb1.alloc hb1.size _
  have HU := Lib.hid (appI_ok big l w1.heap.size _ E U ⟨#[108, 105, 110, 117, 120]⟩ hs1 HK.out hl (HE.out.keep hbb hg2 hg5 hE hUb) (by omega) (by omega) (by omega) (by omega))
  refine HU.out.mono ?_
  rintro e w2 ⟨v2, rfl, hbn, hbel⟩
  have hbu := hbn.built fun i hi => (Ins.ok_metas (HK.out i hi).1).1
  have hb2 : Below w.heap.size w w2 := hbb.trans ((hbel w1.heap.size (Nat.le_refl _)).mono hz1')
  obtain ⟨A2, n2, k2, rfl, -⟩ := hbn.slice
  have HT := Lib.hid (tell_c _ l _ w2 hbu hl fun i hi => (HK.out i hi).1.fits)
  have HB2 := Lib.hid hb2
  clear hs1 hbb HU hbn hbel hbu hb2 hb1 HO HR HY
  go_wp2_with fail
  refine HT.out.mono ?_
  rintro e w3 ⟨v3, rfl, ho3, hb3⟩
  rw [back_map fun i hi => (HK.out i hi).1] at ho3
  have hfin : OwnI w3 w.heap.size v3 l := by
    refine ⟨ho3.1, ?_⟩
    rcases ho3.2 with h0 | ⟨b, cp, cur, e, hb, hr⟩
    · exact .inl h0
    · exact .inr ⟨b, cp, cur, e, Nat.le_trans HB2.out.size hb, hr⟩
  have HF := Lib.hid hfin
  have HB3 := Lib.hid (HB2.out.trans (hb3.mono HB2.out.size))
  obtain ⟨A3, n3, k3, rfl, -⟩ := ho3.slice
  clear ho3 hb3 hfin
  go_wp2
  go_ret2
  exact ⟨_, rfl, HF.out, HB3.out⟩
end Go.Proofs.YtakigeichhngbaaDoor
namespace Go.Proofs.YtakigeichhngbaaDoor
open Go.RowKit
set_option linter.unusedVariables false
set_option linter.unusedSimpArgs false
set_option maxRecDepth 100000 in
set_option maxHeartbeats 2000000 in
theorem UnmI_bad (big : Bool) (A : Option Addr) (n cap : Nat) (l : List Ins) (tail : List Int) (w : World) (E U : Addr) (h : BytesAt w A (encs big l ++ tail)) (hn : (encs big l ++ tail).length = n) (hn2 : n ≤ 16000) (hk : ∀ i ∈ l, OkF i ∧ -9223372036854775808 ≤ i.c ∧ i.c ≤ 9223372036854775807) (hl : l.length ≤ 1000)
    (he : EofIn w E U) (hg2 : 2 < w.heap.size) (hg5 : 5 < w.heap.size) (hE : E.block < w.heap.size) (hUb : U.block < w.heap.size)
    (hT : ∀ (g X : Nat) (W : World) (s : ByteArray), w.heap.size ≤ g → SrcAt W g tail → rowX W X → g < X → EofIn W E U → Calls Tryd.prog 35 #[.pointer (some ⟨X, 0, none⟩), .iface 56 (.pointer (some ⟨g, 0, none⟩)), ordV big, .string s] W (BadEnd E g W)) :
    Calls Tryd.prog 19 #[.slice A n cap, .bool big] w fun e w' => e = .returned (.tuple #[.slice none 0 0, .bool false]) ∧ Below w.heap.size w w' := by
  obtain ⟨i0, hi0, hz0, hz1, hz2⟩ := info_parts u8_info
  have hr := h.reads
  rw [hn] at hr
  have HR := Lib.hid hr
  have HY := Lib.hid h.1
  have HN := Lib.hid hn
  have HK := Lib.hid hk
  have HE := Lib.hid he
  have HT := Lib.hid hT
  clear h hn hr hk he hT
  go_enter Tryd.func19, Tryd.ntmps19
  go_wp2_with (first
    | (at_builtin
       go_loud (refine wpList_append_any _ rfl (.const (.slice none 0 0)) (.tmp 9) _ rfl w.heap.size 5 i0 _ 1 1 Tryd.underlying22 hi0 hz0 hz1 hz2 rfl (by omega) (.slice none 0 0) 0 [] rfl ⟨by simp, .inl ⟨rfl, rfl⟩⟩ w.heap.size A n cap (u8s (encs big l ++ tail)) rfl HR.out (oneCell_u8s _) (by simp only [maxLen]; omega) (by omega) (Nat.le_refl _) ?_)
       intro v1 w1 hown1 hg1 _
       rw [Nat.zero_add, List.nil_append] at hown1
       obtain ⟨A1, k1, rfl⟩ := own_slice hown1
       have hb1 : Below w.heap.size w w1 := (Below.refl _ _).grown hg1 (Nat.le_refl _) (by simp [Value.ownBlock])
       have HO := Lib.hid hown1
       clear hown1 hg1)
    | (go_at_call 36; ((with_reducible refine (ZZOrder_c _ _).mono ?_); rintro e w' ⟨rfl, rfl⟩)))
  have hs1 := SrcAt.made HO.out HN.out HY.out
  have hz1' := hb1.size
  have hbb : Below w.heap.size w (w1.alloc (.cells #[.slice A1 n k1] 58)) := hb1.alloc hb1.size _
  have HU := Lib.hid (appI_bad big l tail w1.heap.size _ E U ⟨#[108, 105, 110, 117, 120]⟩ hs1 HK.out hl (HE.out.keep hbb hg2 hg5 hE hUb) (by omega) (by omega) (by omega) (by omega) fun X W h1 h2 h3 h4 => HT.out _ X W _ hz1' h1 h2 h3 h4)
  refine HU.out.mono ?_
  rintro e w2 ⟨p, rfl, hbel⟩
  have hb2 : Below w.heap.size w w2 := hbb.trans ((hbel w1.heap.size (Nat.le_refl _)).mono hz1')
  have HB2 := Lib.hid hb2
  clear hs1 hbb HU hbel hb2 hb1 HO HR HY HT
  go_wp2
  go_ret2
  exact ⟨rfl, HB2.out⟩
end Go.Proofs.YtakigeichhngbaaDoor
namespace Go.Proofs.YtakigeichhngbaaDoor
open Go.RowKit
set_option linter.unusedVariables false
set_option linter.unusedSimpArgs false
def CBd (i : Ins) : Prop := -9223372036854775808 ≤ i.c ∧ i.c ≤ 9223372036854775807
theorem enc_byte (big : Bool) (i : Ins) (h : OkN i) : ∀ b ∈ enc big i, isByte b := by
  have h2 : ∀ x : Int, ∀ b ∈ pb2 big x, isByte b := by
    intro x b hb
    cases big <;> simp [pb2] at hb <;> rcases hb with rfl | rfl <;> exact ⟨by omega, by omega⟩
  have h4 : ∀ x : Int, ∀ b ∈ pb4 big x, isByte b := by
    intro x b hb
    cases big <;> simp [pb4] at hb <;> rcases hb with rfl | rfl | rfl | rfl <;> exact ⟨by omega, by omega⟩
  have hr := (reg_enc big i.dst i.src h.dst.1 h.dst.2 h.src.1 h.src.2).1
  intro b hb
  unfold enc at hb
  rcases List.mem_append.1 hb with hb | hb
  · simp only [enc8, List.mem_cons, List.mem_append] at hb
    rcases hb with rfl | rfl | hb | hb
    · exact ⟨by omega, by omega⟩
    · exact hr
    · exact h2 _ _ hb
    · exact h4 _ _ hb
  · cases h24 : (i.op == 24)
    · rw [h24] at hb; simp at hb
    · rw [h24] at hb
      simp only [cond_true, List.mem_cons] at hb
      rcases hb with rfl | rfl | rfl | rfl | hb
      · exact ⟨by omega, by omega⟩
      · exact ⟨by omega, by omega⟩
      · exact ⟨by omega, by omega⟩
      · exact ⟨by omega, by omega⟩
      · exact h4 _ _ hb
theorem encs_byte (big : Bool) (l : List Ins) (h : ∀ i ∈ l, OkN i) : ∀ b ∈ encs big l, isByte b := by
  intro b hb
  obtain ⟨i, hi, hb⟩ := List.mem_flatMap.1 hb
  exact enc_byte big i (h i hi) b hb
/-- a row of the call's own, as bytes to read -/
theorem OwnB.bytes {w : World} {B : Nat} {A : Option Addr} {n c : Nat} {bs : List Int} (h : OwnB w B (.slice A n c) bs) (hb : ∀ b ∈ bs, isByte b) (m : Nat) (hm : m ≤ bs.length) : BytesAt w A (bs.take m) ∧ n = bs.length ∧ n ≤ c := by
  have hb' : ∀ b ∈ bs.take m, isByte b := fun b hm => hb b (List.mem_of_mem_take hm)
  rcases h.2 with ⟨e, h0⟩ | ⟨g, cap, cur, e, hg, hh, hc, _⟩
  · injection e with e1 e2 e3
    have hnil : bs = [] := List.eq_nil_of_length_eq_zero h0
    subst hnil
    exact ⟨⟨hb', .inl (by simp)⟩, by rw [e2]; rfl, by omega⟩
  · injection e with e1 e2 e3
    subst e1 e2 e3
    refine ⟨⟨hb', .inr ⟨g, 0, rfl, lt_of_blk hh, fun j v hj => ?_⟩⟩, rfl, hc⟩
    have hj2 : (u8s bs)[j]? = some v := by
      by_cases hjm : j < m
      · simpa [u8s, List.getElem?_take, hjm] using hj
      · simp [u8s, List.getElem?_take, hjm] at hj
    have := h.cells (g := g) rfl j v hj2
    rwa [add_off] at this
theorem encs_len_ge (big : Bool) (l : List Ins) : 8 * l.length ≤ (encs big l).length := by
  induction l with
  | nil => simp [encs]
  | cons i l ih =>
    have e : encs big (i :: l) = enc big i ++ encs big l := by simp [encs]
    have : 8 ≤ (enc big i).length := by rw [enc_len]; cases i.op == 24 <;> simp
    rw [e, List.length_append, List.length_cons]
    omega
theorem progOk_ok {xs : List Ins} (h : progOk xs = true) : xs.length ≤ 60 ∧ ∀ i ∈ xs, OkF i := by
  simp only [progOk, Bool.and_eq_true, decide_eq_true_eq, List.all_eq_true] at h
  exact ⟨h.1, fun i hi => okF (h.2 i hi)⟩
theorem encs_app (big : Bool) (a b : List Ins) : encs big (a ++ b) = encs big a ++ encs big b := by simp [encs]
theorem encs_len2 (l : List Ins) : (encs false l).length = (encs true l).length := by
  induction l with
  | nil => simp [encs]
  | cons i l ih =>
    have e : ∀ big, encs big (i :: l) = enc big i ++ encs big l := fun big => by simp [encs]
    rw [e, e, List.length_append, List.length_append, ih, enc_len, enc_len]
theorem OwnB.below {w w' : World} {B : Nat} {v : Value} {bs : List Int} (h : OwnB w B v bs) (hb : Below w.heap.size w w') : OwnB w' B v bs :=
  World.ownsRow.kept h (row := none) ⟨hb.os, hb.tape, hb.output, hb.size, fun k hk _ => hb.block k hk⟩ (by cases v.ownBlock <;> simp)
end Go.Proofs.YtakigeichhngbaaDoor
namespace Go.Proofs.YtakigeichhngbaaDoor
open Go.RowKit
set_option linter.unusedVariables false
set_option linter.unusedSimpArgs false
theorem OwnB.cellAt {w : World} {B g n c : Nat} {bs : List Int} (h : OwnB w B (.slice (some ⟨g, 0, none⟩) n c) bs) (j : Nat) (hj : j < bs.length) : w.cell? ⟨g, j, none⟩ = some (.int .u8 (bs.getD j 0)) := by
  have hc := World.ownsRow.cells h (g := g) rfl j (.int .u8 (bs.getD j 0)) (by simp [u8s, hj])
  rwa [add_off, Nat.zero_add] at hc
end Go.Proofs.YtakigeichhngbaaDoor
namespace Go.Proofs.YtakigeichhngbaaDoor
open Go.RowKit
set_option linter.unusedVariables false
set_option linter.unusedSimpArgs false
theorem tcells_len (l : List Ins) : (tcells l).length = l.length * 7 := by
  induction l with
  | nil => rfl
  | cons i l ih =>
    have e : tcells (i :: l) = TCells i ++ tcells l := by simp [tcells]
    rw [e, List.length_append, ih, List.length_cons]
    simp [TCells]
    omega
theorem tcells_at : ∀ (l : List Ins) (k : Nat) (h : k < l.length) (j : Nat), j < 7 → (tcells l)[k * 7 + j]? = (TCells l[k])[j]?
  | [], k, h, _, _ => absurd h (by simp)
  | i :: l, 0, h, j, hj => by
    have e : tcells (i :: l) = TCells i ++ tcells l := by simp [tcells]
    rw [e, Nat.zero_mul, Nat.zero_add, List.getElem?_append_left (by simp [TCells]; omega)]
    rfl
  | i :: l, k + 1, h, j, hj => by
    have e : tcells (i :: l) = TCells i ++ tcells l := by simp [tcells]
    have h' : k < l.length := by simpa using h
    have ht : (TCells i).length = 7 := rfl
    rw [e, List.getElem?_append_right (by rw [ht]; omega), ht]
    have e2 : (k + 1) * 7 + j - 7 = k * 7 + j := by omega
    rw [e2, tcells_at l k h' j hj]
    rfl
/-- a slice of the call's own, as instructions to read -/
theorem OwnI.ins {w : World} {B n : Nat} {v : Value} {l : List Ins} (h : OwnI w B v l) (hn : l.length = n) : ∃ A c, v = .slice A n c ∧ InsAt w A n l := by
  unfold OwnI at h
  rw [hn] at h
  rcases h.2 with ⟨rfl, rfl⟩ | ⟨g, cap, cur, rfl, hB, hh, hc⟩
  · exact ⟨_, _, rfl, hn, .inl rfl⟩
  · refine ⟨_, _, rfl, hn, .inr ⟨g, 0, rfl, lt_of_blk hh, fun k hk => ?_⟩⟩
    have key : ∀ j, j < 7 → w.cell? ⟨g, 0 + k * 7 + j, none⟩ = (TCells l[k])[j]? := fun j hj => by
      rw [Nat.zero_add, h.cellAt (k * 7 + j) (by omega), tcells_at l k hk j hj]
    exact ⟨key 0 (by omega), key 1 (by omega), key 2 (by omega), key 3 (by omega), key 4 (by omega), key 5 (by omega), key 6 (by omega)⟩
set_option maxRecDepth 100000 in
set_option maxHeartbeats 2000000 in
/-- two lists of instructions that are one are Equal -/
theorem equalIns_c (A B : Option Addr) (n c d : Nat) (xs : List Ins) (w : World) (hn : n ≤ 1000000) (ha : InsAt w A n xs) (hb : InsAt w B n xs) :
    Calls Tryd.prog 14 #[.slice A n c, .slice B n d] w fun e w' => e = .returned (.bool true) ∧ Below w.heap.size w w' := by
  rcases Nat.eq_zero_or_pos n with h0 | h0
  · subst h0
    go_enter Tryd.func14, Tryd.ntmps14
    go_wp2
    go_rounds 1
    go_ret
    exact ⟨rfl, Below.refl _ _⟩
  · obtain ⟨b1, o1, rfl, l1, c1⟩ := ha.2.resolve_left (by omega)
    obtain ⟨b2, o2, rfl, l2, c2⟩ := hb.2.resolve_left (by omega)
    have HL := Lib.hid ha.1
    have C1 := Lib.hid c1
    have C2 := Lib.hid c2
    clear c1 c2 ha hb
    go_enter Tryd.func14, Tryd.ntmps14
    go_wp2
    go_loopw [13] (fun i wr => ∃ k : Nat, k ≤ n ∧ i = .int .i64 k ∧ Below w.heap.size w wr) (fun i _ => n - (intOf i).toNat)
    case atStart => exact ⟨0, Nat.zero_le _, rfl, Below.refl _ _⟩
    case round =>
      obtain ⟨k, hk, rfl, hbel⟩ := hrel
      by_cases hlt : k < n
      · have hkx : k < xs.length := by rw [HL.out]; exact hlt
        obtain ⟨iv, hiv⟩ : ∃ i, i = xs[k] := ⟨_, rfl⟩
        obtain ⟨a0, a1, a2, a3, a4, a5, a6⟩ := (C1.out k hkx).keep hbel l1
        obtain ⟨g0, g1, g2, g3, g4, g5, g6⟩ := (C2.out k hkx).keep hbel l2
        rw [← hiv] at a0 a1 a2 a3 a4 a5 a6 g0 g1 g2 g3 g4 g5 g6
        have hlt' : (k : Int) < (n : Int) := by omega
        have HB := Lib.hid hbel
        clear hbel hiv
        go_wp2_with fail
        go_quiet (fail)
        go_wp2
        go_roundw
        case rel => exact ⟨k + 1, by omega, by go_num, by first | exact below_drewN HB.out _ | exact HB.out.drew⟩
        case measure => simp [intOf]; omega
      · go_wp2
        go_ret
        exact ⟨rfl, hbel⟩
end Go.Proofs.YtakigeichhngbaaDoor
