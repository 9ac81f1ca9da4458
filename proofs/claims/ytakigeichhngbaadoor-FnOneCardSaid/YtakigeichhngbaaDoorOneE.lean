import Derived.Test.YtakigeichhngbaaDoorOneW
namespace Go.Proofs.YtakigeichhngbaaDoor
open Go.RowKit
set_option linter.unusedVariables false
set_option linter.unusedSimpArgs false
set_option maxRecDepth 100000 in
set_option maxHeartbeats 2000000 in
theorem One_err (big : Bool) (A : Option Addr) (n cap : Nat) (bs : List Int) (w : World) (E U : Addr) (h : BytesAt w A bs) (hn : bs.length = n) (h16 : n ≤ 1000) (he : Errs w E U) (hg2 : 2 < w.heap.size) (hg5 : 5 < w.heap.size)
    (hU : ∀ (g X : Nat) (W : World) (s : ByteArray), SrcAt W g bs → W.heap[X]? = some (.cells #[.int .u32 0, .int .u8 0, .int .u8 0, .int .i16 0, .int .i64 0, .pointer none] 65 (0, 0)) → g < X → Errs W E U → w.heap.size ≤ g →
      Calls Tryd.prog 35 #[.pointer (some ⟨X, 0, none⟩), .iface 56 (.pointer (some ⟨g, 0, none⟩)), ordV big, .string s] W fun e w' => (∃ p, e = .returned (.iface 137 (.pointer (some p)))) ∧ ∀ B, B ≤ g → Below B W w') :
    Calls Tryd.prog 10 #[.slice A n cap, .bool big] w fun e w' => e = .returned (.tuple #[noIns, .int .i64 0, .bool false]) ∧ Below w.heap.size w w' := by
  obtain ⟨i0, hi0, hz0, hz1, hz2⟩ := info_parts u8_info
  have HU := Lib.hid hU
  have hr := h.reads
  rw [hn] at hr
  have HR := Lib.hid hr
  have HY := Lib.hid h.1
  have HN := Lib.hid hn
  have HER := Lib.hid he
  clear hU h he hn hr
  go_enter Tryd.func10, Tryd.ntmps10
  go_wp2_with (first
    | (at_builtin
       go_loud (refine wpList_append_any _ rfl (.const (.slice none 0 0)) (.tmp 10) _ rfl w.heap.size 5 i0 _ 1 1 Tryd.underlying22 hi0 hz0 hz1 hz2 rfl (by omega) (.slice none 0 0) 0 [] rfl ⟨by simp, .inl ⟨rfl, rfl⟩⟩ w.heap.size A n cap (u8s bs) rfl (HR.out.below ((Below.refl _ _).alloc (Nat.le_refl _) _)) (oneCell_u8s _) (by simp only [maxLen]; omega) (by omega) (by simp) ?_)
       intro v1 w1 hown1 hg1 _
       rw [Nat.zero_add, List.nil_append] at hown1
       obtain ⟨A1, k1, rfl⟩ := own_slice hown1
       have hb1 : Below w.heap.size w w1 := ((Below.refl _ _).alloc (Nat.le_refl _) _).grown hg1 (by simp) (by simp [Value.ownBlock])
       have HO := Lib.hid hown1
       have hr1 := (hg1.block w.heap.size (by simp) (by simp [Value.ownBlock])).trans (heap_alloc_new w _)
       have HR1 := Lib.hid hr1
       clear hown1 hg1 hr1)
    | (go_at_call 36; ((with_reducible refine (ZZOrder_c _ _).mono ?_); rintro e w' ⟨rfl, rfl⟩)))
  have hs1 := SrcAt.made HO.out HN.out HY.out
  have hgr := (Below.refl _ (w1.alloc (.cells #[.slice A1 n k1] 58))).alloc (Nat.le_refl _) (.cells #[.int .u32 0, .int .u8 0, .int .u8 0, .int .i16 0, .int .i64 0, .pointer none] 65)
  have hbw : Below w.heap.size w ((w1.alloc (.cells #[.slice A1 n k1] 58)).alloc (.cells #[.int .u32 0, .int .u8 0, .int .u8 0, .int .i16 0, .int .i64 0, .pointer none] 65)) := (hb1.alloc hb1.size _).alloc (by have := hb1.size; simp; omega) _
  refine (HU.out w1.heap.size (w1.heap.size + 1) _ _ (hs1.keep hgr (by simp)) ?_ (by omega) (HER.out.keep hbw hg2 hg5) hb1.size).mono ?_
  · have := heap_alloc_new (w1.alloc (.cells #[.slice A1 n k1] 58)) (.cells #[.int .u32 0, .int .u8 0, .int .u8 0, .int .i16 0, .int .i64 0, .pointer none] 65)
    simpa only [World.size_alloc] using this
  rintro e w2 ⟨⟨p, rfl⟩, hend⟩
  have hlt1 := hb1.size
  have hb2 := hend w1.heap.size (Nat.le_refl _)
  have hrl1 := lt_of_blk HR1.out
  have hr2 : w2.heap[w.heap.size]? = some (.cells #[.int .i64 0, .int .i64 0, .int .i64 0, .int .i64 0, .int .i64 0, .string ⟨#[]⟩, .string ⟨#[]⟩] 24 (0, 0)) := by
    refine (hb2.block w.heap.size hrl1).trans ?_
    rw [Below.heap_alloc _ _ _ (by simp; omega), Below.heap_alloc _ _ _ hrl1]
    exact HR1.out
  have HB2 := Lib.hid (hbw.trans (hb2.mono hlt1))
  have HR2 := Lib.hid hr2
  obtain ⟨r0, r1, r2, r3, r4, r5, r6, rf⟩ := cell7 hr2
  clear hend hs1 hgr hb2 hr2 hb1 HU HO HR1 HR HY hi0 hz0 hz1 hz2 hbw
  go_wp2
  exact bodyPost_ret (results_ctt Tryd.results10 _ _ w.heap.size 24 _ (0, 0) _ _ _ rfl rfl (seven_blk _ _ _ _ _ _ _ _ _ _ _ _ _ _ _ _ _ HR2.out) Tryd.underlying24 (by kernel_rfl) rfl rfl) rfl ⟨rfl, seven_below HB2.out _ (Nat.le_refl _) _ _ _ _ _ _ _⟩
end Go.Proofs.YtakigeichhngbaaDoor
