import Derived.Test.YtakigeichhngbaaDoorXw
import Derived.Test.YtakigeichhngbaaDoorUnmF
import Derived.Test.YtakigeichhngbaaDoorDecF
import Derived.Test.YtakigeichhngbaaDoorAll
namespace Go.Proofs.YtakigeichhngbaaDoor
open Go.RowKit
set_option linter.unusedVariables false
set_option linter.unusedSimpArgs false

theorem u8_info : (Tryd.prog.info? 5).map (fun i => (i.zero, i.size, i.bytes)) = some (some (.int .u8 0), 1, 1) := by kernel_rfl
theorem add_off (b o j : Nat) : (⟨b, o, none⟩ : Addr).add j = ⟨b, o + j, none⟩ := by unfold Addr.add; split <;> simp_all
theorem BytesAt.reads {w : World} {A : Option Addr} {bs : List Int} (h : BytesAt w A bs) : Reads w w.heap.size 1 A bs.length (u8s bs) := by
  refine ⟨by simp [u8s], fun hp => ?_⟩
  obtain ⟨B, o, rfl, hl, hc⟩ := h.2.resolve_left (fun e => by rw [e] at hp; exact Nat.lt_irrefl 0 hp)
  exact ⟨_, rfl, hl, fun j u hu => by rw [add_off]; exact hc j u hu⟩
/-- a row of bytes of the call's own, boxed as a source -/
theorem SrcAt.made {w : World} {base n : Nat} {v : Value} {bs : List Int} (h : w.ownsRow base 5 1 v n (u8s bs)) (hn : bs.length = n) (hb : ∀ b ∈ bs, isByte b) : SrcAt (w.alloc (.cells #[v] 58)) w.heap.size bs := by
  have hr := heap_alloc_new w (.cells #[v] 58)
  rcases h.2 with ⟨rfl, he⟩ | ⟨g, cap, cur, rfl, hB, hh, hc⟩
  · have : bs = [] := List.eq_nil_of_length_eq_zero (by omega)
    subst this
    exact ⟨⟨_, 0, hr, Nat.le_refl _, fun hp => absurd hp (Nat.lt_irrefl 0)⟩, hb⟩
  · have hl := lt_of_blk hh
    refine ⟨⟨some ⟨g, 0, none⟩, cap, by rw [hn]; exact hr, by rw [hn]; exact hc.1, fun _ => ⟨g, 0, rfl, hl, fun j u hu => ?_⟩⟩, hb⟩
    rw [World.cell?_alloc_lt w _ _ hl, Nat.zero_add]
    have hj : j < (u8s bs).length := by
      by_cases hj : j < (u8s bs).length
      · exact hj
      · rw [List.getElem?_eq_none (by omega)] at hu; cases hu
    have := h.cells (g := g) rfl j u hu
    rwa [add_off, Nat.zero_add] at this
theorem own_slice {w : World} {base : Nat} {e : TypeId} {size n : Nat} {v : Value} {xs : List Value} (h : w.ownsRow base e size v n xs) : ∃ A c, v = .slice A n c := by
  rcases h.2 with ⟨rfl, rfl⟩ | ⟨g, cap, cur, rfl, _⟩
  · exact ⟨_, _, rfl⟩
  · exact ⟨_, _, rfl⟩
set_option maxRecDepth 100000 in
set_option maxHeartbeats 2000000 in
theorem One_ok (big : Bool) (A : Option Addr) (n cap : Nat) (bs rest : List Int) (op dst src off c : Int) (w : World) (E U : Addr) (h : BytesAt w A bs) (hn : bs.length = n) (h16 : n ≤ 1000) (he : Errs w E U) (hg2 : 2 < w.heap.size) (hg5 : 5 < w.heap.size)
    (hF : (0 ≤ op ∧ op ≤ 4294967295) ∧ (0 ≤ dst ∧ dst ≤ 255) ∧ (0 ≤ src ∧ src ≤ 255) ∧ -32768 ≤ off ∧ off ≤ 32767) (hrl : rest.length ≤ n)
    (hU : ∀ (g X : Nat) (W : World) (s : ByteArray), SrcAt W g bs → W.heap[X]? = some (.cells #[.int .u32 0, .int .u8 0, .int .u8 0, .int .i16 0, .int .i64 0, .pointer none] 65 (0, 0)) → g < X →
      Calls Tryd.prog 35 #[.pointer (some ⟨X, 0, none⟩), .iface 56 (.pointer (some ⟨g, 0, none⟩)), ordV big, .string s] W fun e w' => e = .returned .nilIface ∧ UEnd W w' g X op dst src off c rest) :
    Calls Tryd.prog 10 #[.slice A n cap, .bool big] w fun e w' => e = .returned (.tuple #[insV op dst src off c ⟨#[]⟩ ⟨#[]⟩, .int .i64 (n - rest.length), .bool true]) ∧ Below w.heap.size w w' := by
  obtain ⟨i0, hi0, hz0, hz1, hz2⟩ := info_parts u8_info
  have HU := Lib.hid hU
  have hr := h.reads
  rw [hn] at hr
  have HR := Lib.hid hr
  have HY := Lib.hid h.1
  have HN := Lib.hid hn
  clear hU h he hn hr
  go_enter Tryd.func10, Tryd.ntmps10
  go_wp2_with (first
    | (at_builtin
       go_loud (refine wpList_append_any _ rfl (.const (.slice none 0 0)) (.tmp 10) _ rfl w.heap.size 5 i0 _ 1 1 Tryd.underlying22 hi0 hz0 hz1 hz2 rfl (by omega) (.slice none 0 0) 0 [] rfl ⟨by simp, .inl ⟨rfl, rfl⟩⟩ w.heap.size A n cap (u8s bs) rfl (HR.out.below ((Below.refl _ _).alloc (Nat.le_refl _) _)) (oneCell_u8s _) (by simp only [maxLen]; omega) (by omega) (by simp) ?_)
       intro v1 w1 hown1 hg1 _
       rw [Nat.zero_add, List.nil_append] at hown1
       obtain ⟨A1, k1, rfl⟩ := own_slice hown1
       have hb1 : Below w.heap.size w w1 := ((Below.refl _ _).alloc (Nat.le_refl _) _).grown hg1 (by simp) (by simp [Value.ownBlock])
       have HO := Lib.hid hown1
       have hr1 := (hg1.block w.heap.size (by simp) (by simp [Value.ownBlock])).trans (heap_alloc_new w _)
       have HR1 := Lib.hid hr1
       clear hown1 hg1 hr1)
    | (go_at_call 36; ((with_reducible refine (ZZOrder_c _ _).mono ?_); rintro e w' ⟨rfl, rfl⟩)))
  have hs1 := SrcAt.made HO.out HN.out HY.out
  have hgr := (Below.refl _ (w1.alloc (.cells #[.slice A1 n k1] 58))).alloc (Nat.le_refl _) (.cells #[.int .u32 0, .int .u8 0, .int .u8 0, .int .i16 0, .int .i64 0, .pointer none] 65)
  refine (HU.out w1.heap.size (w1.heap.size + 1) _ _ (hs1.keep hgr (by simp)) ?_ (by omega)).mono ?_
  · have := heap_alloc_new (w1.alloc (.cells #[.slice A1 n k1] 58)) (.cells #[.int .u32 0, .int .u8 0, .int .u8 0, .int .i16 0, .int .i64 0, .pointer none] 65)
    simpa only [World.size_alloc] using this
  rintro e w2 ⟨rfl, hend⟩
  have hlt1 := hb1.size
  obtain ⟨⟨A2, cap2, hbox, -⟩, -⟩ := hend.src
  have s2 := cell_of_row _ _ 0 _ _ _ hbox
  obtain ⟨x0, x1, x2, x3, x4, x5, -⟩ := cells6u hend.x
  have hrl1 := lt_of_blk HR1.out
  have hr2 : w2.heap[w.heap.size]? = some (.cells #[.int .i64 0, .int .i64 0, .int .i64 0, .int .i64 0, .int .i64 0, .string ⟨#[]⟩, .string ⟨#[]⟩] 24 (0, 0)) := by
    refine (hend.fr.other w.heap.size (by simp; omega) (by omega) (by omega)).trans ?_
    rw [Below.heap_alloc _ _ _ (by simp; omega), Below.heap_alloc _ _ _ hrl1]
    exact HR1.out
  have hb2 : Below w.heap.size w w2 := hb1.trans ((((Below.refl _ _).alloc hb1.size _).alloc (by simp; omega) _).trans (hend.fr.below _ hb1.size (by omega)))
  have hsl := lt_of_blk hbox
  have hrl2 := lt_of_blk hr2
  have HB2 := Lib.hid hb2
  have HR2 := Lib.hid hr2
  have HS2 := Lib.hid hbox
  have HN2 : IntKind.i64.wrap ((n : Int) - (rest.length : Int)) = (n : Int) - (rest.length : Int) := IntWalk.i64_in _ (by omega)
  have sn0 : (0 : Int) ≤ (n : Int) - (rest.length : Int) := by omega
  clear hend hs1 hgr hb2 hr2 hbox hb1 HU HO HR1 HR HY hi0 hz0 hz1 hz2
  go_wp2_with fail
  go_region_with (first | (go_at_call 37; (with_reducible refine (told_c op dst src off c none [] _ (meta_nil _) (by simp) hF).mono ?_); (rintro e w3 ⟨rfl, hb3'⟩; have hb3 : Below w2.heap.size w2 w3 := ((Below.refl _ _).drew).trans hb3'; have HB3 := Lib.hid hb3; have s3 := (hb3.cell (p := ⟨w1.heap.size, 0, none⟩) hsl).trans s2; obtain ⟨r0, r1, r2, r3, r4, r5, r6, rf⟩ := cell7 ((hb3.block _ hrl2).trans HR2.out); clear hb3 hb3')))
  all_goals
    go_wp2_with fail
    exact bodyPost_ret (results_ctt Tryd.results10 _ _ w.heap.size 24 _ (0, 0) _ _ _ rfl rfl (seven_blk _ _ _ _ _ _ _ _ _ _ _ _ _ _ _ _ _ ((HB3.out.block _ hrl2).trans HR2.out)) Tryd.underlying24 (by kernel_rfl) rfl rfl) rfl ⟨rfl, seven_below (HB2.out.trans (HB3.out.mono HB2.out.size)) _ (Nat.le_refl _) _ _ _ _ _ _ _⟩
end Go.Proofs.YtakigeichhngbaaDoor
