import Derived.Test.YtakigeichhngbaaDoorMemIns
import Derived.Test.YtakigeichhngbaaDoorAll
namespace Go.Proofs.YtakigeichhngbaaDoor
open Go.RowKit
set_option linter.unusedVariables false
set_option linter.unusedSimpArgs false

theorem Places_c (i : Ins) (w : World) : Calls Tryd.prog 69 #[.agg #[.int .i64 i.op, .int .i64 i.dst, .int .i64 i.src, .int .i64 i.off, .int .i64 i.c, .string i.sym, .string i.ref]] w
    fun e w' => e = .returned (.int .i64 (pRaw i.op)) ∧ Below w.heap.size w w' := by
  cases h : (i.op == 24)
  all_goals
    go_enter Tryd.func69, Tryd.ntmps69
    go_wp2
    go_ret
    exact ⟨by simp [pRaw, h], (Below.refl _ _).alloc (Nat.le_refl _) _⟩
theorem bx7 {W : World} {b : Nat} {t : TypeId} {u0 u1 u2 u3 u4 u5 u6 : Value} (h : W.heap[b]? = some (.cells #[u0, u1, u2, u3, u4, u5, u6] t (0, 0))) :
    W.cell? ⟨b, 0, none⟩ = some u0 ∧ W.cell? ⟨b, 1, none⟩ = some u1 ∧ W.cell? ⟨b, 2, none⟩ = some u2 ∧ W.cell? ⟨b, 3, none⟩ = some u3 ∧ W.cell? ⟨b, 4, none⟩ = some u4 ∧ W.cell? ⟨b, 5, none⟩ = some u5 ∧ W.cell? ⟨b, 6, none⟩ = some u6 :=
  ⟨cell_of_row _ _ _ _ _ _ h, cell_of_row _ _ _ _ _ _ h, cell_of_row _ _ _ _ _ _ h, cell_of_row _ _ _ _ _ _ h, cell_of_row _ _ _ _ _ _ h, cell_of_row _ _ _ _ _ _ h, cell_of_row _ _ _ _ _ _ h⟩
def StartsEnd (l : List Ins) (e : Ending) (w' : World) : Prop := ∃ A c, e = .returned (.tuple #[.slice A l.length c, .int .i64 (sumRaw l)]) ∧ RowAt w' A l.length 1 (fun j => (offs l l.length).getD j undef)
set_option maxHeartbeats 1000000 in
theorem Starts_c (A : Option Addr) (n cap : Nat) (xs : List Ins) (w : World) (h : InsAt w A n xs) (hn : n ≤ 400) :
    Calls Tryd.prog 45 #[.slice A n cap] w fun e w' => StartsEnd xs e w' ∧ Below w.heap.size w w' := by
  obtain ⟨hl, h⟩ := h
  have L := Lib.hid hl
  have O0 := Lib.hid (World.ownsRow_lit (base := w.heap.size) (e := 3) (size := 1) w #[] 0 (Nat.le_refl _) (by simp) rfl)
  have H := Lib.hid h
  clear h hl
  obtain ⟨i0, hi0, hz0, hz1, hz2⟩ := info_parts int_info
  have S0 := Lib.hid hi0
  have S := Lib.hid hz0
  have S1 := Lib.hid hz1
  have S2 := Lib.hid hz2
  clear hi0 hz0 hz1 hz2
  go_enter Tryd.func45, Tryd.ntmps45
  go_wp2
  go_loopw [4, 5, 11] (fun v s i wr => ∃ k : Nat, k ≤ n ∧ i = .int .i64 k ∧ s = .int .i64 (sumRaw (xs.take k)) ∧ wr.ownsRow w.heap.size 3 1 v k (offs xs k) ∧ Below w.heap.size w wr) (fun _ _ i _ => n - (intOf i).toNat)
  case atStart => exact ⟨0, Nat.zero_le _, rfl, rfl, O0.out, (Below.refl _ _).alloc (Nat.le_refl _) _⟩
  case round =>
    obtain ⟨k, hk, rfl, rfl, ho, hb⟩ := hrel
    by_cases hk' : k < n
    · have hkl : k < xs.length := by rw [L.out]; exact hk'
      obtain ⟨b, o, rfl, hlt, hc⟩ := H.out.resolve_left (by omega)
      obtain ⟨i, hi⟩ : ∃ i, i = xs[k] := ⟨_, rfl⟩
      obtain ⟨c0, c1, c2, c3, c4, c5, c6⟩ := (show InsCells w b (o + k * 7) i from by rw [hi]; exact hc k _).keep hb hlt
      have hlt2 : b < wr.heap.size := Nat.lt_of_lt_of_le hlt hb.size
      have hz0 := hb.size
      obtain ⟨pr0, pr1⟩ := pRaw_bd i.op
      have sb := sumRaw_bd (xs.take k)
      have hlen : (xs.take k).length ≤ k := List.length_take_le _ _
      obtain ⟨sb0, sb1⟩ := sb
      obtain ⟨s, hs⟩ : ∃ s, s = sumRaw (xs.take k) := ⟨_, rfl⟩
      have hs2 : s + pRaw i.op = sumRaw (xs.take (k + 1)) := by rw [List.take_succ_eq_append_getElem hkl, sumRaw_snoc, hs, hi]
      have ho2 : ∀ X : List Value, X = offs xs k ++ [.int .i64 s] → X = offs xs (k + 1) := fun X hX => by rw [hX, offs_snoc, hs]
      rw [← hs] at sb0 sb1 ⊢
      have HS := Lib.hid hs2
      have HO := Lib.hid ho
      have HO2 := Lib.hid ho2
      have sb2 : s ≤ 1000 := by omega
      clear hs hs2 hlen sb1 hi ho ho2 hc
      go_wp2_with (first | (go_at_call 69; ((with_reducible refine (Places_c i _).mono ?_); rintro e w2 ⟨rfl, hb2⟩)) | (at_builtin; refine wpList_append_own _ rfl (.tmp 15) (.tmp 17) 81 rfl w.heap.size 3 i0 (.int .i64 0) 1 8 Tryd.underlying81 S0.out S.out S1.out S2.out rfl (by decide) _ k _ rfl ((HO.out.alloc _).alloc _) ⟨wr.heap.size + 1, 0, none⟩ 1 1 [.int .i64 s] rfl rfl ?c1 ?c2 ?c3 ?c4 ?c5 ?_))
      case c1 =>
        intro j u hj
        match j, hj with
        | 0, hj => simp at hj; subst hj; simp [Addr.add]
      case c2 => intro u hu; simp at hu; subst hu; rfl
      case c3 => unfold maxLen; omega
      case c4 => omega
      case c5 => simp; omega
      intro v2 w3 ho3 hg3 _
      have hb3 : Below w.heap.size w w3 := ((hb.alloc hz0 _).alloc (by simp; omega) _).grown hg3 (by simp; omega) (fun b he => (HO.out.lt b he).1)
      have hz3 := hb3.size
      have hz4 : wr.heap.size < w3.heap.size := by have := hg3.size; simp at this; omega
      have hbx : w3.heap[wr.heap.size]? = some (.cells #[.int .i64 i.op, .int .i64 i.dst, .int .i64 i.src, .int .i64 i.off, .int .i64 i.c, .string i.sym, .string i.ref] 24 (0, 0)) :=
        (hg3.block _ (by simp; omega) (fun he => by have := (HO.out.lt _ he.symm).2; omega)).trans ((Below.heap_alloc _ _ _ (by simp)).trans (heap_alloc_new wr _))
      obtain ⟨x0, x1, x2, x3, x4, x5, x6⟩ := bx7 hbx
      have HO3 := Lib.hid (show w3.ownsRow w.heap.size 3 1 v2 (k + 1) (offs xs (k + 1)) from by rw [← HO2.out _ rfl]; exact ho3)
      clear ho3 hg3 hbx HO
      go_wp2_with (first | (go_at_call 69; ((with_reducible refine (Places_c i _).mono ?_); rintro e w4 ⟨rfl, hb4⟩)))
      go_roundw
      case rel => exact ⟨k + 1, by omega, by go_num, by rw [← HS.out], own_below HO3.out hb4, hb3.trans (hb4.mono hz3)⟩
      case measure => simp [intOf]; omega
    · obtain rfl : k = n := by omega
      have hall : xs.take k = xs := List.take_of_length_le (by rw [L.out]; exact Nat.le_refl _)
      rw [hall]
      obtain ⟨A2, c2, hv, hr⟩ := own_rowAt ho
      have HR := Lib.hid hr
      subst hv
      clear hr ho hall
      go_wp2
      go_ret2
      exact ⟨⟨A2, c2, by rw [L.out]; rfl, by rw [L.out]; exact HR.out⟩, hb⟩
end Go.Proofs.YtakigeichhngbaaDoor
