import Derived.Test.YtakigeichhngbaaDoorUnmI
import Derived.Test.YtakigeichhngbaaDoorLabW
namespace Go.Proofs.YtakigeichhngbaaDoor
open Go.RowKit
set_option linter.unusedVariables false
set_option linter.unusedSimpArgs false
/-- an instruction without its names -/
def bareI (i : Ins) : Ins := { i with sym := ⟨#[]⟩, ref := ⟨#[]⟩ }
theorem own_litI (w : World) : OwnI (w.alloc (.cells #[] 24)) w.heap.size (.slice (some ⟨w.heap.size, 0, none⟩) 0 0) [] :=
  ⟨by simp [tcells], .inr ⟨w.heap.size, 0, #[], rfl, Nat.le_refl _, heap_alloc_new w _, Nat.le_refl _, Nat.zero_le _, rfl, by simp [tcells]⟩⟩
theorem own_snocI {w : World} {B : Nat} {v : Value} {l : List Ins} {i : Ins} {k : Nat} (hk : l.length = k) (h : w.ownsRow B 24 7 v (k + 1) (tcells l ++ TCells i)) : OwnI w B v (l ++ [i]) := by
  unfold OwnI
  rw [List.length_append, List.length_singleton, tcells_snoc, hk]
  exact h
set_option maxRecDepth 100000 in
set_option maxHeartbeats 2000000 in
theorem Bare_c (A : Option Addr) (n cap : Nat) (xs : List Ins) (w : World) (h : InsAt w A n xs) (hn : n ≤ 1000) :
    Calls Tryd.prog 15 #[.slice A n cap] w fun e w' => ∃ v, e = .returned v ∧ OwnI w' w.heap.size v (xs.map bareI) ∧ Below w.heap.size w w' := by
  obtain ⟨hl, h⟩ := h
  obtain ⟨i0, hi0, hz0, hz1, hz2⟩ := info_parts ins_info
  have O0 := Lib.hid (own_litI w)
  have H := Lib.hid h
  have L := Lib.hid hl
  have S := Lib.hid hz0
  have S1 := Lib.hid hz1
  have S2 := Lib.hid hz2
  have S0 := Lib.hid hi0
  clear h hl hz0 hz1 hz2 hi0
  go_enter Tryd.func15, Tryd.ntmps15
  go_wp2_with fail
  go_loopw [3, 9] (fun v i wr => ∃ k : Nat, k ≤ n ∧ i = .int .i64 k ∧ OwnI wr w.heap.size v ((xs.take k).map bareI) ∧ Below w.heap.size w wr) (fun _ i _ => n - (intOf i).toNat)
  case atStart => exact ⟨0, Nat.zero_le _, rfl, O0.out, (Below.refl _ _).alloc (Nat.le_refl _) _⟩
  case round =>
    obtain ⟨k, hk, rfl, hown, hb⟩ := hrel
    by_cases hk' : k < n
    · have hkl : k < xs.length := by rw [L.out]; exact hk'
      obtain ⟨b, o, rfl, hlt, hc⟩ := H.out.resolve_left (by omega)
      obtain ⟨i, hi⟩ : ∃ i, i = xs[k] := ⟨_, rfl⟩
      obtain ⟨c0, c1, c2, c3, c4, c5, c6⟩ := (show InsCells w b (o + k * 7) i from by rw [hi]; exact hc k _).keep hb hlt
      have htk : (xs.take (k + 1)).map bareI = (xs.take k).map bareI ++ [bareI i] := by
        rw [List.take_succ_eq_append_getElem hkl, List.map_append, hi]
        rfl
      have hlk : ((xs.take k).map bareI).length = k := by rw [List.length_map, List.length_take]; omega
      generalize (xs.take k).map bareI = pre at hown htk hlk
      have HTK := Lib.hid htk
      have HOWN := Lib.hid hown
      have LK := Lib.hid hlk
      obtain ⟨A1, n1, k1, rfl, -⟩ := hown.slice
      have HB := Lib.hid hb
      have hz := hb.size
      have hlt2 : b < wr.heap.size := Nat.lt_of_lt_of_le hlt hb.size
      clear hi hc htk hown hlk hb
      go_wp2_with (first | (at_builtin; go_loud (refine wpList_append_own _ rfl (.tmp 15) (.tmp 17) 31 rfl w.heap.size 24 i0 (.agg #[.int .i64 0, .int .i64 0, .int .i64 0, .int .i64 0, .int .i64 0, .string ⟨#[]⟩, .string ⟨#[]⟩]) 7 72 Tryd.underlying31 S0.out S.out S1.out S2.out rfl (by decide) _ _ _ rfl ((World.ownsRow.alloc HOWN.out _).alloc _) ⟨wr.heap.size + 1, 0, none⟩ 1 1 (TCells (bareI i)) rfl rfl ?c1 (tcells_one (bareI i)) ?c3 ?c4 ?c5 ?_)))
      case c1 =>
        intro j u hj
        simp only [TCells, bareI] at hj
        have hh := heap_alloc_new (wr.alloc (.cells #[.int .i64 i.op, .int .i64 i.dst, .int .i64 i.src, .int .i64 i.off, .int .i64 i.c, .string ⟨#[]⟩, .string ⟨#[]⟩] 24)) (.cells #[.int .i64 i.op, .int .i64 i.dst, .int .i64 i.src, .int .i64 i.off, .int .i64 i.c, .string ⟨#[]⟩, .string ⟨#[]⟩] 24)
        rw [World.size_alloc] at hh
        rw [add_off, Nat.zero_add, cell_of_row _ _ _ _ _ _ hh]
        simpa using hj
      case c3 => rw [LK.out]; unfold maxLen; omega
      case c4 => rw [LK.out]; omega
      case c5 => simp; omega
      intro v3 w3 hown3 hg3 _
      have hb3 : Below w.heap.size w w3 := ((HB.out.alloc hz _).alloc (by simp; omega) _).grown hg3 (by simp; omega) (fun b hb => (World.ownsRow.lt HOWN.out b hb).1)
      have ho3 : OwnI w3 w.heap.size v3 ((xs.take (k + 1)).map bareI) := by
        rw [HTK.out]
        rw [LK.out] at hown3
        exact own_snocI LK.out hown3
      have HO3 := Lib.hid ho3
      have HB3 := Lib.hid hb3
      clear hown3 hg3 ho3 HTK hb3
      go_wp2
      go_roundw
      case rel => exact ⟨k + 1, by omega, by go_num, HO3.out, HB3.out⟩
      case measure => simp [intOf]; omega
    · have hall : xs.take k = xs := List.take_of_length_le (by rw [L.out]; omega)
      rw [hall] at hown
      have HO := Lib.hid hown
      have HB := Lib.hid hb
      obtain ⟨A1, n1, k1, rfl, -⟩ := hown.slice
      clear hall hown hb
      go_wp2
      go_ret
      exact ⟨_, rfl, HO.out, HB.out⟩
end Go.Proofs.YtakigeichhngbaaDoor
