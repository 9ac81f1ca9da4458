import Derived.Test.YtakigeichhngbaaOkProg
import Derived.Test.YtakigeichhngbaaPlLab
import Derived.Test.YtakigeichhngbaaAll
namespace Go.Proofs.Ytakigeichhngbaa
open Go.RowKit
set_option linter.unusedVariables false
set_option linter.unusedSimpArgs false
theorem at_c (A : Option Addr) (n cap : Nat) (xs : List Ins) (s : ByteArray) (w : World) (h : InsAt w A n xs) (hn : n ≤ 2147483647) :
    Calls Try.prog 70 #[.slice A n cap, .string s] w fun e w' => e = .returned (.int .i64 (lAt xs s)) ∧ Below w.heap.size w w' := by
  obtain ⟨hl, h⟩ := h
  rcases h with h0 | ⟨b, o, rfl, hlt, hc⟩
  · subst h0
    have : xs = [] := List.eq_nil_of_length_eq_zero hl
    subst this
    go_enter Try.func70, Try.ntmps70
    go_wp2
    go_rounds 1
    go_ret
    exact ⟨rfl, Below.refl _ _⟩
  · have C := Lib.hid hc
    have L := Lib.hid hl
    clear hc hl
    go_enter Try.func70, Try.ntmps70
    go_wp2
    go_loopw [9] (fun i wr => ∃ k : Nat, k ≤ n ∧ i = .int .i64 k ∧ Below w.heap.size w wr ∧ Hid (lAt xs s = lAtF s k (xs.drop k))) (fun i _ => n - (intOf i).toNat)
    case atStart => exact ⟨0, Nat.zero_le _, rfl, Below.refl _ _, rfl⟩
    case round =>
      obtain ⟨k, hk, rfl, hb, hall⟩ := hrel
      by_cases hk' : k < n
      · have hkl : k < xs.length := by rw [L.out]; exact hk'
        obtain ⟨i, hi⟩ : ∃ i, i = xs[k] := ⟨_, rfl⟩
        obtain ⟨c0, c1, c2, c3, c4, c5, c6⟩ := (show InsCells w b (o + k * 7) i from by rw [hi]; exact C.out k _).keep hb hlt
        have hd : lAt xs s = bif sameS i.sym s then (k : Int) else lAtF s (k + 1) (xs.drop (k + 1)) := by
          rw [hall.out, List.drop_eq_getElem_cons hkl, hi]
          rfl
        have HD := Lib.hid hd
        clear hi hd hall
        have hlt2 : b < wr.heap.size := Nat.lt_of_lt_of_le hlt hb.size
        have hb2 := hb.alloc hb.size (.cells #[.int .i64 i.op, .int .i64 i.dst, .int .i64 i.src, .int .i64 i.off, .int .i64 i.c, .string i.sym, .string i.ref] 23)
        have HB2 := Lib.hid hb2
        clear hb2
        cases hz : (i.sym.toList == s.toList)
        · go_wp2
          go_roundw
          case rel => exact ⟨k + 1, by omega, by go_num, HB2.out, by rw [Hid, HD.out, sameS, hz]; rfl⟩
          case measure => simp [intOf]; omega
        · go_wp2
          go_ret
          exact ⟨by rw [HD.out, sameS, hz]; rfl, HB2.out⟩
      · go_wp2
        go_ret
        have hf : lAt xs s = -1 := by rw [hall.out, List.drop_of_length_le (by rw [L.out]; omega)]; rfl
        exact ⟨by rw [hf]; rfl, hb⟩
theorem calls_c (i : Ins) (w : World) : Calls Try.prog 68 #[.agg #[.int .i64 i.op, .int .i64 i.dst, .int .i64 i.src, .int .i64 i.off, .int .i64 i.c, .string i.sym, .string i.ref]] w
    fun e w' => e = .returned (.bool (sCalls i)) ∧ w.alloc (.cells #[.int .i64 i.op, .int .i64 i.dst, .int .i64 i.src, .int .i64 i.off, .int .i64 i.c, .string i.sym, .string i.ref] 23) = w' := by
  cases h : (i.op == 133)
  all_goals
    go_enter Try.func68, Try.ntmps68
    go_wp2
    go_ret
    exact ⟨by simp [sCalls, h], rfl⟩
theorem jumps_c (i : Ins) (w : World) : Calls Try.prog 69 #[.agg #[.int .i64 i.op, .int .i64 i.dst, .int .i64 i.src, .int .i64 i.off, .int .i64 i.c, .string i.sym, .string i.ref]] w
    fun e w' => e = .returned (.bool (sJumps i)) ∧ w.alloc (.cells #[.int .i64 i.op, .int .i64 i.dst, .int .i64 i.src, .int .i64 i.off, .int .i64 i.c, .string i.sym, .string i.ref] 23) = w' := by
  cases h : sIsJump i.op
  · go_enter Try.func69, Try.ntmps69
    go_wp2_with (first | (go_at_call 32; ((with_reducible refine (sIsJump_c _ _).mono ?_); rintro e w' ⟨rfl, rfl⟩)))
    go_ret
    exact ⟨by simp [sJumps, h], rfl⟩
  · by_cases h2 : bits .and .i64 i.op 240 = 128
    all_goals
      go_enter Try.func69, Try.ntmps69
      go_wp2_with (first | (go_at_call 32; ((with_reducible refine (sIsJump_c _ _).mono ?_); rintro e w' ⟨rfl, rfl⟩)))
      go_ret
      exact ⟨by simp [sJumps, h, h2, bne], rfl⟩
end Go.Proofs.Ytakigeichhngbaa
namespace Go.Proofs.Ytakigeichhngbaa
open Go.RowKit
set_option linter.unusedVariables false
set_option linter.unusedSimpArgs false
theorem str_info : (Try.prog.info? 9).map (fun i => (i.zero, i.size, i.bytes)) = some (some (.string ⟨#[]⟩), 1, 16) := by kernel_rfl
/-- a slice of strings of the call's own -/
def OwnS (w : World) (B : Nat) (v : Value) (ss : List ByteArray) : Prop := w.ownsRow B 9 1 v ss.length (ss.map Value.string)
theorem OwnS.row {w : World} {B : Nat} {v : Value} {ss : List ByteArray} (h : OwnS w B v ss) : ∃ A c, v = .slice A ss.length c ∧ ∀ j (hj : j < ss.length), ∃ g, A = some ⟨g, 0, none⟩ ∧ g < w.heap.size ∧ w.cell? ⟨g, j, none⟩ = some (.string ss[j]) := by
  rcases h.2 with ⟨rfl, h0⟩ | ⟨g, cap, cur, rfl, hB, hh, hc⟩
  · exact ⟨_, _, by rw [h0], fun j hj => absurd hj (by omega)⟩
  · refine ⟨_, _, rfl, fun j hj => ⟨g, rfl, lt_of_heap hh, ?_⟩⟩
    rw [h.cellAt j (by omega)]
    simp [hj]
/-- the labels' loop, k instructions seen -/
def SymRel (w : World) (xs : List Ins) (k : Nat) (v : Value) (ss : List ByteArray) (wr : World) : Prop :=
  OwnS wr w.heap.size v ss ∧ ss.length ≤ k ∧ Below w.heap.size w wr ∧ symsOk [] xs = symsOk ss (xs.drop k)
theorem seen_drop {s : ByteArray} {ss : List ByteArray} {j : Nat} (hj : j < ss.length) : seenIn s (ss.drop j) = (sameS ss[j] s || seenIn s (ss.drop (j + 1))) := by
  rw [List.drop_eq_getElem_cons hj]
  rfl
set_option maxRecDepth 100000 in
set_option maxHeartbeats 2000000 in
theorem ProgramOk_c (A : Option Addr) (n cap : Nat) (xs : List Ins) (w : World) (h : InsAt w A n xs) (hn : n ≤ 2147483647) (hsz : ∀ i ∈ xs, i.sym.size ≤ 2147483647) :
    Calls Try.prog 23 #[.slice A n cap] w fun e w' => e = .returned (.bool (labOk xs)) ∧ Below w.heap.size w w' := by
  obtain ⟨hl, h⟩ := h
  by_cases h60 : 60 < n
  · have hf : labOk xs = false := by
      have : decide (xs.length ≤ 60) = false := by simp; omega
      simp only [labOk, this, Bool.false_and]
    rw [hf]
    clear h hsz hf
    go_enter Try.func23, Try.ntmps23
    go_wp2
    go_ret
    exact ⟨rfl, Below.refl _ _⟩
  have hlab : labOk xs = (symsOk [] xs && xs.all (refOk xs)) := by
    have : decide (xs.length ≤ 60) = true := by simp; omega
    simp only [labOk, this, Bool.true_and]
  have hn60 : n ≤ 60 := by omega
  have AT := Lib.hid fun (W : World) (hb : Below w.heap.size w W) (s : ByteArray) => at_c A n cap xs s W (InsAt.keep ⟨hl, h⟩ hb) hn
  have H := Lib.hid h
  have L := Lib.hid hl
  have HLAB := Lib.hid hlab
  have HSZ := Lib.hid hsz
  obtain ⟨i0, hi0, hz0, hz1, hz2⟩ := info_parts str_info
  have S0 := Lib.hid hi0
  have S := Lib.hid hz0
  have S1 := Lib.hid hz1
  have S2 := Lib.hid hz2
  have O0 := Lib.hid (World.ownsRow_lit (base := w.heap.size) (e := 9) (size := 1) w #[] 0 (Nat.le_refl _) (by simp) rfl)
  clear h hl hlab hsz hi0 hz0 hz1 hz2 h60
  go_enter Try.func23, Try.ntmps23
  go_wp2_with fail
  go_loopw [3, 18] (fun v i wr => ∃ (k : Nat) (ss : List ByteArray), k ≤ n ∧ i = .int .i64 k ∧ SymRel w xs k v ss wr) (fun _ i _ => n - (intOf i).toNat)
  case atStart => exact ⟨0, [], Nat.zero_le _, rfl, O0.out, Nat.zero_le _, (Below.refl _ _).alloc (Nat.le_refl _) _, rfl⟩
  case round =>
    obtain ⟨k, ss, hk, rfl, ho, hss, hb, hsy⟩ := hrel
    by_cases hk' : k < n
    · have hkl : k < xs.length := by rw [L.out]; exact hk'
      obtain ⟨b, o, rfl, hlt, hc⟩ := H.out.resolve_left (by omega)
      obtain ⟨i, hi⟩ : ∃ i, i = xs[k] := ⟨_, rfl⟩
      obtain ⟨c0, c1, c2, c3, c4, c5, c6⟩ := (show InsCells w b (o + k * 7) i from by rw [hi]; exact hc k _).keep hb hlt
      have hsy2 : symsOk [] xs = symsOk ss (i :: xs.drop (k + 1)) := by rw [hsy, List.drop_eq_getElem_cons hkl, hi]
      have hs31 : i.sym.size ≤ 2147483647 := by rw [hi]; exact HSZ.out _ (List.getElem_mem _)
      have hb2 := hb.alloc hb.size (.cells #[.int .i64 i.op, .int .i64 i.dst, .int .i64 i.src, .int .i64 i.off, .int .i64 i.c, .string i.sym, .string i.ref] 23)
      have ho2 : OwnS (wr.alloc (.cells #[.int .i64 i.op, .int .i64 i.dst, .int .i64 i.src, .int .i64 i.off, .int .i64 i.c, .string i.sym, .string i.ref] 23)) w.heap.size _ ss := World.ownsRow.alloc ho _
      have HB2 := Lib.hid hb2
      have HO2 := Lib.hid ho2
      have HSY := Lib.hid hsy2
      have HX := Lib.hid (heap_alloc_new wr (.cells #[.int .i64 i.op, .int .i64 i.dst, .int .i64 i.src, .int .i64 i.off, .int .i64 i.c, .string i.sym, .string i.ref] 23))
      have hlt2 : b < wr.heap.size := Nat.lt_of_lt_of_le hlt hb.size
      clear hc hi hsy hsy2 hb2 ho2 ho
      cases hz : i.sym.toList.isEmpty
      · obtain ⟨A2, c2, hv2, hcell⟩ := HO2.out.row
        subst hv2
        obtain ⟨x0, x1, x2, x3, x4, x5, x6⟩ := cells7 HX.out
        obtain ⟨W2, hW2⟩ : ∃ W, W = wr.alloc (.cells #[.int .i64 i.op, .int .i64 i.dst, .int .i64 i.src, .int .i64 i.off, .int .i64 i.c, .string i.sym, .string i.ref] 23) := ⟨_, rfl⟩
        have hwsz : W2.heap.size = wr.heap.size + 1 := by rw [hW2]; simp
        go_wp2_with fail
        rw [← hW2] at hcell HO2 HB2 HX x0 x1 x2 x3 x4 x5 x6 ⊢
        clear hW2
        have hb20 := HB2.out.size
        go_loopw [27] (fun i2 wi => ∃ j : Nat, j ≤ ss.length ∧ i2 = .int .i64 j ∧ wi = W2 ∧ Hid (seenIn i.sym ss = seenIn i.sym (ss.drop j))) (fun i2 _ => ss.length - (intOf i2).toNat)
        case atStart => exact ⟨0, Nat.zero_le _, rfl, rfl, rfl⟩
        case round =>
          obtain ⟨j, hj, rfl, hwi, hsn⟩ := hrel
          replace hwi := hwi.symm
          subst hwi
          by_cases hj' : j < ss.length
          · obtain ⟨g, rfl, hg, hcj⟩ := hcell j hj'
            obtain ⟨s, hs⟩ : ∃ s, s = ss[j] := ⟨_, rfl⟩
            rw [← hs] at hcj
            have hsd : seenIn i.sym ss = (sameS s i.sym || seenIn i.sym (ss.drop (j + 1))) := by rw [hsn.out, seen_drop hj', hs]
            have HSD := Lib.hid hsd
            clear hs hsd hsn hcell
            cases hq : (s.toList == i.sym.toList)
            · go_wp2_with fail
              go_roundw
              case rel => exact ⟨j + 1, by omega, by go_num, by first | trivial | rfl, by rw [Hid, HSD.out, sameS, hq]; rfl⟩
              case measure => simp [intOf]; omega
            · go_wp2_with fail
              go_ret
              exact ⟨by rw [HLAB.out, HSY.out, symsOk, noS, hz, HSD.out, sameS, hq]; rfl, HB2.out⟩
          · have hns : seenIn i.sym ss = false := by rw [hsn.out, List.drop_of_length_le (by omega)]; rfl
            have HNS := Lib.hid hns
            clear hns hsn hcell
            by_cases h20 : 20 < i.sym.size
            · have h20i : (20 : Int) < (i.sym.size : Int) := by omega
              go_wp2_with fail
              go_ret
              exact ⟨by rw [HLAB.out, HSY.out, symsOk, noS, hz, HNS.out]; simp [h20], HB2.out⟩
            · have hss60 : ss.length ≤ 60 := by omega
              have h20i : ¬ (20 : Int) < (i.sym.size : Int) := by omega
              go_wp2_with (first | (at_builtin; go_loud (refine wpList_append_own _ rfl (.tmp 40) (.tmp 43) 40 rfl w.heap.size 9 i0 (.string ⟨#[]⟩) 1 16 Try.underlying40 S0.out S.out S1.out S2.out rfl (by decide) _ ss.length _ rfl (World.ownsRow.alloc HO2.out _) ⟨wr.heap.size + 1, 0, none⟩ 1 1 [.string i.sym] rfl rfl ?c1 ?c2 ?c3 ?c4 ?c5 ?_)))
              case c2 => first | rfl | (intro u hu; simp at hu; subst hu; rfl)
              case c3 => unfold maxLen; omega
              case c4 => omega
              case c5 => first | omega | (simp; omega)
              intro v2 w3 ho3 hg3 _
              have hb3 : Below w.heap.size w w3 := (HB2.out.alloc hb20 _).grown hg3 (by simp; omega) (fun b he => (HO2.out.lt b he).1)
              have ho4 : OwnS w3 w.heap.size v2 (ss ++ [i.sym]) := by
                unfold OwnS
                rw [List.length_append, List.map_append]
                exact ho3
              have HB3 := Lib.hid hb3
              have HO4 := Lib.hid ho4
              clear ho3 hg3 hb3 ho4
              go_wp2_with fail
              go_roundw
              case rel => exact ⟨k + 1, ss ++ [i.sym], by omega, by go_num, HO4.out, by rw [List.length_append]; simp; omega, HB3.out, by rw [HSY.out, symsOk, noS, hz, HNS.out]; simp [h20]⟩
              case measure => simp [intOf]; omega
      · go_wp2_with fail
        go_roundw
        case rel => exact ⟨k + 1, ss, by omega, by go_num, HO2.out, by omega, HB2.out, by rw [HSY.out, symsOk, noS, hz]; rfl⟩
        case measure => simp [intOf]; omega
    · obtain rfl : k = n := by omega
      have hsy1 : symsOk [] xs = true := by rw [hsy, List.drop_of_length_le (by rw [L.out]; exact Nat.le_refl _)]; rfl
      have hlab2 : labOk xs = xs.all (refOk xs) := by rw [HLAB.out, hsy1, Bool.true_and]
      have HLAB2 := Lib.hid hlab2
      have HB := Lib.hid hb
      clear hsy hsy1 hlab2 HLAB ho hss hb O0
      go_wp2_with fail
      go_loopw [48] (fun i2 wr2 => ∃ j : Nat, j ≤ k ∧ i2 = .int .i64 j ∧ Below w.heap.size w wr2 ∧ Hid (xs.all (refOk xs) = (xs.drop j).all (refOk xs))) (fun i2 _ => k - (intOf i2).toNat)
      case atStart => exact ⟨0, Nat.zero_le _, rfl, HB.out, rfl⟩
      case round =>
        obtain ⟨j, hj, rfl, hb, hall⟩ := hrel
        by_cases hj' : j < k
        · have hjl : j < xs.length := by rw [L.out]; exact hj'
          obtain ⟨b, o, rfl, hlt, hc⟩ := H.out.resolve_left (by omega)
          obtain ⟨i, hi⟩ : ∃ i, i = xs[j] := ⟨_, rfl⟩
          obtain ⟨c0, c1, c2, c3, c4, c5, c6⟩ := (show InsCells w b (o + j * 7) i from by rw [hi]; exact hc j _).keep hb hlt
          have hall2 : labOk xs = (refOk xs i && (xs.drop (j + 1)).all (refOk xs)) := by rw [HLAB2.out, hall.out, List.drop_eq_getElem_cons hjl, List.all_cons, hi]
          have HALL := Lib.hid hall2
          have hlt2 : b < wr.heap.size := Nat.lt_of_lt_of_le hlt hb.size
          have hz2 := hb.size
          have HB2 := Lib.hid hb
          clear hc hi hall hall2 hb
          obtain ⟨op, dst, src, off, c, sym, ref⟩ := i
          dsimp only at c0 c1 c2 c3 c4 c5 c6
          go_wp2_with fail
          refine (sInsOk_c op dst src off c ⟨#[]⟩ ⟨#[]⟩ _).mono ?_
          rintro e w2 ⟨rfl, hb2⟩
          obtain ⟨t9, ht9⟩ : ∃ t, t = wr.heap.size := ⟨_, rfl⟩
          have hx : w2.heap[wr.heap.size]? = some (.cells #[.int .i64 op, .int .i64 dst, .int .i64 src, .int .i64 off, .int .i64 c, .string sym, .string ref] 23 (0, 0)) :=
            (hb2.block _ (by simp; omega)).trans ((Below.heap_alloc _ _ _ (by simp)).trans (heap_alloc_new wr _))
          have hbw : Below w.heap.size w w2 := ((HB2.out.alloc hz2 _).alloc (by simp; omega) _).trans (hb2.mono (by simp; omega))
          have hz3 : t9 < w2.heap.size := by have := hb2.size; simp at this; omega
          rw [← ht9] at hx ⊢
          obtain ⟨x0, x1, x2, x3, x4, x5, x6⟩ := cells7 hx
          have HBW := Lib.hid hbw
          have hz4 := hbw.size
          have hz3a : t9 < w2.heap.size + 1 := by omega
          have hz3b : t9 < w2.heap.size + 1 + 1 := by omega
          have hz3c : t9 < w2.heap.size + 1 + 1 + 1 := by omega
          rw [show sInsOk op dst src off c ⟨#[]⟩ ⟨#[]⟩ = bareOk ⟨op, dst, src, off, c, sym, ref⟩ from rfl]
          clear hb2 hx hbw c0 c1 c2 c3 c4 c5 c6 ht9
          cases hbo : bareOk ⟨op, dst, src, off, c, sym, ref⟩
          · go_wp2_with fail
            go_ret
            exact ⟨by rw [HALL.out, refOk, hbo]; rfl, HBW.out⟩
          cases hr : ref.toList.isEmpty
          rotate_left
          · go_wp2_with fail
            go_roundw
            case rel => exact ⟨j + 1, by omega, by go_num, HBW.out, by rw [Hid, ← HLAB2.out, HALL.out, refOk, hbo, noS, hr]; rfl⟩
            case measure => simp [intOf]; omega
          -- TREE
          cases hj : sJumps ⟨op, dst, src, off, c, sym, ref⟩
          · cases hcl : sCalls ⟨op, dst, src, off, c, sym, ref⟩
            · have CB := Lib.hid fun W => calls_c ⟨op, dst, src, off, c, sym, ref⟩ W
              simp only [hcl] at CB
              have JA := Lib.hid fun W => jumps_c ⟨op, dst, src, off, c, sym, ref⟩ W
              simp only [hj] at JA
              go_wp2_with (first | (go_at_call 68; ((with_reducible refine (CB.out _).mono ?_); rintro e w' ⟨rfl, rfl⟩)) | (go_at_call 69; ((with_reducible refine (JA.out _).mono ?_); rintro e w' ⟨rfl, rfl⟩)))
              go_ret
              exact ⟨by rw [HALL.out]; simp [refOk, hbo, noS, hr, sFar, hj, hcl], by have hbw := HBW.out; go_grown⟩
            · by_cases h1 : c = -1
              · subst h1
                by_cases h0 : off = 0
                · subst h0
                  have CB := Lib.hid fun W => calls_c ⟨op, dst, src, 0, (-1), sym, ref⟩ W
                  simp only [hcl] at CB
                  have JA := Lib.hid fun W => jumps_c ⟨op, dst, src, 0, (-1), sym, ref⟩ W
                  simp only [hj] at JA
                  go_wp2_with (first | (go_at_call 68; ((with_reducible refine (CB.out _).mono ?_); rintro e w' ⟨rfl, rfl⟩)) | (go_at_call 69; ((with_reducible refine (JA.out _).mono ?_); rintro e w' ⟨rfl, rfl⟩)))
                  refine Calls.mono (AT.out _ (by have hbw := HBW.out; go_grown) _) ?_
                  rintro e w3 ⟨rfl, hb3⟩
                  have hb4 : Below w.heap.size w w3 := by first | exact (HBW.out.alloc hz4 _).trans (hb3.mono (by simp; omega)) | exact ((HBW.out.alloc hz4 _).alloc (by simp; omega) _).trans (hb3.mono (by simp; omega)) | exact (((HBW.out.alloc hz4 _).alloc (by simp; omega) _).alloc (by simp; omega) _).trans (hb3.mono (by simp; omega))
                  have HB4 := Lib.hid hb4
                  clear hb3 hb4
                  by_cases hl : lAt xs ref < 0
                  · go_wp2_with fail
                    go_ret
                    exact ⟨by rw [HALL.out]; first | (simp [refOk, hbo, noS, hr, sFar, hj, hcl]; done) | (simp [refOk, hbo, noS, hr, sFar, hj, hcl]; omega), HB4.out⟩
                  · go_wp2_with fail
                    go_roundw
                    case rel => exact ⟨j + 1, by omega, by go_num, HB4.out, by rw [Hid, ← HLAB2.out, HALL.out]; first | (simp [refOk, hbo, noS, hr, sFar, hj, hcl]; done) | (simp [refOk, hbo, noS, hr, sFar, hj, hcl]; omega)⟩
                    case measure => simp [intOf]; omega
                · have CB := Lib.hid fun W => calls_c ⟨op, dst, src, off, (-1), sym, ref⟩ W
                  simp only [hcl] at CB
                  have JA := Lib.hid fun W => jumps_c ⟨op, dst, src, off, (-1), sym, ref⟩ W
                  simp only [hj] at JA
                  go_wp2_with (first | (go_at_call 68; ((with_reducible refine (CB.out _).mono ?_); rintro e w' ⟨rfl, rfl⟩)) | (go_at_call 69; ((with_reducible refine (JA.out _).mono ?_); rintro e w' ⟨rfl, rfl⟩)))
                  go_ret
                  exact ⟨by rw [HALL.out]; simp [refOk, hbo, noS, hr, sFar, hj, hcl, h0], by have hbw := HBW.out; go_grown⟩
              · have CB := Lib.hid fun W => calls_c ⟨op, dst, src, off, c, sym, ref⟩ W
                simp only [hcl] at CB
                have JA := Lib.hid fun W => jumps_c ⟨op, dst, src, off, c, sym, ref⟩ W
                simp only [hj] at JA
                go_wp2_with (first | (go_at_call 68; ((with_reducible refine (CB.out _).mono ?_); rintro e w' ⟨rfl, rfl⟩)) | (go_at_call 69; ((with_reducible refine (JA.out _).mono ?_); rintro e w' ⟨rfl, rfl⟩)))
                go_ret
                exact ⟨by rw [HALL.out]; simp [refOk, hbo, noS, hr, sFar, hj, hcl, h1], by have hbw := HBW.out; go_grown⟩
          · cases hcl : sCalls ⟨op, dst, src, off, c, sym, ref⟩
            · by_cases h6 : op = 6
              · subst h6
                by_cases h1 : c = -1
                · subst h1
                  by_cases h0 : off = 0
                  · subst h0
                    have CB := Lib.hid fun W => calls_c ⟨6, dst, src, 0, (-1), sym, ref⟩ W
                    simp only [hcl] at CB
                    have JA := Lib.hid fun W => jumps_c ⟨6, dst, src, 0, (-1), sym, ref⟩ W
                    simp only [hj] at JA
                    go_wp2_with (first | (go_at_call 68; ((with_reducible refine (CB.out _).mono ?_); rintro e w' ⟨rfl, rfl⟩)) | (go_at_call 69; ((with_reducible refine (JA.out _).mono ?_); rintro e w' ⟨rfl, rfl⟩)))
                    refine Calls.mono (AT.out _ (by have hbw := HBW.out; go_grown) _) ?_
                    rintro e w3 ⟨rfl, hb3⟩
                    have hb4 : Below w.heap.size w w3 := by first | exact (HBW.out.alloc hz4 _).trans (hb3.mono (by simp; omega)) | exact ((HBW.out.alloc hz4 _).alloc (by simp; omega) _).trans (hb3.mono (by simp; omega)) | exact (((HBW.out.alloc hz4 _).alloc (by simp; omega) _).alloc (by simp; omega) _).trans (hb3.mono (by simp; omega))
                    have HB4 := Lib.hid hb4
                    clear hb3 hb4
                    by_cases hl : lAt xs ref < 0
                    · go_wp2_with fail
                      go_ret
                      exact ⟨by rw [HALL.out]; first | (simp [refOk, hbo, noS, hr, sFar, hj, hcl]; done) | (simp [refOk, hbo, noS, hr, sFar, hj, hcl]; omega), HB4.out⟩
                    · go_wp2_with fail
                      go_roundw
                      case rel => exact ⟨j + 1, by omega, by go_num, HB4.out, by rw [Hid, ← HLAB2.out, HALL.out]; first | (simp [refOk, hbo, noS, hr, sFar, hj, hcl]; done) | (simp [refOk, hbo, noS, hr, sFar, hj, hcl]; omega)⟩
                      case measure => simp [intOf]; omega
                  · have CB := Lib.hid fun W => calls_c ⟨6, dst, src, off, (-1), sym, ref⟩ W
                    simp only [hcl] at CB
                    have JA := Lib.hid fun W => jumps_c ⟨6, dst, src, off, (-1), sym, ref⟩ W
                    simp only [hj] at JA
                    go_wp2_with (first | (go_at_call 68; ((with_reducible refine (CB.out _).mono ?_); rintro e w' ⟨rfl, rfl⟩)) | (go_at_call 69; ((with_reducible refine (JA.out _).mono ?_); rintro e w' ⟨rfl, rfl⟩)))
                    go_ret
                    exact ⟨by rw [HALL.out]; simp [refOk, hbo, noS, hr, sFar, hj, hcl, h0], by have hbw := HBW.out; go_grown⟩
                · have CB := Lib.hid fun W => calls_c ⟨6, dst, src, off, c, sym, ref⟩ W
                  simp only [hcl] at CB
                  have JA := Lib.hid fun W => jumps_c ⟨6, dst, src, off, c, sym, ref⟩ W
                  simp only [hj] at JA
                  go_wp2_with (first | (go_at_call 68; ((with_reducible refine (CB.out _).mono ?_); rintro e w' ⟨rfl, rfl⟩)) | (go_at_call 69; ((with_reducible refine (JA.out _).mono ?_); rintro e w' ⟨rfl, rfl⟩)))
                  go_ret
                  exact ⟨by rw [HALL.out]; simp [refOk, hbo, noS, hr, sFar, hj, hcl, h1], by have hbw := HBW.out; go_grown⟩
              · by_cases hm : off = -1
                · subst hm
                  have CB := Lib.hid fun W => calls_c ⟨op, dst, src, (-1), c, sym, ref⟩ W
                  simp only [hcl] at CB
                  have JA := Lib.hid fun W => jumps_c ⟨op, dst, src, (-1), c, sym, ref⟩ W
                  simp only [hj] at JA
                  go_wp2_with (first | (go_at_call 68; ((with_reducible refine (CB.out _).mono ?_); rintro e w' ⟨rfl, rfl⟩)) | (go_at_call 69; ((with_reducible refine (JA.out _).mono ?_); rintro e w' ⟨rfl, rfl⟩)))
                  refine Calls.mono (AT.out _ (by have hbw := HBW.out; go_grown) _) ?_
                  rintro e w3 ⟨rfl, hb3⟩
                  have hb4 : Below w.heap.size w w3 := by first | exact (HBW.out.alloc hz4 _).trans (hb3.mono (by simp; omega)) | exact ((HBW.out.alloc hz4 _).alloc (by simp; omega) _).trans (hb3.mono (by simp; omega)) | exact (((HBW.out.alloc hz4 _).alloc (by simp; omega) _).alloc (by simp; omega) _).trans (hb3.mono (by simp; omega))
                  have HB4 := Lib.hid hb4
                  clear hb3 hb4
                  by_cases hl : lAt xs ref < 0
                  · go_wp2_with fail
                    go_ret
                    exact ⟨by rw [HALL.out]; first | (simp [refOk, hbo, noS, hr, sFar, hj, hcl, h6]; done) | (simp [refOk, hbo, noS, hr, sFar, hj, hcl, h6]; omega), HB4.out⟩
                  · go_wp2_with fail
                    go_roundw
                    case rel => exact ⟨j + 1, by omega, by go_num, HB4.out, by rw [Hid, ← HLAB2.out, HALL.out]; first | (simp [refOk, hbo, noS, hr, sFar, hj, hcl, h6]; done) | (simp [refOk, hbo, noS, hr, sFar, hj, hcl, h6]; omega)⟩
                    case measure => simp [intOf]; omega
                · have CB := Lib.hid fun W => calls_c ⟨op, dst, src, off, c, sym, ref⟩ W
                  simp only [hcl] at CB
                  have JA := Lib.hid fun W => jumps_c ⟨op, dst, src, off, c, sym, ref⟩ W
                  simp only [hj] at JA
                  go_wp2_with (first | (go_at_call 68; ((with_reducible refine (CB.out _).mono ?_); rintro e w' ⟨rfl, rfl⟩)) | (go_at_call 69; ((with_reducible refine (JA.out _).mono ?_); rintro e w' ⟨rfl, rfl⟩)))
                  go_ret
                  exact ⟨by rw [HALL.out]; simp [refOk, hbo, noS, hr, sFar, hj, hcl, h6, hm], by have hbw := HBW.out; go_grown⟩
            · by_cases h1 : c = -1
              · subst h1
                by_cases h0 : off = 0
                · subst h0
                  have CB := Lib.hid fun W => calls_c ⟨op, dst, src, 0, (-1), sym, ref⟩ W
                  simp only [hcl] at CB
                  have JA := Lib.hid fun W => jumps_c ⟨op, dst, src, 0, (-1), sym, ref⟩ W
                  simp only [hj] at JA
                  go_wp2_with (first | (go_at_call 68; ((with_reducible refine (CB.out _).mono ?_); rintro e w' ⟨rfl, rfl⟩)) | (go_at_call 69; ((with_reducible refine (JA.out _).mono ?_); rintro e w' ⟨rfl, rfl⟩)))
                  refine Calls.mono (AT.out _ (by have hbw := HBW.out; go_grown) _) ?_
                  rintro e w3 ⟨rfl, hb3⟩
                  have hb4 : Below w.heap.size w w3 := by first | exact (HBW.out.alloc hz4 _).trans (hb3.mono (by simp; omega)) | exact ((HBW.out.alloc hz4 _).alloc (by simp; omega) _).trans (hb3.mono (by simp; omega)) | exact (((HBW.out.alloc hz4 _).alloc (by simp; omega) _).alloc (by simp; omega) _).trans (hb3.mono (by simp; omega))
                  have HB4 := Lib.hid hb4
                  clear hb3 hb4
                  by_cases hl : lAt xs ref < 0
                  · go_wp2_with fail
                    go_ret
                    exact ⟨by rw [HALL.out]; first | (simp [refOk, hbo, noS, hr, sFar, hj, hcl]; done) | (simp [refOk, hbo, noS, hr, sFar, hj, hcl]; omega), HB4.out⟩
                  · go_wp2_with fail
                    go_roundw
                    case rel => exact ⟨j + 1, by omega, by go_num, HB4.out, by rw [Hid, ← HLAB2.out, HALL.out]; first | (simp [refOk, hbo, noS, hr, sFar, hj, hcl]; done) | (simp [refOk, hbo, noS, hr, sFar, hj, hcl]; omega)⟩
                    case measure => simp [intOf]; omega
                · have CB := Lib.hid fun W => calls_c ⟨op, dst, src, off, (-1), sym, ref⟩ W
                  simp only [hcl] at CB
                  have JA := Lib.hid fun W => jumps_c ⟨op, dst, src, off, (-1), sym, ref⟩ W
                  simp only [hj] at JA
                  go_wp2_with (first | (go_at_call 68; ((with_reducible refine (CB.out _).mono ?_); rintro e w' ⟨rfl, rfl⟩)) | (go_at_call 69; ((with_reducible refine (JA.out _).mono ?_); rintro e w' ⟨rfl, rfl⟩)))
                  go_ret
                  exact ⟨by rw [HALL.out]; simp [refOk, hbo, noS, hr, sFar, hj, hcl, h0], by have hbw := HBW.out; go_grown⟩
              · have CB := Lib.hid fun W => calls_c ⟨op, dst, src, off, c, sym, ref⟩ W
                simp only [hcl] at CB
                have JA := Lib.hid fun W => jumps_c ⟨op, dst, src, off, c, sym, ref⟩ W
                simp only [hj] at JA
                go_wp2_with (first | (go_at_call 68; ((with_reducible refine (CB.out _).mono ?_); rintro e w' ⟨rfl, rfl⟩)) | (go_at_call 69; ((with_reducible refine (JA.out _).mono ?_); rintro e w' ⟨rfl, rfl⟩)))
                go_ret
                exact ⟨by rw [HALL.out]; simp [refOk, hbo, noS, hr, sFar, hj, hcl, h1], by have hbw := HBW.out; go_grown⟩
        · go_wp2_with fail
          go_ret
          exact ⟨by rw [HLAB2.out, hall.out, List.drop_of_length_le (by rw [L.out]; omega)]; rfl, hb⟩
end Go.Proofs.Ytakigeichhngbaa
