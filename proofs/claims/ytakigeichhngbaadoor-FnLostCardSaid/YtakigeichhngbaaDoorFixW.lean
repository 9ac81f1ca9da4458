import Derived.Test.YtakigeichhngbaaDoorBareW
import Derived.Test.YtakigeichhngbaaDoorStartsW
import Derived.Test.YtakigeichhngbaaDoorMarLab
import Derived.Deep.RegionWith
import Derived.Deep.CutRange
namespace Go.Proofs.YtakigeichhngbaaDoor
open Go.RowKit
set_option linter.unusedVariables false
set_option linter.unusedSimpArgs false
abbrev rowD (i : Ins) : Obj := .cells #[.int .i64 i.op, .int .i64 i.dst, .int .i64 i.src, .int .i64 i.off, .int .i64 i.c, .string i.sym, .string i.ref] 24
theorem fixL_take {xs : List Ins} {k : Nat} (hk : k < xs.length) : (fixL xs).take (k + 1) = (fixL xs).take k ++ [fixI xs k xs[k]] := by
  rw [List.take_succ_eq_append_getElem (by rw [fixL_len]; exact hk), fixL_at xs k hk]
theorem OwnI.mono {w : World} {B B' : Nat} {v : Value} {l : List Ins} (h : OwnI w B v l) (hB : B' ≤ B) : OwnI w B' v l := by
  refine ⟨h.1, ?_⟩
  rcases h.2 with h0 | ⟨g, cap, cur, e, hg, hr⟩
  · exact .inl h0
  · exact .inr ⟨g, cap, cur, e, Nat.le_trans hB hg, hr⟩
/-- where instructions begin, read out of the reference's row -/
theorem starts_at {w : World} {A : Option Addr} {xs : List Ins} (h : RowAt w A xs.length 1 (fun j => (offs xs xs.length).getD j undef)) (h0 : 0 < xs.length) :
    ∃ b o, A = some ⟨b, o, none⟩ ∧ b < w.heap.size ∧ ∀ j, j < xs.length → w.cell? ⟨b, o + j, none⟩ = some (.int .i64 (sumRaw (xs.take j))) := by
  obtain ⟨b, o, rfl, hlt, hc⟩ := h.resolve_left (by omega)
  refine ⟨b, o, rfl, hlt, fun j hj => ?_⟩
  have := hc j (by omega)
  simpa [offs, hj] using this
theorem fix_set0 {wr wc : World} {cs : Array Value} (hx : wc.heap[wr.heap.size]? = some (.cells cs 24 (0, 0))) (hb : Below wr.heap.size wr wc) (j : Nat) (v : Value) (o : Obj) :
    ((wc.setCell ⟨wr.heap.size, j, none⟩ v).alloc o).heap[wr.heap.size]? = some (.cells (cs.setIfInBounds j v) 24 (0, 0)) ∧ Below wr.heap.size wr ((wc.setCell ⟨wr.heap.size, j, none⟩ v).alloc o) := by
  have hlx : wr.heap.size < (wc.setCell ⟨wr.heap.size, j, none⟩ v).heap.size := by simpa [World.setCell] using lt_of_blk hx
  exact ⟨(Below.heap_alloc _ _ _ hlx).trans (heap_setCell_same _ _ _ _ _ _ hx), (hb.setCell (p := ⟨wr.heap.size, j, none⟩) (Nat.le_refl _) v).alloc (Nat.le_of_lt hlx) o⟩
/-- behind the jump's place: the box holds the instruction that is written -/
def FixBox (wr : World) (i' : Ins) (wx : World) : Prop := wx.heap[wr.heap.size]? = some (rowD i') ∧ Below wr.heap.size wr wx
theorem fix_set {wr wc : World} {i : Ins} (hx : wc.heap[wr.heap.size]? = some (rowD i)) (hb : Below wr.heap.size wr wc) (j : Nat) (v : Value) (o : Obj) (f : Ins)
    (hf : rowD f = .cells (#[.int .i64 i.op, .int .i64 i.dst, .int .i64 i.src, .int .i64 i.off, .int .i64 i.c, .string i.sym, .string i.ref].setIfInBounds j v) 24 (0, 0)) : FixBox wr f ((wc.setCell ⟨wr.heap.size, j, none⟩ v).alloc o) := by
  have h := fix_set0 hx hb j v o
  exact ⟨by rw [hf]; exact h.1, h.2⟩
set_option maxRecDepth 100000 in
set_option maxHeartbeats 4000000 in
theorem SFixed_c (A : Option Addr) (n cap : Nat) (xs : List Ins) (w : World) (h : InsAt w A n xs) (hlab : labOk xs = true) :
    Calls Tryd.prog 16 #[.slice A n cap] w fun e w' => ∃ v, e = .returned v ∧ OwnI w' w.heap.size v (fixL xs) ∧ Below w.heap.size w w' := by
  have hl60 := (labOk_at hlab).1
  have hn60 : n ≤ 60 := by have := h.1; omega
  have SC := Lib.hid (Starts_c A n cap xs w h (by omega))
  have AT := Lib.hid fun (W : World) (hb : Below w.heap.size w W) (s : ByteArray) => at_c A n cap xs s W (h.keep hb) (by omega)
  obtain ⟨hl, h⟩ := h
  obtain ⟨i0, hi0, hz0, hz1, hz2⟩ := info_parts ins_info
  have H := Lib.hid h
  have L := Lib.hid hl
  have HLAB := Lib.hid hlab
  have S := Lib.hid hz0
  have S1 := Lib.hid hz1
  have S2 := Lib.hid hz2
  have S0 := Lib.hid hi0
  clear h hl hz0 hz1 hz2 hi0 hlab
  go_enter Tryd.func16, Tryd.ntmps16
  go_wp2_with fail
  refine SC.out.mono ?_
  rintro e w1 ⟨⟨As, cs, rfl, hr⟩, hb1⟩
  have HR := Lib.hid hr
  have HB1 := Lib.hid hb1
  have O0 := Lib.hid (own_litI w1)
  have hz1 := hb1.size
  clear hr hb1 SC
  go_wp2_with fail
  go_loopw [5, 17] (fun v i wr => ∃ k : Nat, k ≤ n ∧ i = .int .i64 k ∧ OwnI wr w1.heap.size v ((fixL xs).take k) ∧ Below w1.heap.size w1 wr) (fun _ i _ => n - (intOf i).toNat)
  case atStart => exact ⟨0, Nat.zero_le _, rfl, O0.out, (Below.refl _ _).alloc (Nat.le_refl _) _⟩
  case round =>
    obtain ⟨k, hk, rfl, hown, hb⟩ := hrel
    by_cases hk' : k < n
    · have hkl : k < xs.length := by rw [L.out]; exact hk'
      obtain ⟨b, o, rfl, hlt, hc⟩ := H.out.resolve_left (by omega)
      obtain ⟨i, hi⟩ : ∃ i, i = xs[k] := ⟨_, rfl⟩
      have hbw := HB1.out.trans (hb.mono hz1)
      obtain ⟨c0, c1, c2, c3, c4, c5, c6⟩ := (show InsCells w b (o + k * 7) i from by rw [hi]; exact hc k _).keep hbw hlt
      have htk : (fixL xs).take (k + 1) = (fixL xs).take k ++ [fixI xs k i] := by rw [fixL_take hkl, hi]
      have hlk : ((fixL xs).take k).length = k := by rw [List.length_take, fixL_len]; omega
      have hrk := (labOk_at HLAB.out).2.2 k hkl
      rw [← hi] at hrk
      generalize (fixL xs).take k = pre at hown htk hlk
      have HTK := Lib.hid htk
      have HOWN := Lib.hid hown
      have LK := Lib.hid hlk
      have HRK := Lib.hid hrk
      obtain ⟨A1, n1, k1, rfl, -⟩ := hown.slice
      have HB := Lib.hid hb
      have HBW := Lib.hid hbw
      have hz := hb.size
      have hzw := hbw.size
      have hlt2 : b < wr.heap.size := Nat.lt_of_lt_of_le hlt hbw.size
      clear hi hc htk hown hlk hb hbw hrk
      go_upto_if 24 with fail
      go_cut [8] from 22 to 48 (fun s8 wx => FixBox wr (fixI xs k i) wx)
      case first =>
        cases hr : i.ref.toList.isEmpty
        · have hfound := (ref_jump HRK.out hr).2.1
          obtain ⟨q, hq⟩ : ∃ q : Nat, lAt xs i.ref = (q : Int) := ⟨(lAt xs i.ref).toNat, by omega⟩
          have hql : q < xs.length := by have := lAt_bd hfound; rw [hq] at this; simpa using this
          obtain ⟨bs, os, rfl, hbs, hst⟩ := starts_at HR.out (by omega)
          have sq0 := sumRaw_take xs hl60 q
          have sk0 := sumRaw_take xs hl60 k
          have aq := hst q hql
          have ak := hst k hkl
          obtain ⟨sq, hsq⟩ : ∃ x, x = sumRaw (xs.take q) := ⟨_, rfl⟩
          obtain ⟨sk, hsk⟩ : ∃ x, x = sumRaw (xs.take k) := ⟨_, rfl⟩
          rw [← hsq] at sq0 aq
          rw [← hsk] at sk0 ak
          have HSQ := Lib.hid hsq
          have HSK := Lib.hid hsk
          have HQ := Lib.hid hq
          have ATI := Lib.hid fun (W : World) (hb : Below w.heap.size w W) => (hq ▸ AT.out W hb i.ref : Calls Tryd.prog 41 #[.slice (some ⟨b, o, none⟩) n cap, .string i.ref] W fun e w' => e = .returned (.int .i64 (q : Int)) ∧ Below W.heap.size W w')
          have hbA := (Below.refl wr.heap.size wr).alloc (Nat.le_refl _) (rowD i)
          have hbs2 : bs < wr.heap.size := Nat.lt_of_lt_of_le hbs hz
          have bq := (hbA.cell (p := ⟨bs, os + q, none⟩) hbs2).trans ((HB.out.cell (p := ⟨bs, os + q, none⟩) hbs).trans aq)
          have bk := (hbA.cell (p := ⟨bs, os + k, none⟩) hbs2).trans ((HB.out.cell (p := ⟨bs, os + k, none⟩) hbs).trans ak)
          obtain ⟨x0, x1, x2, x3, x4, x5, x6⟩ := cells7 (heap_alloc_new wr (rowD i))
          have HBWA := Lib.hid (HBW.out.alloc hzw (rowD i))
          have hbs3 : bs < (wr.alloc (rowD i)).heap.size := by simp; omega
          have hqn : (q : Int) < (xs.length : Int) := by omega
          have hkn : (k : Int) < (xs.length : Int) := by omega
          have e1 := Lib.hid (show IntKind.i64.wrap (sq - sk) = sq - sk from IntWalk.i64_in _ (by omega))
          have e2 := Lib.hid (show IntKind.i64.wrap (sq - sk - 1) = sq - sk - 1 from IntWalk.i64_in _ (by omega))
          clear hsq hsk hq aq ak hst hbA
          go_upto_region 7 with fail
          go_cut [8] from 25 to 37 (fun s8 wx => s8 = .int .i64 (sq - sk - 1) ∧ Below (wr.alloc (rowD i)).heap.size (wr.alloc (rowD i)) wx)
          case first =>
            go_region_with (first | (go_at_call 41; ((with_reducible refine (ATI.out _ ?_).mono ?_); exact HBWA.out.drew; rintro e w' ⟨rfl, hb'⟩; have dq := (hb'.cell (p := ⟨bs, os + q, none⟩) hbs3).trans bq; have dk := (hb'.cell (p := ⟨bs, os + k, none⟩) hbs3).trans bk; have HB' := Lib.hid hb'; clear hb')))
            all_goals
              go_wp2_with fail
              go_meet
              case rel => exact ⟨by rw [e1.out, e2.out], (Below.refl _ _).drew.trans HB'.out⟩
          case rest =>
            obtain ⟨rfl, hb2⟩ := hcut
            have hx2 := (hb2.block wr.heap.size (by simp)).trans (heap_alloc_new wr (rowD i))
            have hbY := ((Below.refl wr.heap.size wr).alloc (Nat.le_refl _) (rowD i)).trans (hb2.mono (by simp))
            have hlx : wr.heap.size < wc.heap.size := lt_of_blk hx2
            obtain ⟨v0, v1, v2, v3, v4, v5, v6⟩ := cells7 hx2
            have vz : ∀ j, wc.frozen? ⟨wr.heap.size, j, none⟩ = false := fun j => frozen_of_row _ _ _ _ _ hx2
            have HX2 := Lib.hid hx2
            have HBY := Lib.hid hbY
            have CA := Lib.hid (calls_c i wc)
            clear hb2 hx2 hbY x0 x1 x2 x3 x4 x5 x6 bq bk
            have hfx : fixI xs k i = bif sFar i then { i with c := sq - sk - 1 } else { i with off := sq - sk - 1 } := by
              unfold fixI
              rw [show noS i.ref = false from hr, HQ.out, HSQ.out, HSK.out]
              rfl
            cases hcl : sCalls i
            · cases h6 : (i.op == 6)
              · have hff : sFar i = false := by simp only [sFar, hcl, h6]; rfl
                rw [hff] at hfx
                rw [hcl] at CA
                go_wp2_with (first | (go_at_call 39; ((with_reducible refine CA.out.mono ?_); rintro e w' ⟨rfl, rfl⟩)))
                go_meet
                case rel => exact fix_set HX2.out HBY.out 3 _ _ _ (by rw [hfx]; rfl)
              · have hff : sFar i = true := by simp only [sFar, hcl, h6]; rfl
                rw [hff] at hfx
                rw [hcl] at CA
                go_wp2_with (first | (go_at_call 39; ((with_reducible refine CA.out.mono ?_); rintro e w' ⟨rfl, rfl⟩)))
                go_meet
                case rel => exact fix_set HX2.out HBY.out 4 _ _ _ (by rw [hfx]; rfl)
            · have hff : sFar i = true := by simp only [sFar, hcl]; rfl
              rw [hff] at hfx
              rw [hcl] at CA
              go_wp2_with (first | (go_at_call 39; ((with_reducible refine CA.out.mono ?_); rintro e w' ⟨rfl, rfl⟩)))
              go_meet
              case rel => exact fix_set HX2.out HBY.out 4 _ _ _ (by rw [hfx]; rfl)
        · have hfx : fixI xs k i = i := by unfold fixI; rw [show noS i.ref = true from hr]; rfl
          go_wp2_with fail
          go_meet
          case rel => rw [hfx]; exact ⟨heap_alloc_new wr _, (Below.refl _ _).alloc (Nat.le_refl _) _⟩
      case rest =>
        obtain ⟨hbx, hbY⟩ := hcut
        generalize fixI xs k i = f at hbx HTK
        obtain ⟨y0, y1, y2, y3, y4, y5, y6⟩ := cells7 hbx
        have HOY := Lib.hid (own_below HOWN.out hbY)
        have HBY := Lib.hid (HB.out.trans (hbY.mono hz))
        have hzY := HBY.out.size
        clear hbx hbY HOWN
        go_wp2_with (first | (at_builtin; go_loud (refine wpList_append_own _ rfl (.tmp 49) (.tmp 51) 31 rfl w1.heap.size 24 i0 (.agg #[.int .i64 0, .int .i64 0, .int .i64 0, .int .i64 0, .int .i64 0, .string ⟨#[]⟩, .string ⟨#[]⟩]) 7 72 Tryd.underlying31 S0.out S.out S1.out S2.out rfl (by decide) _ _ _ rfl (World.ownsRow.alloc HOY.out _) ⟨wc.heap.size, 0, none⟩ 1 1 (TCells f) rfl rfl ?c1 (tcells_one f) ?c3 ?c4 ?c5 ?_)))
        case c1 =>
          intro j u hj
          simp only [TCells] at hj
          have hh := heap_alloc_new wc (rowD f)
          rw [add_off, Nat.zero_add, cell_of_row _ _ _ _ _ _ hh]
          simpa using hj
        case c3 => rw [LK.out]; unfold maxLen; omega
        case c4 => rw [LK.out]; omega
        case c5 => simp; omega
        intro v3 w3 hown3 hg3 _
        have hb3 : Below w1.heap.size w1 w3 := (HBY.out.alloc hzY _).grown hg3 (by simp; omega) (fun b hb => (World.ownsRow.lt HOY.out b hb).1)
        have ho3 : OwnI w3 w1.heap.size v3 ((fixL xs).take (k + 1)) := by
          rw [HTK.out]
          rw [LK.out] at hown3
          exact own_snocI LK.out hown3
        have HO3 := Lib.hid ho3
        have HB3 := Lib.hid hb3
        clear hown3 hg3 ho3 HTK hb3
        go_wp2
        go_roundw
        case rel => exact ⟨k + 1, by omega, by go_num, HO3.out, HB3.out⟩
        case measure => simp [intOf]; omega
    · have hall : (fixL xs).take k = fixL xs := List.take_of_length_le (by rw [fixL_len, L.out]; omega)
      rw [hall] at hown
      have HO := Lib.hid hown
      have HB := Lib.hid hb
      obtain ⟨A1, n1, k1, rfl, -⟩ := hown.slice
      clear hall hown hb
      go_wp2
      go_ret
      exact ⟨_, rfl, OwnI.mono HO.out hz1, HB1.out.trans (HB.out.mono hz1)⟩
end Go.Proofs.YtakigeichhngbaaDoor
