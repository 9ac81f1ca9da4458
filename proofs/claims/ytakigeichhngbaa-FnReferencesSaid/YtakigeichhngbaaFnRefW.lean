import Derived.Test.YtakigeichhngbaaRefL
import Derived.Test.YtakigeichhngbaaSortsB
import Derived.Test.YtakigeichhngbaaCloneW
import Derived.Test.YtakigeichhngbaaLabW
import Derived.Test.YtakigeichhngbaaSizeW
namespace Go.Proofs.Ytakigeichhngbaa
open Go.RowKit
set_option linter.unusedVariables false
set_option linter.unusedSimpArgs false
open Go.Sort Go.Maps
theorem bare_fitsS {i : Ins} (h : bareOk i = true) : i.Fits := by
  obtain ⟨⟨a, b⟩, ⟨c, d⟩, ⟨e, f⟩, ⟨g, k⟩, -, -⟩ := bare_okN h
  exact ⟨⟨a, by omega⟩, ⟨c, by omega⟩, ⟨e, by omega⟩, g, k⟩
theorem labOk_fitsS {xs : List Ins} (h : labOk xs = true) : ∀ i ∈ xs, i.Fits := fun i hi => by
  obtain ⟨_, _, hall⟩ := labOk_at h
  obtain ⟨k, hk, rfl⟩ := List.mem_iff_getElem.1 hi
  exact bare_fitsS (refOk_bare (hall k hk))
theorem labOk_sz {xs : List Ins} (h : labOk xs = true) : ∀ i ∈ xs, i.sym.size ≤ maxLen := fun i hi => by
  obtain ⟨k, hk, rfl⟩ := List.mem_iff_getElem.1 hi
  unfold maxLen
  cases hn : noS xs[k].sym
  · have := (symsOk_dist xs [] (labOk_at h).2.1 k hk hn).2.1
    omega
  · rw [empty_bytes hn]
    decide
def one0 : Ins := ⟨149, 0, 0, 0, 0, ⟨#[]⟩, ⟨#[]⟩⟩
theorem one_fits : one0.Fits := by
  have h : one0.op = 149 ∧ one0.dst = 0 ∧ one0.src = 0 ∧ one0.off = 0 := ⟨rfl, rfl, rfl, rfl⟩
  obtain ⟨a, b, c, d⟩ := h
  refine ⟨?_, ?_, ?_, ?_⟩ <;> simp only [a, b, c, d] <;> decide
theorem one_size (w : World) : Calls Try.prog 21 #[.slice (some ⟨w.heap.size, 0, none⟩) 1 1] (w.alloc (.cells #[.int .i64 149, .int .i64 0, .int .i64 0, .int .i64 0, .int .i64 0, .string ⟨#[]⟩, .string ⟨#[]⟩] 23))
    fun e w' => e = .returned (.int .i64 8) ∧ Below (w.alloc (.cells #[.int .i64 149, .int .i64 0, .int .i64 0, .int .i64 0, .int .i64 0, .string ⟨#[]⟩, .string ⟨#[]⟩] 23)).heap.size (w.alloc (.cells #[.int .i64 149, .int .i64 0, .int .i64 0, .int .i64 0, .int .i64 0, .string ⟨#[]⟩, .string ⟨#[]⟩] 23)) w' := by
  have ho : OwnI (w.alloc (.cells #[.int .i64 149, .int .i64 0, .int .i64 0, .int .i64 0, .int .i64 0, .string ⟨#[]⟩, .string ⟨#[]⟩] 23)) w.heap.size (.slice (some ⟨w.heap.size, 0, none⟩) 1 1) [one0] :=
    ⟨by simp [tcells, TCells, one0], .inr ⟨w.heap.size, 1, #[.int .i64 149, .int .i64 0, .int .i64 0, .int .i64 0, .int .i64 0, .string ⟨#[]⟩, .string ⟨#[]⟩], rfl, Nat.le_refl _, heap_alloc_new w _, Nat.le_refl _, by decide, rfl, rfl⟩⟩
  obtain ⟨A, c, e, hi⟩ := ho.ins (n := 1) rfl
  injection e with e1 _ e2
  subst e1 e2
  have e8 : 8 * sumRaw [one0] = 8 := by
    have : pRaw 149 = 1 := by decide +kernel
    simp [sumRaw, one0, this]
  have hs := impSize_c _ 1 1 [one0] _ hi (by decide) (fun i hi => by rw [List.mem_singleton.1 hi]; exact one_fits)
  rw [e8] at hs
  exact hs
set_option maxRecDepth 100000 in
set_option maxHeartbeats 2000000 in
theorem fnRef_all (A : Option Addr) (n cap : Nat) (xs : List Ins) (w : World) (h : InsAt w A n xs) (hn : n ≤ maxLen) (hcb : ∀ i ∈ xs, CBd i) :
    Calls Try.prog 6 #[.slice A n cap] w fun e w' => e = .returned (.bool true) ∧ Below w.heap.size w w' := by
  have hn63 : n ≤ 9223372036854775807 := hn
  cases hz : (decide (n ≤ 2147483647) && xs.all fun i => zzIns i.sym i.ref)
  · have Z := Lib.hid (zzFits1_c A n cap xs w h hn63)
    rw [hz] at Z
    clear hz h hn hn63 hcb
    go_enter Try.func6, Try.ntmps6
    go_wp2_with fail
    refine Z.out.mono ?_
    rintro e w1 ⟨rfl, hb1⟩
    have HB := Lib.hid hb1
    clear hb1
    go_wp2
    go_ret
    exact ⟨rfl, HB.out⟩
  · have hn31 : n ≤ 2147483647 := by simp only [Bool.and_eq_true, decide_eq_true_eq] at hz; exact hz.1
    have hzi : ∀ i ∈ xs, i.sym.size ≤ 2147483647 ∧ i.ref.size ≤ 2147483647 := by
      simp only [Bool.and_eq_true, decide_eq_true_eq, List.all_eq_true] at hz
      intro i hi
      have := hz.2 i hi
      simpa [zzIns] using this
    have hsy : ∀ i ∈ xs, i.sym.size ≤ 2147483647 := fun i hi => (hzi i hi).1
    cases hp : labOk xs
    · skip
      have Z := Lib.hid (zzFits1_c A n cap xs w h hn63)
      rw [hz] at Z
      have P := Lib.hid fun (W : World) (hb : Below w.heap.size w W) => ProgramOk_c A n cap xs W (h.keep hb) hn31 hsy
      rw [hp] at P
      clear hz hp h hn hn63 hcb hzi hsy
      go_enter Try.func6, Try.ntmps6
      go_wp2_with fail
      refine Z.out.mono ?_
      rintro e w1 ⟨rfl, hb1⟩
      have HB := Lib.hid hb1
      have hz1 := hb1.size
      have P1 := Lib.hid (P.out w1 hb1)
      clear hb1 P Z
      go_wp2_with fail
      refine P1.out.mono ?_
      rintro e w2 ⟨rfl, hb2⟩
      have hbw2 := HB.out.trans (hb2.mono hz1)
      have HB2 := Lib.hid hbw2
      have hz2 := hbw2.size
      clear hb2 P1 HB
      clear hbw2
      go_wp2
      go_ret
      exact ⟨rfl, HB2.out⟩
    · have hl60 := (labOk_at hp).1
      have hln := h.1
      have Z := Lib.hid (zzFits1_c A n cap xs w h hn63)
      rw [hz] at Z
      have P := Lib.hid fun (W : World) (hb : Below w.heap.size w W) => ProgramOk_c A n cap xs W (h.keep hb) hn31 hsy
      rw [hp] at P
      have HIN := Lib.hid fun (W : World) (hb : Below w.heap.size w W) => h.keep hb
      have HLAB := Lib.hid hp
      have HCB := Lib.hid hcb
      have HRZ := Lib.hid (show ∀ i ∈ xs, i.ref.size ≤ maxLen from fun i hi => by have := (hzi i hi).2; unfold maxLen; omega)
      have hn60 : n ≤ 60 := by omega
      have HLN := Lib.hid hln
      clear hz hp h hn hn63 hcb hln hzi hsy
      go_enter Try.func6, Try.ntmps6
      go_wp2_with fail
      refine Z.out.mono ?_
      rintro e w1 ⟨rfl, hb1⟩
      have HB := Lib.hid hb1
      have hz1 := hb1.size
      have P1 := Lib.hid (P.out w1 hb1)
      clear hb1 P Z
      go_wp2_with fail
      refine P1.out.mono ?_
      rintro e w2 ⟨rfl, hb2⟩
      have hbw2 := HB.out.trans (hb2.mono hz1)
      have HB2 := Lib.hid hbw2
      have hz2 := hbw2.size
      clear hb2 P1 HB
      clear hbw2
      have HFIT := Lib.hid (labOk_fitsS HLAB.out)
      obtain ⟨j0, r0, r1, r2, r3⟩ := info_parts intS_info
      have J0 := Lib.hid r0
      have J1 := Lib.hid r1
      have J2 := Lib.hid r2
      have J3 := Lib.hid r3
      clear r0 r1 r2 r3
      have RF := Lib.hid (References_c A n cap xs w2 (HIN.out w2 HB2.out) (by omega) HFIT.out HRZ.out)
      go_wp2_with fail
      refine RF.out.mono ?_
      rintro e w3 ⟨hb3, ts, v1, v2, rfl, hsaid, ho1, vs, hvs, hin⟩
      obtain ⟨A1, c1, h1, hc1⟩ := ho1.row
      obtain ⟨A2, c2, h2⟩ := own_sl hvs
      simp only [List.length_map] at h2 hvs
      have hm60 : ts.length ≤ 60 := by have := hsaid.len; have := cntR_len xs; omega
      obtain ⟨m, hm⟩ : ∃ m, m = ts.length := ⟨_, rfl⟩
      have HM := Lib.hid hm
      rw [← hm] at h1 h2 hm60 hvs
      subst h1 h2
      have IS := Lib.hid (IsSorted_c A1 c1 ts w3 (by omega) hsaid.sorted hc1)
      rw [← hm] at IS
      have hb3w := HB2.out.trans (hb3.mono hz2)
      have HB3 := Lib.hid hb3w
      have hz3 := hb3w.size
      obtain ⟨S, hS⟩ : ∃ S, S = sumQ xs ts := ⟨_, rfl⟩
      have hS0 : S 0 = 0 := by rw [hS]; rfl
      have hSle : ∀ q, S q ≤ 60 := fun q => by rw [hS]; have := sumQ_le hsaid q; have := cntR_len xs; omega
      have hSm : S m = cntR xs := by rw [hS, hm]; exact sumQ_all hsaid
      have KEY := Lib.hid (show ∀ q, q < m → ∃ (g1 g2 : Nat) (x : ByteArray) (zs : List Int) (Aq : Option Addr) (cq : Nat), A1 = some ⟨g1, 0, none⟩ ∧ g1 < w3.heap.size ∧ w3.cell? ⟨g1, q, none⟩ = some (.string x) ∧ A2 = some ⟨g2, 0, none⟩ ∧ g2 < w3.heap.size ∧ w3.cell? ⟨g2, q, none⟩ = some (.slice Aq zs.length cq) ∧
          OwnZ w3 w2.heap.size (.slice Aq zs.length cq) zs ∧ zs = rAt xs x ∧ zs ≠ [] ∧ S (q + 1) = S q + zs.length from fun q hq => by
        have hql : q < ts.length := by rw [← hm]; exact hq
        obtain ⟨g1, e1, e2, e3⟩ := hc1 q hql
        obtain ⟨u, hu, ho⟩ := hin q (by simpa using hql)
        simp only [List.getElem_map] at ho
        obtain ⟨Aq, cq, rfl⟩ := own_sl ho
        have hmem := (hsaid.mem ts[q]).1 (List.getElem_mem hql)
        rcases hvs.2 with ⟨-, h0⟩ | ⟨g2, cap2, cur2, e, -, hh, -⟩
        · omega
        · injection e with ea eb ec
          subst ea
          refine ⟨g1, g2, bOf ts[q], rAt xs (bOf ts[q]), Aq, cq, e1, e2, e3, rfl, lt_of_blkS hh, ?_, ho, rfl, hmem.2, by rw [hS]; exact sumQ_succ hql⟩
          rw [World.ownsRow.cellAt hvs q (by have := hvs.1; omega)]
          exact hu)
      clear hb3 hb3w hsaid ho1 hvs hin hc1 RF hm hS
      go_wp2_with fail
      refine IS.out.mono ?_
      rintro e w4 ⟨rfl, hb4⟩
      have HB34 := Lib.hid hb4
      have HB4 := Lib.hid (HB3.out.trans (hb4.mono hz3))
      have hz4 := HB4.out.size
      have hz34 := hb4.size
      clear hb4 IS
      go_wp2_with fail
      go_loopw [5, 36] (fun nn i wr2 => ∃ q : Nat, q ≤ m ∧ i = .int .i64 q ∧ nn = .int .i64 (S q) ∧ Below w4.heap.size w4 wr2) (fun _ i _ => m - (intOf i).toNat)
      case atStart => exact ⟨0, Nat.zero_le _, rfl, by rw [hS0]; rfl, Below.refl _ _⟩
      case round =>
        obtain ⟨q, hq, rfl, rfl, hbq⟩ := hrel
        have HBQ4 := Lib.hid hbq
        have HBQ := Lib.hid (HB4.out.trans (hbq.mono hz4))
        have hb3q : Below w3.heap.size w3 wr := HB34.out.trans (hbq.mono hz34)
        have HB3Q := Lib.hid hb3q
        have hzq := HBQ.out.size
        have hz4q := hbq.size
        have hz3q := hb3q.size
        obtain ⟨wo, hwo⟩ : ∃ y, y = wr := ⟨_, rfl⟩
        subst hwo
        clear hbq
        by_cases hq' : q < m
        · obtain ⟨g1, g2, x, zs, Aq, cq, rfl, hg1, hc1, rfl, hg2, hc2, hoz, hzs, hne, hS1⟩ := KEY.out q hq'
          have hc1q := (hb3q.cell (p := ⟨g1, q, none⟩) hg1).trans hc1
          have hg1q : g1 < wo.heap.size := by omega
          have HC2 := Lib.hid hc2
          have HOZ := Lib.hid hoz
          have HZS := Lib.hid hzs
          have hzl : zs.length ≤ 60 := by have := hSle (q + 1); omega
          have hz0 : 0 < zs.length := List.length_pos_iff.2 hne
          have hSq := hSle q
          have hwrap : IntKind.i64.wrap ((S q : Int) + (zs.length : Int)) = (S (q + 1) : Int) := by rw [IntWalk.i64_in _ (by omega)]; omega
          have hnz : ((zs.length : Int) == 0) = false := by simp; omega
          have OZ0 := Lib.hid (show OwnZ (wo.alloc (.cells #[] 3)) wo.heap.size (.slice (some ⟨wo.heap.size, 0, none⟩) 0 0) [] from by simpa [OwnZ] using World.ownsRow_lit (base := wo.heap.size) (e := 3) (size := 1) wo #[] 0 (Nat.le_refl _) (by simp) rfl)
          clear hb3q hc1 hc2 hoz hzs hne hS1
          go_wp2_with fail
          go_loopw [8, 44] (fun v i wr3 => ∃ j : Nat, j ≤ n ∧ i = .int .i64 j ∧ OwnZ wr3 wo.heap.size v (rAt (xs.take j) x) ∧ Below wo.heap.size wo wr3) (fun _ i _ => n - (intOf i).toNat)
          case atStart => exact ⟨0, Nat.zero_le _, rfl, by simpa [rAt, rAtF] using OZ0.out, (Below.refl _ _).alloc (Nat.le_refl _) _⟩
          case round =>
            obtain ⟨j, hj, rfl, hozj, hbj⟩ := hrel
            have HBJ := Lib.hid hbj
            have HOZJ := Lib.hid hozj
            have hzj := hbj.size
            clear hbj hozj OZ0
            by_cases hj' : j < n
            · have hjl : j < xs.length := by rw [HLN.out]; exact hj'
              obtain ⟨b, o, rfl, hlt, hc⟩ := (HIN.out wo HBQ.out).2.resolve_left (by omega)
              obtain ⟨iv, hi⟩ : ∃ i, i = xs[j] := ⟨_, rfl⟩
              obtain ⟨c0, c1, c2, c3, c4, c5, c6⟩ := (show InsCells wo b (o + j * 7) iv from by rw [hi]; exact hc j _).keep HBJ.out hlt
              have HI := Lib.hid hi
              have hlt2 : b < wr.heap.size := Nat.lt_of_lt_of_le hlt hzj
              have hll : (rAt (xs.take j) x).length ≤ 60 := by have := rAt_len (xs.take j) x; have h2 : (xs.take j).length ≤ j := List.length_take_le _ _; omega
              have hjk : ((xs.take j).length : Int) = j := by rw [List.length_take]; omega
              have HTK := Lib.hid (show rAt (xs.take (j + 1)) x = rAt (xs.take j) x ++ bif sameS iv.ref x then [(j : Int)] else [] from by rw [List.take_succ_eq_append_getElem hjl, rAt_snoc, HI.out, hjk])
              clear hi hc hjk
              cases hsn : (iv.ref.toList == x.toList)
              · have HT0 := Lib.hid (show rAt (xs.take (j + 1)) x = rAt (xs.take j) x from by rw [HTK.out, show sameS iv.ref x = false from hsn]; simp)
                go_wp2_with fail
                go_roundw
                case rel => exact ⟨j + 1, by omega, by go_num, by rw [HT0.out]; exact World.ownsRow.alloc HOZJ.out _, HBJ.out.alloc hzj _⟩
                case measure => simp [intOf]; omega
              · have HT1 := Lib.hid (show rAt (xs.take (j + 1)) x = rAt (xs.take j) x ++ [(j : Int)] from by rw [HTK.out, show sameS iv.ref x = true from hsn]; simp)
                clear HTK
                generalize rAt (xs.take j) x = pre at HOZJ HT1 hll
                obtain ⟨Av, cv, hv, -⟩ := HOZJ.out.row
                subst hv
                have HR2 := Lib.hid (show (((wr.alloc (.cells #[.int .i64 iv.op, .int .i64 iv.dst, .int .i64 iv.src, .int .i64 iv.off, .int .i64 iv.c, .string iv.sym, .string iv.ref] 23)).alloc (.cells #[.int .i64 (j : Int)] 3))).ownsRow wo.heap.size 3 1 (.slice Av pre.length cv) pre.length (pre.map (Value.int .i64)) from World.ownsRow.alloc (World.ownsRow.alloc HOZJ.out _) _)
                go_wp2_with (first | (at_builtin; go_loud (refine wpList_append_own _ rfl (.tmp 53) (.tmp 55) 25 rfl wo.heap.size 3 j0 (.int .i64 0) 1 8 Try.underlying25 J0.out J1.out J2.out J3.out rfl (by decide) _ _ _ rfl HR2.out ⟨wr.heap.size + 1, 0, none⟩ 1 1 [.int .i64 (j : Int)] rfl rfl ?c1 ?c2 ?c3 ?c4 ?c5 ?_)))
                case c1 =>
                  intro y u hy
                  have hh := heap_alloc_new (wr.alloc (.cells #[.int .i64 iv.op, .int .i64 iv.dst, .int .i64 iv.src, .int .i64 iv.off, .int .i64 iv.c, .string iv.sym, .string iv.ref] 23)) (.cells #[.int .i64 (j : Int)] 3)
                  rw [World.size_alloc] at hh
                  rw [add_off, Nat.zero_add, cell_of_row _ _ _ _ _ _ hh]
                  simpa using hy
                case c2 => first | rfl | simp [Value.oneCell']
                case c3 => unfold maxLen; omega
                case c4 => omega
                case c5 => first | omega | (simp; omega)
                intro v5 w5 hown5 hg5 _
                have hb5 : Below wo.heap.size wo w5 := ((HBJ.out.alloc hzj _).alloc (by simp; omega) _).grown hg5 (by simp; omega) (fun y hy => (HR2.out.lt y hy).1)
                have HO5 := Lib.hid (show OwnZ w5 wo.heap.size v5 (rAt (xs.take (j + 1)) x) from by
                  rw [HT1.out]
                  unfold OwnZ
                  rw [List.length_append, List.map_append]
                  exact hown5)
                have HB5 := Lib.hid hb5
                clear hown5 hg5 hb5
                go_wp2_with fail
                go_roundw
                case rel => exact ⟨j + 1, by omega, by go_num, HO5.out, HB5.out⟩
                case measure => simp [intOf]; omega
            · obtain rfl : j = n := by omega
              have hall : xs.take j = xs := List.take_of_length_le (by rw [HLN.out]; exact Nat.le_refl _)
              rw [hall, ← HZS.out] at HOZJ
              obtain ⟨Aw, cw, hv, -⟩ := HOZJ.out.row
              subst hv
              have hb3e := HB3Q.out.trans (HBJ.out.mono hz3q)
              have HBE := Lib.hid (HBQ4.out.trans (HBJ.out.mono hz4q))
              have hc2e := (hb3e.cell (p := ⟨g2, q, none⟩) hg2).trans HC2.out
              have hg2e : g2 < wr.heap.size := Nat.lt_of_lt_of_le hg2 hb3e.size
              have EQ := Lib.hid (equalInts_c Aq Aw zs.length cq cw (fun y => zs.getD y 0) wr (by omega) (OwnZ.rowAt (own_belowS HOZ.out hb3e) rfl) (OwnZ.rowAt HOZJ.out rfl))
              clear hall hb3e
              go_wp2_with fail
              refine EQ.out.mono ?_
              rintro e w5 ⟨rfl, m5, rfl⟩
              go_wp2_with fail
              go_roundw
              case rel => exact ⟨q + 1, by omega, by go_num, rfl, ⟨HBE.out.os, HBE.out.tape, HBE.out.output, HBE.out.size, HBE.out.block⟩⟩
              case measure => simp [intOf]; omega
        · obtain rfl : q = m := by omega
          rw [hSm]
          have hcn := cntR_len xs
          go_wp2_with fail
          go_loopw [5, 77] (fun nn i wr3 => ∃ j : Nat, j ≤ n ∧ i = .int .i64 j ∧ nn = .int .i64 ((cntR xs : Int) - (cntR (xs.take j) : Int)) ∧ Below wo.heap.size wo wr3) (fun _ i _ => n - (intOf i).toNat)
          case atStart => exact ⟨0, Nat.zero_le _, rfl, by simp [cntR], Below.refl _ _⟩
          case round =>
            obtain ⟨j, hj, rfl, hnn, hbj⟩ := hrel
            have HBJ := Lib.hid hbj
            have hzj := hbj.size
            clear hbj
            by_cases hj' : j < n
            · have hjl : j < xs.length := by rw [HLN.out]; exact hj'
              obtain ⟨b, o, rfl, hlt, hc⟩ := (HIN.out wo HBQ.out).2.resolve_left (by omega)
              obtain ⟨iv, hi⟩ : ∃ i, i = xs[j] := ⟨_, rfl⟩
              obtain ⟨c0, c1, c2, c3, c4, c5, c6⟩ := (show InsCells wo b (o + j * 7) iv from by rw [hi]; exact hc j _).keep HBJ.out hlt
              have HI := Lib.hid hi
              have hlt2 : b < wr.heap.size := Nat.lt_of_lt_of_le hlt hzj
              have hcj := cntR_len (xs.take j)
              have hcj2 : (xs.take j).length ≤ j := List.length_take_le _ _
              have HTK := Lib.hid (show cntR (xs.take (j + 1)) = cntR (xs.take j) + bif noS iv.ref then 0 else 1 from by rw [List.take_succ_eq_append_getElem hjl, cntR_snoc, HI.out])
              subst hnn
              obtain ⟨z, hz⟩ : ∃ z : Int, z = (cntR xs : Int) - (cntR (xs.take j) : Int) := ⟨_, rfl⟩
              rw [← hz]
              have hz1 : -60 ≤ z ∧ z ≤ 60 := by omega
              have HZ := Lib.hid hz
              have hwr : IntKind.i64.wrap (z - 1) = z - 1 := IntWalk.i64_in _ (by omega)
              clear hi hc hz
              cases hsn : iv.ref.toList.isEmpty
              · have HT0 := Lib.hid (show cntR (xs.take (j + 1)) = cntR (xs.take j) + 1 from by rw [HTK.out, show noS iv.ref = false from hsn]; rfl)
                go_wp2_with fail
                go_roundw
                case rel => exact ⟨j + 1, by omega, by go_num, by rw [HT0.out]; exact congrArg (Value.int .i64) (by have := HZ.out; omega), HBJ.out.alloc hzj _⟩
                case measure => simp [intOf]; omega
              · have HT1 := Lib.hid (show cntR (xs.take (j + 1)) = cntR (xs.take j) from by rw [HTK.out, show noS iv.ref = true from hsn]; rfl)
                go_wp2_with fail
                go_roundw
                case rel => exact ⟨j + 1, by omega, by go_num, by rw [HT1.out, HZ.out], HBJ.out.alloc hzj _⟩
                case measure => simp [intOf]; omega
            · obtain rfl : j = n := by omega
              have hall : xs.take j = xs := List.take_of_length_le (by rw [HLN.out]; exact Nat.le_refl _)
              rw [hall, Int.sub_self] at hnn
              subst hnn
              have HBE := Lib.hid (HBQ.out.trans (HBJ.out.mono hzq))
              have hze := HBE.out.size
              clear hall
              go_wp2_with fail
              refine (one_size _).mono ?_
              rintro e w5 ⟨rfl, hb5⟩
              have HB5 := Lib.hid ((HBE.out.alloc hze _).trans (hb5.mono (by simp; omega)))
              clear hb5
              go_wp2_with fail
              go_ret
              exact ⟨rfl, HB5.out⟩
theorem fnRef_row (W : World) (A : Option Addr) (n cap : Nat) (xs : List Ins) (h : InsAt W A n xs ∧ n ≤ maxLen ∧ ∀ i ∈ xs, -9223372036854775808 ≤ i.c ∧ i.c ≤ 9223372036854775807) :
    Calls Try.prog 6 #[.slice A n cap] W fun e w' => e = .returned (.bool true) ∧ Below W.heap.size W w' := fnRef_all A n cap xs W h.1 h.2.1 h.2.2
end Go.Proofs.Ytakigeichhngbaa
