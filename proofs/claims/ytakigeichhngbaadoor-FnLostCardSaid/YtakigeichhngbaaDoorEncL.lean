import Derived.Test.YtakigeichhngbaaDoorEncS
import Derived.Deep.RegionWith
namespace Go.Proofs.YtakigeichhngbaaDoor
open Go.RowKit
open Go.Maps (Keyed string_keyed)
set_option linter.unusedVariables false
set_option linter.unusedSimpArgs false
theorem alloc_below {Y y3 : World} {X : Obj} (h : Y.alloc X = y3) : Below Y.heap.size Y y3 := by rw [← h]; exact (Below.refl _ _).alloc (Nat.le_refl _) _
theorem u64_far (a b : Int) (a0 : 0 ≤ a) (a1 : a ≤ 1000) (b0 : 0 ≤ b) (b1 : b ≤ 1000) :
    IntKind.i64.wrap (IntKind.u64.wrap (IntKind.u64.wrap (a - b) - 1)) = a - b - 1 ∧ IntKind.i16.wrap (IntKind.u64.wrap (IntKind.u64.wrap (a - b) - 1)) = a - b - 1 := by
  constructor <;> simp only [IntKind.wrap, IntKind.bits, IntKind.signed] <;> simp <;> omega
set_option maxRecDepth 100000 in
set_option maxHeartbeats 4000000 in
theorem EncL_c (g n cap : Nat) (l : List Ins) (errV : Value) (w : World) (hl : l.length = n) (hn : n ≤ 400) (hc : n ≤ cap) (hgc : ∃ cur, w.heap[g]? = some (.cells cur 65 (0, 0))) (hi : InsM w g l)
    (hs : symsOk [] l = true) (hk : ∀ i ∈ l, noS i.ref = false → RefKind i ∧ i.ref.size ≤ maxLen) (hE : w.cell? ⟨3, 0, none⟩ = some errV) (hEg : 3 ≠ g) :
    Calls Tryd.prog 68 #[.slice (some ⟨g, 0, none⟩) n cap] w (EncEnd w g l errV) := by
  have hmm := @run_makeMap Tryd.prog
  obtain ⟨cur0, hcur0⟩ := hgc
  have hg := lt_of_blk hcur0
  have hEl : 3 < w.heap.size := block_lt_of_cell hE
  have L := Lib.hid hl
  have HI := Lib.hid hi
  have HS := Lib.hid hs
  have HK := Lib.hid hk
  have HC0 := Lib.hid hcur0
  have HEE := Lib.hid hE
  clear hl hi hs hk hcur0 hE
  go_enter Tryd.func68, Tryd.ntmps68
  go_wp2_with fail
  have hb1 := (Below.refl w.heap.size w).alloc (Nat.le_refl _) (Obj.map #[] 0)
  have hm1 : ownM (w.alloc (Obj.map #[] 0)) w.heap.size 0 (.map []) := World.ownsMap_made _ _ _ _
  obtain ⟨mb, hmb⟩ : ∃ b, b = w.heap.size := ⟨_, rfl⟩
  have hlt1 : mb < (w.alloc (Obj.map #[] 0)).heap.size := by rw [hmb]; simp
  rw [← hmb] at hm1 ⊢
  have hmb1 : w.heap.size ≤ mb := by omega
  clear hmb
  revert hb1 hm1 hlt1
  generalize w.alloc (Obj.map #[] 0) = w1
  intro hb1 hm1 hlt1
  refine (Iterate_c _ _ ⟨_, _, _, rfl⟩).mono ?_
  rintro e w2 ⟨rfl, hw2⟩
  have hi2 := heap_alloc_new w1 (.cells #[.slice (some ⟨g, 0, none⟩) n cap, .pointer none, .int .i64 0, .int .u64 0] 149)
  have hb2 := hb1.alloc (by omega) (.cells #[.slice (some ⟨g, 0, none⟩) n cap, .pointer none, .int .i64 0, .int .u64 0] 149)
  have hm2 : ownM (w1.alloc (.cells #[.slice (some ⟨g, 0, none⟩) n cap, .pointer none, .int .i64 0, .int .u64 0] 149)) mb 0 (.map []) := World.ownsMap.alloc hm1 _
  rw [hw2] at hi2 hb2 hm2
  obtain ⟨it, hit⟩ : ∃ it, it = w1.heap.size := ⟨_, rfl⟩
  have hit0 : w.heap.size ≤ it := by rw [hit]; omega
  have hgi : g ≠ it := by omega
  have hmi : mb ≠ it := by omega
  have hgm : g ≠ mb := by omega
  rw [← hit] at hi2 ⊢
  have R0 := Lib.hid (show Enc1 w it g n cap mb l n w2 from ⟨0, .map [], rfl, Nat.zero_le _, ⟨0, fun _ => rfl, .inl ⟨rfl, hi2⟩⟩, hb2, hm2, LabD.start l⟩)
  clear hw2 hi2 hb1 hb2 hit hm1 hm2 hlt1
  go_wp2_with fail
  go_loopg [] n (fun gk wr => Enc1 w it g n cap mb l gk wr)
  case atStart => exact R0.out
  case round =>
    obtain ⟨k, D, hgk, hk, hst, hb, hown, hlab⟩ := hrel
    have HST := Lib.hid hst
    have HGK := Lib.hid hgk
    have HB := Lib.hid hb
    have HOWN := Lib.hid hown
    have HLAB := Lib.hid hlab
    clear hst hgk hb hown hlab
    by_cases hk' : k < n
    · have hkl : k < l.length := by rw [L.out]; exact hk'
      obtain ⟨iv, hiv⟩ : ∃ i, i = l[k] := ⟨_, rfl⟩
      have HIV := Lib.hid hiv
      have NS := Lib.hid (Next_step it g cap n l k _ HST.out L.out hn hc hk' hgi (fun j hj => (HB.out.cell (p := ⟨g, j * 6, none⟩) hg).trans (by obtain ⟨p, h1, _⟩ := HI.out j hj; exact h1.1)))
      go_wp2_with fail
      refine NS.out.mono ?_
      rintro e y1 ⟨rfl, hst2, hg2⟩
      obtain ⟨q1, q2, q3⟩ := hst2.at_
      have hb2 : Below w.heap.size w y1 := HB.out.grown hg2 HB.out.size (fun b he => by injection he with he; omega)
      have hown2 : ownM y1 mb k D := HOWN.out.kept hg2 (fun e => hmi (by injection e))
      obtain ⟨p, hz0, hm0⟩ := HI.out k hkl
      have hz := hz0.of_block (hb2.block g hg)
      have hm2 := hm0.keep hb2
      rw [← hiv] at hz hm2
      clear hiv hz0 hm0
      obtain ⟨z0, z1, z2, z3, z4, z5⟩ := hz
      have SY := Lib.hid fun (W : World) (hb : Below y1.heap.size y1 W) => sym_is iv p W (hm2.keep hb)
      have HST2 := Lib.hid hst2
      have HB2 := Lib.hid hb2
      have HOWN2 := Lib.hid hown2
      clear hst2 hg2 hb2 NS hm2 hown2
      go_wp2_with fail
      refine (SY.out _ (Below.refl _ _)).mono ?_
      rintro e y2 ⟨rfl, hw2⟩
      have hb12 := (Below.refl y1.heap.size y1).alloc (Nat.le_refl _) (rowP iv p)
      have hown3 : ownM (y1.alloc (rowP iv p)) mb k D := World.ownsMap.alloc HOWN2.out _
      rw [show y1.alloc (rowP iv p) = y2 from hw2] at hb12 hown3
      have hgY := Nat.lt_of_lt_of_le hg HB2.out.size
      have hiY := HST2.out.lt
      have HB12 := Lib.hid hb12
      have HOWN3 := Lib.hid hown3
      have HB3 := Lib.hid (HB2.out.trans (hb12.mono HB2.out.size))
      cases hsn : iv.sym.toList.isEmpty
      · have z0' := (hb12.cell (p := ⟨g, k * 6, none⟩) hgY).trans z0
        have z1' := (hb12.cell (p := ⟨g, k * 6 + 1, none⟩) hgY).trans z1
        have z2' := (hb12.cell (p := ⟨g, k * 6 + 2, none⟩) hgY).trans z2
        have z3' := (hb12.cell (p := ⟨g, k * 6 + 3, none⟩) hgY).trans z3
        have z4' := (hb12.cell (p := ⟨g, k * 6 + 4, none⟩) hgY).trans z4
        have z5' := (hb12.cell (p := ⟨g, k * 6 + 5, none⟩) hgY).trans z5
        have q1' := (hb12.cell (p := ⟨it, 1, none⟩) hiY).trans q1
        have q3' := (hb12.cell (p := ⟨it, 3, none⟩) hiY).trans q3
        have hnew := lAt_new HS.out hkl (by rw [← HIV.out]; exact hsn)
        have hsz := (symsOk_dist l [] HS.out k hkl (by rw [← HIV.out]; exact hsn)).2.1
        rw [← HIV.out] at hnew hsz
        have HNEW := Lib.hid hnew
        have hkey := str_key (s := iv.sym) (by unfold maxLen; omega)
        have sb := sumRaw_bd (l.take k)
        have hlen : (l.take k).length ≤ k := List.length_take_le _ _
        have hhas : Maps.has D (strK iv.sym) = false := by rw [HLAB.out.has _ hsn, hnew]; rfl
        clear z0 z1 z2 z3 z4 z5 q1 q2 q3 hw2 hb12 hown3 hnew
        go_wp2_with fail
        refine (SY.out _ HB12.out).mono ?_
        rintro e y3 ⟨rfl, hw3⟩
        have hb23 := (Below.refl y2.heap.size y2).alloc (Nat.le_refl _) (rowP iv p)
        have hown4 : ownM (y2.alloc (rowP iv p)) mb k D := World.ownsMap.alloc HOWN3.out _
        rw [show y2.alloc (rowP iv p) = y3 from hw3] at hb23 hown4
        have hgY2 := Nat.lt_of_lt_of_le hgY HB12.out.size
        have hiY2 := Nat.lt_of_lt_of_le hiY HB12.out.size
        have v0 := (hb23.cell (p := ⟨g, k * 6, none⟩) hgY2).trans z0'
        have v1 := (hb23.cell (p := ⟨g, k * 6 + 1, none⟩) hgY2).trans z1'
        have v2 := (hb23.cell (p := ⟨g, k * 6 + 2, none⟩) hgY2).trans z2'
        have v3 := (hb23.cell (p := ⟨g, k * 6 + 3, none⟩) hgY2).trans z3'
        have v4 := (hb23.cell (p := ⟨g, k * 6 + 4, none⟩) hgY2).trans z4'
        have v5 := (hb23.cell (p := ⟨g, k * 6 + 5, none⟩) hgY2).trans z5'
        have r1 := (hb23.cell (p := ⟨it, 1, none⟩) hiY2).trans q1'
        have r3 := (hb23.cell (p := ⟨it, 3, none⟩) hiY2).trans q3'
        have HB13 := Lib.hid (HB12.out.trans (hb23.mono HB12.out.size))
        have hgY3 := Nat.lt_of_lt_of_le hgY2 hb23.size
        have hiY3 := Nat.lt_of_lt_of_le hiY2 hb23.size
        obtain ⟨lv, lps, hlk, -⟩ := hown4.look_ok str_law Tryd.underlying144 (zero_raw y3) (plainElem_int Tryd.underlying147 (by decide)) hkey
        rw [hhas] at hlk
        obtain ⟨off, hoff⟩ : ∃ x, x = sumRaw (l.take k) := ⟨_, rfl⟩
        rw [← hoff] at r3 sb
        have hwf : (Lit.int .u64 off).wf = true := by simp [Lit.wf, IntKind.min, IntKind.max, IntKind.bits, IntKind.signed]; omega
        obtain ⟨y5, hup, hown5, hg5⟩ := World.ownsMap.update (show ownM ((y3.alloc (rowP iv p)).drew) mb k D from (World.ownsMap.alloc hown4 _)) str_law Tryd.underlying144 (by unfold maxLen; omega) hkey (plainElem_int Tryd.underlying147 hwf)
        have HOWN5 := Lib.hid hown5
        have hb35 := HB13.out.alloc HB13.out.size (rowP iv p)
        have hb5 : Below w.heap.size w y5 := (((HB2.out.trans (HB13.out.mono HB2.out.size)).alloc (by have := HB2.out.size; have := HB13.out.size; omega) (rowP iv p)).drew).grown hg5 (by have := HB2.out.size; have := HB13.out.size; simp [World.drew]; omega) (fun b he => by injection he with he; omega)
        have hi5 : y5.heap[it]? = y1.heap[it]? := (hg5.block it (by have := HB13.out.size; simp [World.drew]; omega) (fun e => hmi (by injection e with e; exact e.symm))).trans ((hb35.drew).block it hiY)
        have HB5 := Lib.hid hb5
        have HI5 := Lib.hid hi5
        have HOFF := Lib.hid hoff
        clear z0' z1' z2' z3' z4' z5' q1' q3' hw3 hb23 hown4 hhas hown5 hg5 hb35 hb5 hi5 hlen hoff
        go_wp2_with fail
        go_region_with (first | (go_at_call 66; ((with_reducible refine (SY.out _ ?_).mono ?_); exact HB13.out.drew; rintro e w' ⟨rfl, rfl⟩)))
        all_goals
          go_wp2_with fail
          go_roundg (n - (k + 1))
          case rel => exact ⟨k + 1, _, rfl, by omega, HST2.out.of_block HI5.out, HB5.out, HOWN5.out, by
            have := HLAB.out.put HOWN.out.isMap hkl (by rw [← HIV.out]; exact hsn) (by rw [← HIV.out]; exact HNEW.out)
            rw [← HIV.out, ← HOFF.out] at this
            exact this⟩
          case measure => rw [HGK.out]; omega
      · clear hw2 hb12 hown3
        go_wp2_with fail
        go_roundg (n - (k + 1))
        case rel => exact ⟨k + 1, D, rfl, by omega, HST2.out.of_block (HB12.out.block _ hiY), HB3.out, HOWN3.out.mono (Nat.le_succ _), HLAB.out.skip hkl (by rw [← HIV.out]; exact hsn)⟩
        case measure => rw [HGK.out]; omega
    · have hkn : k = n := by omega
      rw [hkn] at HST HOWN HLAB
      have NE := Lib.hid (Next_done it g cap n l _ HST.out)
      go_wp2_with fail
      refine NE.out.mono ?_
      rintro e y1 ⟨rfl, rfl⟩
      clear NE
      go_wp2_with fail
      refine (Iterate_c _ _ ⟨_, _, _, rfl⟩).mono ?_
      rintro e y2 ⟨rfl, hw2⟩
      have hi2 := heap_alloc_new wr (.cells #[.slice (some ⟨g, 0, none⟩) n cap, .pointer none, .int .i64 0, .int .u64 0] 149)
      have hb2 := HB.out.alloc HB.out.size (.cells #[.slice (some ⟨g, 0, none⟩) n cap, .pointer none, .int .i64 0, .int .u64 0] 149)
      have ho2 : ownM (wr.alloc (.cells #[.slice (some ⟨g, 0, none⟩) n cap, .pointer none, .int .i64 0, .int .u64 0] 149)) mb n D := World.ownsMap.alloc HOWN.out _
      rw [hw2] at hi2 hb2 ho2
      obtain ⟨jt, hjt⟩ : ∃ it, it = wr.heap.size := ⟨_, rfl⟩
      have hjt0 : w.heap.size ≤ jt := by rw [hjt]; exact HB.out.size
      have hgj : g ≠ jt := by omega
      have hmj : mb ≠ jt := by have := HOWN.out.lt; omega
      rw [← hjt] at hi2 ⊢
      have R1 := Lib.hid (show Enc2 w jt g n cap mb l D n y2 from ⟨0, rfl, Nat.zero_le _, ⟨0, fun _ => rfl, .inl ⟨rfl, hi2⟩⟩, ⟨hb2.os, hb2.tape, hb2.output, hb2.size, fun k hk _ => hb2.block k hk⟩, ho2, ⟨cur0, (hb2.block g hg).trans HC0.out⟩,
        fun j hj => by
          obtain ⟨p, h1, h2⟩ := HI.out j hj
          exact ⟨p, by rw [if_neg (Nat.not_lt_zero j)]; exact h1.of_block (hb2.block g hg), h2⟩, fun j hj h0 => absurd h0 (Nat.not_lt_zero j)⟩)
      have hLabN : LabD l n D := HLAB.out
      have hall : l.take n = l := List.take_of_length_le (by rw [L.out]; exact Nat.le_refl _)
      have HH := Lib.hid (show ∀ s, noS s = false → Maps.has D (strK s) = decide (0 ≤ lAt l s) from fun s hs => by have := hLabN.has s hs; rwa [hall] at this)
      have HV := Lib.hid (show ∀ s, noS s = false → 0 ≤ lAt l s → ∀ z, D.atKey (strK s) z = .lit (.int .u64 (sumRaw (l.take (lAt l s).toNat))) from fun s hs h0 z => by have := hLabN.val s hs (by rw [hall]; exact h0) z; rwa [hall] at this)
      clear hw2 hi2 hb2 ho2 hjt HB HST HGK R0 hLabN hall HLAB HOWN hkn hk hk'
      go_wp2_with fail
      go_loopg [] n (fun gk wr => Enc2 w jt g n cap mb l D gk wr)
      case atStart => exact R1.out
      case round =>
        obtain ⟨j, hgk, hj, hS⟩ := hrel
        have HGK := Lib.hid hgk
        have HS2 := Lib.hid hS
        clear hgk hS
        by_cases hj' : j < n
        · have hjl : j < l.length := by rw [L.out]; exact hj'
          obtain ⟨iv, hiv⟩ : ∃ i, i = l[j] := ⟨_, rfl⟩
          have HIV := Lib.hid hiv
          have NS := Lib.hid (Next_step jt g cap n l j _ HS2.out.st L.out hn hc hj' hgj (fun q hq => by
            obtain ⟨p', h1, _⟩ := HS2.out.at_ q hq
            have h2 := h1.1
            split at h2
            · rwa [(fixI_op l q l[q]).1] at h2
            · exact h2))
          go_wp2_with fail
          refine NS.out.mono ?_
          rintro e y1 ⟨rfl, hst2, hg2⟩
          obtain ⟨q1, q2, q3⟩ := hst2.at_
          obtain ⟨p, hY⟩ := HS2.out.step hg2 hst2 hgj hmj hjt0 hjl hiv
          have HY := Lib.hid hY
          obtain ⟨z0, z1, z2, z3, z4, z5⟩ := hY.here
          have hm1 := hY.metas ⟨cur0, HC0.out⟩
          have RF := Lib.hid fun (W : World) (hb : Below y1.heap.size y1 W) => ref_is iv p W (hm1.keep hb)
          have sb := sumRaw_bd (l.take j)
          have hlen : (l.take j).length ≤ j := List.length_take_le _ _
          obtain ⟨off, hoff⟩ : ∃ x, x = sumRaw (l.take j) := ⟨_, rfl⟩
          rw [← hoff] at q3 sb
          have HOFF := Lib.hid hoff
          have off0 : 0 ≤ off := sb.1
          have off1 : off ≤ 1000 := by have := sb.2; omega
          clear hst2 hg2 hY hm1 NS hiv hoff sb hlen
          go_wp2_with fail
          refine (RF.out _ (Below.refl _ _)).mono ?_
          rintro e y2 ⟨rfl, hw2⟩
          have hb12 := (Below.refl y1.heap.size y1).alloc (Nat.le_refl _) (rowP iv p)
          rw [show y1.alloc (rowP iv p) = y2 from hw2] at hb12
          have HB12 := Lib.hid hb12
          have hY2 := HY.out.keep hb12
          have HY2 := Lib.hid hY2
          cases hrn : iv.ref.toList.isEmpty
          rotate_left
          · clear hw2 hb12 hY2
            go_wp2_with fail
            go_roundg (n - (j + 1))
            case rel => exact ⟨j + 1, rfl, by omega, HY2.out.same hjl HIV.out hrn⟩
            case measure => rw [HGK.out]; omega
          obtain ⟨hkind, hrsz⟩ := HK.out iv (by rw [HIV.out]; exact List.getElem_mem _) hrn
          have FR := Lib.hid (FunRef_c g (j * 6) iv p y2 hY2.here)
          have hkey := str_key hrsz
          clear z0 z1 z2 z3 z4 z5 q1 q2 q3
          obtain ⟨z0, z1, z2, z3, z4, z5⟩ := hY2.here
          clear hw2 hb12 hY2
          rcases hkind with ⟨hf, hcst, hfr⟩ | ⟨hf, hof1, hfr, h6, hjp⟩
          · have HCST := Lib.hid hcst
            rw [hcst] at z4
            simp only [hcst] at RF
            clear hcst
            rcases hfr with hfr | ⟨hfr, h6⟩
            · rw [hfr] at FR
              go_wp2_with (first | (go_at_call 87; ((with_reducible refine FR.out.mono ?_); rintro e w' ⟨rfl, rfl⟩)))
              refine (RF.out _ (HB12.out)).mono ?_
              rintro e y3 ⟨rfl, hw3⟩
              have hb23 := alloc_below hw3
              have HY3 := Lib.hid ((HY2.out).keep hb23)
              obtain ⟨lv, lps, hlk, hlv⟩ := HY3.out.ow.look_ok str_law Tryd.underlying144 (zero_raw y3) (plainElem_int Tryd.underlying147 (by decide)) hkey
              have hfz := HY3.out.fz (j * 6 + 4)
              have hzz : y3.cell? ⟨g, j * 6 + 4, none⟩ = some (.int .i64 (-1)) := by have := HY3.out.here; rw [← HCST.out]; exact this.2.2.2.2.1
              have hzE : y3.cell? ⟨3, 0, none⟩ = some errV := HY3.out.gr.cell HEE.out (fun e => hEg (by injection e))
              rw [HH.out _ hrn] at hlk
              clear hw3 hb23
              by_cases hneg : 0 ≤ lAt l iv.ref
              · rw [decide_eq_true hneg] at hlk
                rw [HV.out _ hrn hneg] at hlv
                obtain ⟨c, rfl, hc2, hwc⟩ := plainElem_int_inv Tryd.underlying147 hlv
                have hc3 : sumRaw (l.take (lAt l iv.ref).toNat) = c := by have := congrArg Prod.fst hc2; simpa using this
                have sc := sumRaw_bd (l.take (lAt l iv.ref).toNat)
                have hln : (l.take (lAt l iv.ref).toNat).length ≤ 400 := by rw [List.length_take, L.out]; omega
                have c0 : 0 ≤ c := by omega
                have c1 : c ≤ 1000 := by omega
                have HC3 := Lib.hid hc3
                clear sc hln hc2 hc3 hlv hwc
                go_wp2_with fail
                go_roundg (n - (j + 1))
                case rel => exact ⟨j + 1, rfl, by omega, HY3.out.put hjl HIV.out hrn hneg (Ne.symm hgm) (Ne.symm hgj) true hf (c - off - 1) (by rw [HC3.out, ← HOFF.out]) _ _ rfl (by rw [← IntWalk.i64_left, (u64_far c off c0 c1 off0 off1).1]; rfl)⟩
                case measure => rw [HGK.out]; omega
              · rw [decide_eq_false hneg] at hlk
                clear hlv
                go_wp2_with fail
                go_ret
                exact ⟨HY3.out.gr, .inr ⟨rfl, iv, by rw [HIV.out]; exact List.getElem_mem _, hrn, by omega⟩⟩
            · rw [hfr] at FR
              rw [h6] at z0
              simp only [h6] at RF
              have H6 := Lib.hid h6
              clear h6
              go_wp2_with (first | (go_at_call 87; ((with_reducible refine FR.out.mono ?_); rintro e w' ⟨rfl, rfl⟩)))
              go_quiet (first | (go_at_call 88; refine (Ja32_c _).mono ?_; rintro e w' ⟨rfl, rfl⟩; exact ⟨rfl, _, rfl⟩))
              go_wp2_with fail
              refine (RF.out _ (below_drewN HB12.out _)).mono ?_
              rintro e y3 ⟨rfl, hw3⟩
              have hb23 := alloc_below hw3
              have HY3 := Lib.hid ((HY2.out.keep (below_drewN (Below.refl _ _) _)).keep hb23)
              obtain ⟨lv, lps, hlk, hlv⟩ := HY3.out.ow.look_ok str_law Tryd.underlying144 (zero_raw y3) (plainElem_int Tryd.underlying147 (by decide)) hkey
              have hfz := HY3.out.fz (j * 6 + 4)
              have hzz : y3.cell? ⟨g, j * 6 + 4, none⟩ = some (.int .i64 (-1)) := by have := HY3.out.here; rw [← HCST.out]; exact this.2.2.2.2.1
              have hzE : y3.cell? ⟨3, 0, none⟩ = some errV := HY3.out.gr.cell HEE.out (fun e => hEg (by injection e))
              rw [HH.out _ hrn] at hlk
              clear hw3 hb23
              by_cases hneg : 0 ≤ lAt l iv.ref
              · rw [decide_eq_true hneg] at hlk
                rw [HV.out _ hrn hneg] at hlv
                obtain ⟨c, rfl, hc2, hwc⟩ := plainElem_int_inv Tryd.underlying147 hlv
                have hc3 : sumRaw (l.take (lAt l iv.ref).toNat) = c := by have := congrArg Prod.fst hc2; simpa using this
                have sc := sumRaw_bd (l.take (lAt l iv.ref).toNat)
                have hln : (l.take (lAt l iv.ref).toNat).length ≤ 400 := by rw [List.length_take, L.out]; omega
                have c0 : 0 ≤ c := by omega
                have c1 : c ≤ 1000 := by omega
                have HC3 := Lib.hid hc3
                clear sc hln hc2 hc3 hlv hwc
                go_wp2_with fail
                go_roundg (n - (j + 1))
                case rel => exact ⟨j + 1, rfl, by omega, HY3.out.put hjl HIV.out hrn hneg (Ne.symm hgm) (Ne.symm hgj) true hf (c - off - 1) (by rw [HC3.out, ← HOFF.out]) _ _ rfl (by rw [← IntWalk.i64_left, (u64_far c off c0 c1 off0 off1).1]; rfl)⟩
                case measure => rw [HGK.out]; omega
              · rw [decide_eq_false hneg] at hlk
                clear hlv
                go_wp2_with fail
                go_ret
                exact ⟨HY3.out.gr, .inr ⟨rfl, iv, by rw [HIV.out]; exact List.getElem_mem _, hrn, by omega⟩⟩
          · have HOF1 := Lib.hid hof1
            have H6 := Lib.hid h6
            rw [hof1] at z3
            simp only [hof1] at RF
            rw [hfr] at FR
            have hne6 : (iv.op == 6) = false := by simpa using h6
            have IJ := Lib.hid fun W => IsJump_c (pCls iv.op) W
            simp only [hjp] at IJ
            clear hof1 h6
            go_wp2_with (first | (go_at_call 87; ((with_reducible refine FR.out.mono ?_); rintro e w' ⟨rfl, rfl⟩)))
            go_quiet (first | (go_at_call 88; refine (Ja32_c _).mono ?_; rintro e w' ⟨rfl, rfl⟩; exact ⟨rfl, _, rfl⟩))
            go_wp2_with (first | (go_at_call 87; ((with_reducible refine FR.out.mono ?_); rintro e w' ⟨rfl, rfl⟩)) | (go_at_call 59; ((with_reducible refine (Class_c _ _).mono ?_); rintro e w' ⟨rfl, rfl⟩)) | (go_at_call 89; ((with_reducible refine (IJ.out _).mono ?_); rintro e w' ⟨rfl, rfl⟩)))
            refine (RF.out _ (below_drewN HB12.out _)).mono ?_
            rintro e y3 ⟨rfl, hw3⟩
            have hb23 := alloc_below hw3
            have HY3 := Lib.hid ((HY2.out.keep (below_drewN (Below.refl _ _) _)).keep hb23)
            obtain ⟨lv, lps, hlk, hlv⟩ := HY3.out.ow.look_ok str_law Tryd.underlying144 (zero_raw y3) (plainElem_int Tryd.underlying147 (by decide)) hkey
            have hfz := HY3.out.fz (j * 6 + 3)
            have hzz : y3.cell? ⟨g, j * 6 + 3, none⟩ = some (.int .i16 (-1)) := by have := HY3.out.here; rw [← HOF1.out]; exact this.2.2.2.1
            have hzE : y3.cell? ⟨3, 0, none⟩ = some errV := HY3.out.gr.cell HEE.out (fun e => hEg (by injection e))
            rw [HH.out _ hrn] at hlk
            clear hw3 hb23
            by_cases hneg : 0 ≤ lAt l iv.ref
            · rw [decide_eq_true hneg] at hlk
              rw [HV.out _ hrn hneg] at hlv
              obtain ⟨c, rfl, hc2, hwc⟩ := plainElem_int_inv Tryd.underlying147 hlv
              have hc3 : sumRaw (l.take (lAt l iv.ref).toNat) = c := by have := congrArg Prod.fst hc2; simpa using this
              have sc := sumRaw_bd (l.take (lAt l iv.ref).toNat)
              have hln : (l.take (lAt l iv.ref).toNat).length ≤ 400 := by rw [List.length_take, L.out]; omega
              have c0 : 0 ≤ c := by omega
              have c1 : c ≤ 1000 := by omega
              have HC3 := Lib.hid hc3
              clear sc hln hc2 hc3 hlv hwc
              go_wp2_with fail
              go_roundg (n - (j + 1))
              case rel => exact ⟨j + 1, rfl, by omega, HY3.out.put hjl HIV.out hrn hneg (Ne.symm hgm) (Ne.symm hgj) false hf (c - off - 1) (by rw [HC3.out, ← HOFF.out]) _ _ rfl (by rw [(u64_far c off c0 c1 off0 off1).2]; rfl)⟩
              case measure => rw [HGK.out]; omega
            · rw [decide_eq_false hneg] at hlk
              clear hlv
              go_wp2_with fail
              go_ret
              exact ⟨HY3.out.gr, .inr ⟨rfl, iv, by rw [HIV.out]; exact List.getElem_mem _, hrn, by omega⟩⟩
        · have hjn : j = n := by omega
          rw [hjn] at HS2
          have NE := Lib.hid (Next_done jt g cap n l _ HS2.out.st)
          go_wp2_with fail
          refine NE.out.mono ?_
          rintro e y1 ⟨rfl, rfl⟩
          clear NE
          go_wp2_with fail
          go_ret
          exact ⟨HS2.out.gr, .inl ⟨rfl, fun i hi hr => by
            obtain ⟨q, hq, rfl⟩ := List.mem_iff_getElem.1 hi
            exact HS2.out.ok q hq (by rw [L.out] at hq; exact hq) hr, HS2.out.blk, fun q hq => by
            obtain ⟨p, h1, h2⟩ := HS2.out.at_ q hq
            rw [if_pos (by rw [L.out] at hq; exact hq)] at h1
            exact ⟨p, h1, MetaList.grown HS2.out.gr (fun b hb => by injection hb with hb; subst hb; exact ⟨cur0, _, HC0.out⟩) h2⟩⟩⟩
end Go.Proofs.YtakigeichhngbaaDoor
