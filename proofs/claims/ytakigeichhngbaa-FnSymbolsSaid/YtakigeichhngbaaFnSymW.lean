import Derived.Test.YtakigeichhngbaaCloneW
import Derived.Test.YtakigeichhngbaaSortsB
import Derived.Test.YtakigeichhngbaaLabW
import Derived.Test.YtakigeichhngbaaSizeW
namespace Go.Proofs.Ytakigeichhngbaa
open Go.RowKit
set_option linter.unusedVariables false
set_option linter.unusedSimpArgs false
open Go.Sort Go.Maps
theorem bare_fitsS {i : Ins} (h : bareOk i = true) : i.Fits := by
  obtain ⟨⟨a, b⟩, ⟨c, d⟩, ⟨e, f⟩, ⟨g, k⟩, -, -⟩ := bare_okN h
  exact ⟨⟨a, by omega⟩, ⟨c, by omega⟩, ⟨e, by omega⟩, g, k⟩
theorem labOk_fitsS {xs : List Ins} (h : labOk xs = true) : ∀ i ∈ xs, i.Fits := fun i hi => by
  obtain ⟨_, _, hall⟩ := labOk_at h
  obtain ⟨k, hk, rfl⟩ := List.mem_iff_getElem.1 hi
  exact bare_fitsS (refOk_bare (hall k hk))
theorem labOk_sz {xs : List Ins} (h : labOk xs = true) : ∀ i ∈ xs, i.sym.size ≤ maxLen := fun i hi => by
  obtain ⟨k, hk, rfl⟩ := List.mem_iff_getElem.1 hi
  unfold maxLen
  cases hn : noS xs[k].sym
  · have := (symsOk_dist xs [] (labOk_at h).2.1 k hk hn).2.1
    omega
  · rw [empty_bytes hn]
    decide
theorem own_monoI {w : World} {B B' : Nat} {v : Value} {l : List Ins} (h : OwnI w B v l) (hB : B' ≤ B) : OwnI w B' v l := by
  refine ⟨h.1, ?_⟩
  rcases h.2 with h0 | ⟨g, cap, cur, e, hg, hr⟩
  · exact .inl h0
  · exact .inr ⟨g, cap, cur, e, Nat.le_trans hB hg, hr⟩
def dupI (s : ByteArray) : Ins := ⟨149, 0, 0, 0, 0, s, ⟨#[]⟩⟩
theorem dup_fits (s : ByteArray) : (dupI s).Fits := by
  have h : (dupI s).op = 149 ∧ (dupI s).dst = 0 ∧ (dupI s).src = 0 ∧ (dupI s).off = 0 := ⟨rfl, rfl, rfl, rfl⟩
  obtain ⟨a, b, c, d⟩ := h
  refine ⟨?_, ?_, ?_, ?_⟩ <;> simp only [a, b, c, d] <;> decide
theorem dup_facts {xs : List Ins} {s : ByteArray} (h : noS s = false ∧ 0 ≤ lAt xs s) (hf : ∀ i ∈ xs, i.Fits) (hs : ∀ i ∈ xs, i.sym.size ≤ maxLen) :
    (∀ i ∈ xs ++ [dupI s], i.Fits) ∧ (∀ i ∈ xs ++ [dupI s], i.sym.size ≤ maxLen) ∧ ∃ k, ∃ hk : k < (xs ++ [dupI s]).length, noS (xs ++ [dupI s])[k].sym = false ∧ 0 ≤ lAt ((xs ++ [dupI s]).take k) (xs ++ [dupI s])[k].sym := by
  refine ⟨fun i hi => ?_, fun i hi => ?_, xs.length, by simp, ?_⟩
  · rcases List.mem_append.1 hi with hi | hi
    · exact hf i hi
    · rw [List.mem_singleton.1 hi]; exact dup_fits s
  · rcases List.mem_append.1 hi with hi | hi
    · exact hs i hi
    · rw [List.mem_singleton.1 hi]
      obtain ⟨j, hj, e⟩ := lAt_mem h.2
      show s.size ≤ maxLen
      rw [← sameS_eq e]
      exact hs j hj
  · have e : (xs ++ [dupI s])[xs.length]'(by simp) = dupI s := by simp
    have e2 : (xs ++ [dupI s]).take xs.length = xs := by simp
    rw [e, e2]
    exact h
theorem Reads.oneI {w : World} {B b : Nat} {i : Ins} {t : TypeId} (hb : b < B) (h : w.heap[b]? = some (.cells (TCells i).toArray t)) : Reads w B 7 (some ⟨b, 0, none⟩) 1 (TCells i) := by
  refine ⟨rfl, fun _ => ⟨_, rfl, hb, fun j u hu => ?_⟩⟩
  rw [add_off, Nat.zero_add, cell_of_row _ _ _ _ _ _ h]
  simpa using hu
theorem cell_oldS {w : World} {B o : Nat} {v : Value} (X : Obj) (hB : B < w.heap.size) (h : w.cell? ⟨B, o, none⟩ = some v) : (w.alloc X).cell? ⟨B, o, none⟩ = some v :=
  (World.cell?_alloc_lt w X _ hB).trans h
theorem one_size (w : World) : Calls Try.prog 21 #[.slice (some ⟨w.heap.size, 0, none⟩) 1 1] (w.alloc (.cells #[.int .i64 149, .int .i64 0, .int .i64 0, .int .i64 0, .int .i64 0, .string ⟨#[]⟩, .string ⟨#[]⟩] 23))
    fun e w' => e = .returned (.int .i64 8) ∧ Below (w.alloc (.cells #[.int .i64 149, .int .i64 0, .int .i64 0, .int .i64 0, .int .i64 0, .string ⟨#[]⟩, .string ⟨#[]⟩] 23)).heap.size (w.alloc (.cells #[.int .i64 149, .int .i64 0, .int .i64 0, .int .i64 0, .int .i64 0, .string ⟨#[]⟩, .string ⟨#[]⟩] 23)) w' := by
  have ho : OwnI (w.alloc (.cells #[.int .i64 149, .int .i64 0, .int .i64 0, .int .i64 0, .int .i64 0, .string ⟨#[]⟩, .string ⟨#[]⟩] 23)) w.heap.size (.slice (some ⟨w.heap.size, 0, none⟩) 1 1) [dupI ⟨#[]⟩] :=
    ⟨by simp [tcells, TCells, dupI], .inr ⟨w.heap.size, 1, #[.int .i64 149, .int .i64 0, .int .i64 0, .int .i64 0, .int .i64 0, .string ⟨#[]⟩, .string ⟨#[]⟩], rfl, Nat.le_refl _, heap_alloc_new w _, Nat.le_refl _, by decide, rfl, rfl⟩⟩
  obtain ⟨A, c, e, hi⟩ := ho.ins (n := 1) rfl
  injection e with e1 _ e2
  subst e1 e2
  have e8 : 8 * sumRaw [dupI ⟨#[]⟩] = 8 := by
    have : pRaw 149 = 1 := by decide +kernel
    simp [sumRaw, dupI, this]
  have hs := impSize_c _ 1 1 [dupI ⟨#[]⟩] _ hi (by decide) (fun i hi => by rw [List.mem_singleton.1 hi]; exact dup_fits _)
  rw [e8] at hs
  exact hs
set_option maxRecDepth 100000 in
set_option maxHeartbeats 2000000 in
theorem fnSym_all (big : Bool) (A : Option Addr) (n cap : Nat) (xs : List Ins) (w : World) (h : InsAt w A n xs) (hn : n ≤ maxLen) (hcb : ∀ i ∈ xs, CBd i) :
    Calls Try.prog 8 #[.slice A n cap, .bool big] w fun e w' => e = .returned (.bool true) ∧ Below w.heap.size w w' := by
  have hn63 : n ≤ 9223372036854775807 := hn
  cases hz : (decide (n ≤ 2147483647) && xs.all fun i => zzIns i.sym i.ref)
  · have Z := Lib.hid (zzFits1_c A n cap xs w h hn63)
    rw [hz] at Z
    clear hz h hn hn63 hcb
    go_enter Try.func8, Try.ntmps8
    go_wp2_with fail
    refine Z.out.mono ?_
    rintro e w1 ⟨rfl, hb1⟩
    have HB := Lib.hid hb1
    clear hb1
    go_wp2
    go_ret
    exact ⟨rfl, HB.out⟩
  · have hn31 : n ≤ 2147483647 := by simp only [Bool.and_eq_true, decide_eq_true_eq] at hz; exact hz.1
    have hzi : ∀ i ∈ xs, i.sym.size ≤ 2147483647 ∧ i.ref.size ≤ 2147483647 := by
      simp only [Bool.and_eq_true, decide_eq_true_eq, List.all_eq_true] at hz
      intro i hi
      have := hz.2 i hi
      simpa [zzIns] using this
    have hsy : ∀ i ∈ xs, i.sym.size ≤ 2147483647 := fun i hi => (hzi i hi).1
    cases hp : labOk xs
    · skip
      have Z := Lib.hid (zzFits1_c A n cap xs w h hn63)
      rw [hz] at Z
      have P := Lib.hid fun (W : World) (hb : Below w.heap.size w W) => ProgramOk_c A n cap xs W (h.keep hb) hn31 hsy
      rw [hp] at P
      clear hz hp h hn hn63 hcb hzi hsy
      go_enter Try.func8, Try.ntmps8
      go_wp2_with fail
      refine Z.out.mono ?_
      rintro e w1 ⟨rfl, hb1⟩
      have HB := Lib.hid hb1
      have hz1 := hb1.size
      have P1 := Lib.hid (P.out w1 hb1)
      clear hb1 P Z
      go_wp2_with fail
      refine P1.out.mono ?_
      rintro e w2 ⟨rfl, hb2⟩
      have hbw2 := HB.out.trans (hb2.mono hz1)
      have HB2 := Lib.hid hbw2
      have hz2 := hbw2.size
      clear hb2 P1 HB
      clear hbw2
      go_wp2
      go_ret
      exact ⟨rfl, HB2.out⟩
    · have hl60 := (labOk_at hp).1
      have hln := h.1
      have Z := Lib.hid (zzFits1_c A n cap xs w h hn63)
      rw [hz] at Z
      have P := Lib.hid fun (W : World) (hb : Below w.heap.size w W) => ProgramOk_c A n cap xs W (h.keep hb) hn31 hsy
      rw [hp] at P
      have HIN := Lib.hid fun (W : World) (hb : Below w.heap.size w W) => h.keep hb
      have HLAB := Lib.hid hp
      have HCB := Lib.hid hcb
      have HRZ := Lib.hid (show ∀ i ∈ xs, i.ref.size ≤ maxLen from fun i hi => by have := (hzi i hi).2; unfold maxLen; omega)
      have hn60 : n ≤ 60 := by omega
      have HLN := Lib.hid hln
      clear hz hp h hn hn63 hcb hln hzi hsy
      go_enter Try.func8, Try.ntmps8
      go_wp2_with fail
      refine Z.out.mono ?_
      rintro e w1 ⟨rfl, hb1⟩
      have HB := Lib.hid hb1
      have hz1 := hb1.size
      have P1 := Lib.hid (P.out w1 hb1)
      clear hb1 P Z
      go_wp2_with fail
      refine P1.out.mono ?_
      rintro e w2 ⟨rfl, hb2⟩
      have hbw2 := HB.out.trans (hb2.mono hz1)
      have HB2 := Lib.hid hbw2
      have hz2 := hbw2.size
      clear hb2 P1 HB
      clear hbw2
      have HNEW := Lib.hid (show ∀ k (hk : k < xs.length), noS xs[k].sym = false → lAt (xs.take k) xs[k].sym = -1 from fun k hk hn => lAt_new (labOk_at HLAB.out).2.1 hk hn)
      have HFIT := Lib.hid (labOk_fitsS HLAB.out)
      have HSZ := Lib.hid (labOk_sz HLAB.out)
      obtain ⟨i0, q0, q1, q2, q3⟩ := info_parts strS_info
      obtain ⟨j0, r0, r1, r2, r3⟩ := info_parts intS_info
      have I0 := Lib.hid q0
      have I1 := Lib.hid q1
      have I2 := Lib.hid q2
      have I3 := Lib.hid q3
      have J0 := Lib.hid r0
      have J1 := Lib.hid r1
      have J2 := Lib.hid r2
      have J3 := Lib.hid r3
      have OT0 := Lib.hid (World.ownsRow.alloc (World.ownsRow_lit (base := w2.heap.size) (e := 9) (size := 1) w2 #[] 0 (Nat.le_refl _) (by simp) rfl) (.cells #[] 3))
      have OZ0 := Lib.hid (World.ownsRow_lit (base := w2.heap.size) (e := 3) (size := 1) (w2.alloc (.cells #[] 9)) #[] 0 (by simp) (by simp) rfl)
      clear q0 q1 q2 q3 r0 r1 r2 r3
      go_wp2_with fail
      go_loopw [5, 6, 28] (fun v u i wr => ∃ k : Nat, k ≤ n ∧ i = .int .i64 k ∧ OwnT wr w2.heap.size v (labs (xs.take k)) ∧ OwnZ wr w2.heap.size u ((labs (xs.take k)).map fun x => lAt xs (bOf x)) ∧ Below w2.heap.size w2 wr) (fun _ _ i _ => n - (intOf i).toNat)
      case atStart => exact ⟨0, Nat.zero_le _, rfl, by simpa [OwnT, labs] using OT0.out, by simpa [OwnZ, labs] using OZ0.out, ((Below.refl _ _).alloc (Nat.le_refl _) _).alloc (by simp) _⟩
      case round =>
        obtain ⟨k, hk, rfl, hot, hoz, hb⟩ := hrel
        have HB := Lib.hid hb
        have HOT := Lib.hid hot
        have HOZ := Lib.hid hoz
        have hz := hb.size
        clear hb hot hoz
        by_cases hk' : k < n
        · have hkl : k < xs.length := by rw [HLN.out]; exact hk'
          obtain ⟨b, o, rfl, hlt, hc⟩ := (HIN.out w2 HB2.out).2.resolve_left (by omega)
          obtain ⟨iv, hi⟩ : ∃ i, i = xs[k] := ⟨_, rfl⟩
          obtain ⟨c0, c1, c2, c3, c4, c5, c6⟩ := (show InsCells w2 b (o + k * 7) iv from by rw [hi]; exact hc k _).keep HB.out hlt
          have HI := Lib.hid hi
          have hlt2 : b < wr.heap.size := Nat.lt_of_lt_of_le hlt hz
          have hll : (labs (xs.take k)).length ≤ 60 := by have := labs_len (xs.take k); have h2 : (xs.take k).length ≤ k := List.length_take_le _ _; omega
          clear hi hc
          cases hsn : iv.sym.toList.isEmpty
          · have htk : labs (xs.take (k + 1)) = labs (xs.take k) ++ [iv.sym.data.toList] := by
              rw [List.take_succ_eq_append_getElem hkl, ← HI.out, labs_yes hsn]
            have hat : lAt xs (bOf iv.sym.data.toList) = k := by
              rw [bOf_data, HI.out]
              exact lAt_at hkl (HNEW.out k hkl (by rw [← HI.out]; exact hsn))
            have HTK := Lib.hid htk
            have HAT := Lib.hid hat
            clear htk hat
            generalize labs (xs.take k) = pre at HOT HOZ HTK hll
            obtain ⟨zs, hzs⟩ : ∃ zs, zs = pre.map fun x => lAt xs (bOf x) := ⟨_, rfl⟩
            rw [← hzs] at HOZ
            have hzl : zs.length = pre.length := by rw [hzs, List.length_map]
            have HZS := Lib.hid hzs
            clear hzs
            obtain ⟨Av, cv, hv, -⟩ := HOT.out.row
            obtain ⟨Au, cu, hu, -⟩ := HOZ.out.row
            subst hv hu
            have hrow1 : (((wr.alloc (.cells #[.int .i64 iv.op, .int .i64 iv.dst, .int .i64 iv.src, .int .i64 iv.off, .int .i64 iv.c, .string iv.sym, .string iv.ref] 23)).alloc (.cells #[.string iv.sym] 9))).ownsRow w2.heap.size 3 1 (.slice Au pre.length cu) pre.length (zs.map (Value.int .i64)) := by
              rw [← hzl]
              exact World.ownsRow.alloc (World.ownsRow.alloc HOZ.out _) _
            rw [hzl]
            clear hzl
            have hrow2 : (((wr.alloc (.cells #[.int .i64 iv.op, .int .i64 iv.dst, .int .i64 iv.src, .int .i64 iv.off, .int .i64 iv.c, .string iv.sym, .string iv.ref] 23)).alloc (.cells #[.string iv.sym] 9))).ownsRow w2.heap.size 9 1 (.slice Av pre.length cv) pre.length (pre.map encStr) := World.ownsRow.alloc (World.ownsRow.alloc HOT.out _) _
            have HR1 := Lib.hid hrow1
            have HR2 := Lib.hid hrow2
            clear hrow1 hrow2
            go_wp2_with (first | (at_builtin; go_loud (refine wpList_append_own _ rfl (.tmp 36) (.tmp 39) 40 rfl w2.heap.size 9 i0 (.string ⟨#[]⟩) 1 16 Try.underlying40 I0.out I1.out I2.out I3.out rfl (by decide) _ _ _ rfl HR2.out ⟨wr.heap.size + 1, 0, none⟩ 1 1 [.string iv.sym] rfl rfl ?c1 ?c2 ?c3 ?c4 ?c5 ?_)))
            case c1 =>
              intro j u hj
              have hh := heap_alloc_new (wr.alloc (.cells #[.int .i64 iv.op, .int .i64 iv.dst, .int .i64 iv.src, .int .i64 iv.off, .int .i64 iv.c, .string iv.sym, .string iv.ref] 23)) (.cells #[.string iv.sym] 9)
              rw [World.size_alloc] at hh
              rw [add_off, Nat.zero_add, cell_of_row _ _ _ _ _ _ hh]
              simpa using hj
            case c2 => first | rfl | simp [Value.oneCell']
            case c3 => unfold maxLen; omega
            case c4 => omega
            case c5 => first | omega | (simp; omega)
            intro v5 w5 hown5 hg5 _
            have hb5 : Below w2.heap.size w2 w5 := ((HB.out.alloc hz _).alloc (by simp; omega) _).grown hg5 (by simp; omega) (fun j hj => (HR2.out.lt j hj).1)
            have hoz5 := HR1.out.kept hg5 (rows_apart HR2.out HR1.out (by decide))
            have HO5 := Lib.hid hown5
            have HZ5 := Lib.hid hoz5
            have HB5 := Lib.hid hb5
            have hz5 := hb5.size
            clear hown5 hg5 hoz5 hb5
            go_wp2_with (first | (at_builtin; go_loud (refine wpList_append_own _ rfl (.tmp 41) (.tmp 43) 25 rfl w2.heap.size 3 j0 (.int .i64 0) 1 8 Try.underlying25 J0.out J1.out J2.out J3.out rfl (by decide) _ _ _ rfl (World.ownsRow.alloc HZ5.out _) ⟨w5.heap.size, 0, none⟩ 1 1 [.int .i64 (k : Int)] rfl rfl ?d1 ?d2 ?d3 ?d4 ?d5 ?_)))
            case d1 =>
              intro j u hj
              have hh := heap_alloc_new w5 (.cells #[.int .i64 (k : Int)] 3)
              rw [add_off, Nat.zero_add, cell_of_row _ _ _ _ _ _ hh]
              simpa using hj
            case d2 => first | rfl | simp [Value.oneCell']
            case d3 => unfold maxLen; omega
            case d4 => omega
            case d5 => first | omega | (simp; omega)
            intro v7 w7 hown7 hg7 _
            have hot7 := (World.ownsRow.alloc HO5.out (.cells #[.int .i64 (k : Int)] 3)).kept hg7 (rows_apart HZ5.out HO5.out (by decide))
            have hb7 : Below w2.heap.size w2 w7 := (HB5.out.alloc hz5 _).grown hg7 (by simp; omega) (fun j hj => (HZ5.out.lt j hj).1)
            have HT7 := Lib.hid (show OwnT w7 w2.heap.size v5 (labs (xs.take (k + 1))) by
              rw [HTK.out]
              unfold OwnT
              rw [List.length_append, List.map_append]
              have e : [iv.sym.data.toList].map encStr = [.string iv.sym] := by simp [encStr_b, bOf_data]
              rw [e]
              exact hot7)
            have HZ7 := Lib.hid (show OwnZ w7 w2.heap.size v7 ((labs (xs.take (k + 1))).map fun x => lAt xs (bOf x)) by
              rw [HTK.out, List.map_append, ← HZS.out]
              unfold OwnZ
              rw [List.length_append, List.map_append, show zs.length = pre.length by rw [HZS.out, List.length_map]]
              have e : (([iv.sym.data.toList].map fun x => lAt xs (bOf x)).map (Value.int .i64)) = [.int .i64 (k : Int)] := by simp [HAT.out]
              rw [e]
              exact hown7)
            have HB7 := Lib.hid hb7
            clear hown7 hg7 hot7 hb7
            go_wp2_with fail
            go_roundw
            case rel => exact ⟨k + 1, by omega, by go_num, HT7.out, HZ7.out, HB7.out⟩
            case measure => simp [intOf]; omega
          · have htk : labs (xs.take (k + 1)) = labs (xs.take k) := by
              rw [List.take_succ_eq_append_getElem hkl, ← HI.out, labs_no hsn]
            have HTK := Lib.hid htk
            clear htk
            go_wp2_with fail
            go_roundw
            case rel => exact ⟨k + 1, by omega, by go_num, by rw [HTK.out]; exact World.ownsRow.alloc HOT.out _, by rw [HTK.out]; exact World.ownsRow.alloc HOZ.out _, HB.out.alloc hz _⟩
            case measure => simp [intOf]; omega
        · obtain rfl : k = n := by omega
          have hall : xs.take k = xs := List.take_of_length_le (by rw [HLN.out]; exact Nat.le_refl _)
          rw [hall] at HOT HOZ
          have hll : (labs xs).length ≤ 60 := by have := labs_len xs; omega
          obtain ⟨Av, cv, hv, hcv⟩ := HOT.out.row
          obtain ⟨Au, cu, hu, hcu⟩ := HOZ.out.row
          simp only [List.length_map] at hu
          obtain ⟨m, hm⟩ : ∃ m, m = (labs xs).length := ⟨_, rfl⟩
          rw [← hm] at hu hv hll
          subst hv hu
          have HCV := Lib.hid hcv
          have HCU := Lib.hid (show ∀ j (hj : j < (labs xs).length), ∃ g, Au = some ⟨g, 0, none⟩ ∧ g < wr.heap.size ∧ wr.cell? ⟨g, j, none⟩ = some (.int .i64 (lAt xs (bOf (labs xs)[j]))) from fun j hj => by
            obtain ⟨g, h1, h2, h3⟩ := hcu j (by simpa using hj)
            exact ⟨g, h1, h2, by simpa using h3⟩)
          have HM := Lib.hid hm
          have HBW := Lib.hid (HB2.out.trans (HB.out.mono hz2))
          have hzw := HBW.out.size
          clear hall OT0 OZ0 hcv hcu hm HOT HOZ
          by_cases hd : big = true ∧ 0 < m
          · obtain ⟨rfl, hpos⟩ := hd
            have hpi : (0 : Int) < (m : Int) := by omega
            have hpl : 0 < (labs xs).length := by rw [← HM.out]; exact hpos
            have h0 : 0 < k := by have := labs_len xs; have := HLN.out; omega
            obtain ⟨g0, rfl, hg0, hc0⟩ := HCV.out 0 hpl
            have hmem := (labs_mem xs _).1 (List.getElem_mem hpl)
            rw [encStr_b] at hc0
            generalize bOf (labs xs)[0] = s0 at hc0 hmem
            have DUP := Lib.hid (dup_facts hmem HFIT.out HSZ.out)
            obtain ⟨p0, hp0, hpz0, hpz1, hpz2⟩ := info_parts ins_info
            have P0 := Lib.hid hp0
            have P1 := Lib.hid hpz0
            have P2 := Lib.hid hpz1
            have P3 := Lib.hid hpz2
            have CL := Lib.hid (show ∀ W, Below wr.heap.size wr W → Calls Try.prog 29 #[.slice A k cap] W fun e w' => ∃ v, e = .returned v ∧ OwnI w' wr.heap.size v xs ∧ Below W.heap.size W w' from fun W hW => (Clone_c A k cap xs W (HIN.out W (HBW.out.trans (hW.mono hzw))) h0 (by omega)).mono fun e w' h => by
              obtain ⟨v, e1, h1, h2⟩ := h
              exact ⟨v, e1, own_monoI h1 hW.size, h2⟩)
            clear hp0 hpz0 hpz1 hpz2 hmem hpl HCV HCU
            go_upto_region 13 with fail
            go_cut [9, 10, 11] from 52 to 64 (fun s9 s10 s11 wx => s11 = .bool false ∧ Below w.heap.size w wx)
            case first =>
              go_region_held3 (fun w' => w'.cell? ⟨g0, 0, none⟩ = some (.string s0)) (first | assumption | exact hc0 | exact cell_oldS _ hg04 hc4 | exact cell_oldS _ hg0 hc0 | go_keep) (first | (go_at_call 29; go_must ((with_reducible refine (CL.out _ ?_).mono ?_); (first | exact (Below.refl _ _).drew | exact (Below.refl _ _).drew.alloc (Nat.le_refl _) _); rintro e w4 ⟨v4, rfl, hv4, hb4⟩; obtain ⟨A4, c4, rfl, -⟩ := hv4.ins HLN.out; have hc4 : w4.cell? ⟨g0, 0, none⟩ = some (.string s0) := (hb4.cell (p := ⟨g0, 0, none⟩) (by first | exact hg0 | (simp; omega))).trans (by first | exact hc0 | exact (cell_oldS _ hg0 hc0)); have hg04 : g0 < w4.heap.size := Nat.lt_of_lt_of_le (by first | exact hg0 | (simp; omega)) hb4.size; have HV4 := Lib.hid hv4; have HB4 := Lib.hid (show Below w.heap.size w w4 from by first | exact HBW.out.drew.trans (hb4.mono hzw) | exact (HBW.out.drew.alloc hzw _).trans (hb4.mono (by simp; omega))); have HLT := Lib.hid hb4; have hz4 := HB4.out.size; have hzr4 : wr.heap.size ≤ w4.heap.size := (by have := hb4.size; first | exact this | (simp at this; omega)); clear hv4 hb4)) | ((refine step_append_any _ rfl (.tmp 54) (.tmp 59) 34 rfl wr.heap.size 23 p0 (.agg #[.int .i64 0, .int .i64 0, .int .i64 0, .int .i64 0, .int .i64 0, .string ⟨#[]⟩, .string ⟨#[]⟩]) 7 72 Try.underlying34 P0.out P1.out P2.out P3.out rfl (by decide) _ xs.length (tcells xs) rfl ?c1 (w4.heap.size + 1) _ 1 1 (TCells (dupI s0)) rfl ?c2 ?c3 ?c4 ?c5 ?c6 ?_); go_must ( (case c1 => (first | exact HV4.out | exact World.ownsRow.alloc HV4.out _)); (case c2 => (first | exact Reads.oneI (Nat.lt_succ_self _) (heap_alloc_new _ _) | exact Reads.oneI (by omega) ((HLT.out.block _ (by simp)).trans (heap_alloc_new _ _)))); (case c3 => exact tcells_one _); (case c4 => (rw [HLN.out]; unfold maxLen; omega)); (case c5 => (rw [HLN.out]; omega)); (case c6 => (first | omega | (simp; omega))); intro v5 w5 hown5 hg5 _; have hb5 : Below w.heap.size w w5 := (by first | exact HB4.out.grown hg5 (by omega) (fun b hb => Nat.le_trans hzw (World.ownsRow.lt HV4.out b hb).1) | exact (HB4.out.alloc hz4 _).grown hg5 (by simp; omega) (fun b hb => Nat.le_trans hzw (World.ownsRow.lt HV4.out b hb).1)); have hc5 : w5.cell? ⟨g0, 0, none⟩ = some (.string s0) := (World.cell?_of_block (hg5.block g0 (by first | exact hg04 | (simp; omega)) (fun e => absurd (World.ownsRow.lt HV4.out _ e.symm).1 (by omega)))).trans (by first | exact hc4 | exact cell_oldS _ hg04 hc4); have hg05 : g0 < w5.heap.size := (Nat.lt_of_lt_of_le (by first | exact hg04 | (simp; omega)) hg5.size); obtain ⟨A5, c5, rfl, hA5⟩ := (own_snocI rfl hown5).ins (n := k + 1) (by rw [List.length_append, HLN.out]; rfl); have DP := Lib.hid (Symbols_dup A5 (k + 1) c5 (xs ++ [dupI s0]) w5 hA5 (by omega) (by omega) DUP.out.1 DUP.out.2.1 DUP.out.2.2); have HB5 := Lib.hid hb5; have hz5 := HB5.out.size; clear hown5 hg5 hb5 hA5)) | (go_at_call 28; go_must ((refine DP.out.mono ?_); rintro e w6 ⟨rfl, hb6⟩; have HB6 := Lib.hid (HB5.out.trans (hb6.mono hz5)); have hc6 := (hb6.cell (p := ⟨g0, 0, none⟩) hg05).trans hc5; clear hb6)))
              all_goals
                go_wp2_with fail
                go_meet
                exact ⟨rfl, HB6.out⟩
            case rest =>
              obtain ⟨rfl, hb9⟩ := hcut
              have HB9 := Lib.hid hb9
              clear hb9
              go_wp2_with fail
              go_ret
              exact ⟨rfl, HB9.out⟩
          · have hor : big = false ∨ (big = true ∧ m = 0) := by
              cases big
              · exact .inl rfl
              · exact .inr ⟨rfl, Nat.eq_zero_of_not_pos fun h => hd ⟨rfl, h⟩⟩
            have SO := Lib.hid (Symbols_ok A k cap xs wr (HIN.out wr HBW.out) (by omega) HFIT.out HSZ.out HNEW.out)
            clear hd
            go_upto_region 12 with fail
            go_cut [51] from 46 to 51 (fun s51 wx => s51 = .bool false ∧ wx = wr)
            case first =>
              rcases hor with rfl | ⟨rfl, rfl⟩
              · go_wp2_with fail
                go_meet
                exact ⟨rfl, rfl⟩
              · go_wp2_with fail
                go_meet
                exact ⟨rfl, rfl⟩
            case rest =>
              obtain ⟨rfl, hwc⟩ := hcut
              subst hwc
              clear hor
              go_wp2_with fail
              refine SO.out.mono ?_
              rintro e w3 ⟨hb3, ts, v1, v2, rfl, hsaid, ho1, ho2⟩
              obtain ⟨A1, c1, h1, hc1⟩ := ho1.row
              obtain ⟨A2, c2, h2, hc2⟩ := ho2.row
              have hlen : ts.length = m := by rw [HM.out]; exact said_len HNEW.out hsaid
              simp only [List.length_map] at h2
              rw [hlen] at h1 h2
              subst h1 h2
              have hb3w := HBW.out.trans (hb3.mono hzw)
              have HB3 := Lib.hid hb3w
              have hz3 := hb3w.size
              have hz3c := hb3.size
              have IS := Lib.hid (IsSorted_c A1 c1 ts w3 (by omega) hsaid.sorted hc1)
              rw [hlen] at IS
              have KEY := Lib.hid (show ∀ q, q < m → ∃ (gv gu g2 j : Nat) (x : ByteArray) (z : Int), Av = some ⟨gv, 0, none⟩ ∧ gv < w3.heap.size ∧ w3.cell? ⟨gv, q, none⟩ = some (.string x) ∧ Au = some ⟨gu, 0, none⟩ ∧ gu < w3.heap.size ∧ w3.cell? ⟨gu, q, none⟩ = some (.int .i64 z) ∧
                  A2 = some ⟨g2, 0, none⟩ ∧ g2 < w3.heap.size ∧ w3.cell? ⟨g2, j, none⟩ = some (.int .i64 z) ∧ j < m ∧ ∀ W, Below w3.heap.size w3 W → Calls Try.prog 30 #[.slice A1 m c1, .string x] W fun e w' => e = .returned (.int .i64 (j : Int)) ∧ Below W.heap.size W w' from fun q hq => by
                have hql : q < (labs xs).length := by rw [← HM.out]; exact hq
                obtain ⟨gv, e1, e2, e3⟩ := HCV.out q hql
                obtain ⟨gu, f1, f2, f3⟩ := HCU.out q hql
                have hmem : (labs xs)[q] ∈ ts := (hsaid.mem _).2 ((labs_mem xs _).1 (List.getElem_mem hql))
                obtain ⟨j, hj, d1, d2⟩ := idxF_mem (labs xs)[q] 0 ts hmem
                obtain ⟨g2, k1, k2, k3⟩ := hc2 j (by simpa using hj)
                refine ⟨gv, gu, g2, j, bOf (labs xs)[q], lAt xs (bOf (labs xs)[q]), e1, Nat.lt_of_lt_of_le e2 hz3c, (hb3.cell (p := ⟨gv, q, none⟩) e2).trans e3, f1, Nat.lt_of_lt_of_le f2 hz3c, (hb3.cell (p := ⟨gu, q, none⟩) f2).trans f3, k1, k2, ?_, by omega, fun W hW => ?_⟩
                · rw [k3]
                  simp [d2]
                · have hx := IndexS_c A1 c1 ts (labs xs)[q] W (by omega) (fun y hy => by
                    obtain ⟨g, a1, a2, a3⟩ := hc1 y hy
                    exact ⟨g, a1, Nat.lt_of_lt_of_le a2 hW.size, (hW.cell (p := ⟨g, y, none⟩) a2).trans a3⟩)
                  rw [hlen, d1, Nat.zero_add] at hx
                  exact hx)
              clear hb3 hb3w hsaid ho1 ho2 hc1 hc2 hlen SO HCV HCU HM
              go_wp2_with fail
              refine IS.out.mono ?_
              rintro e w4 ⟨rfl, hb4⟩
              have HB34 := Lib.hid hb4
              have HB4 := Lib.hid (HB3.out.trans (hb4.mono hz3))
              have hz4 := HB4.out.size
              have hz34 := hb4.size
              clear hb4 IS
              go_wp2_with fail
              go_loopw [96] (fun i wr2 => ∃ q : Nat, q ≤ m ∧ i = .int .i64 q ∧ Below w4.heap.size w4 wr2) (fun i _ => m - (intOf i).toNat)
              case atStart => exact ⟨0, Nat.zero_le _, rfl, Below.refl _ _⟩
              case round =>
                obtain ⟨q, hq, rfl, hbq⟩ := hrel
                by_cases hq' : q < m
                · obtain ⟨gv, gu, g2, j, x, z, rfl, hgv, cv0, rfl, hgu, cu0, rfl, hg2, c20, hj, hix⟩ := KEY.out q hq'
                  have hb3q : Below w3.heap.size w3 wr := HB34.out.trans (hbq.mono hz34)
                  have HB4Q := Lib.hid hbq
                  have hzq := hbq.size
                  have hz3q := hb3q.size
                  have cvq := (hb3q.cell (p := ⟨gv, q, none⟩) hgv).trans cv0
                  have IX := Lib.hid (hix wr hb3q)
                  have HB3Q := Lib.hid hb3q
                  have hgvq : gv < wr.heap.size := by omega
                  clear hbq hix cv0 hb3q
                  go_wp2_with fail
                  refine IX.out.mono ?_
                  rintro e w5 ⟨rfl, hb5⟩
                  have hb35 := HB3Q.out.trans (hb5.mono hz3q)
                  have HB45 := Lib.hid (HB4Q.out.trans (hb5.mono hzq))
                  have cuq := (hb35.cell (p := ⟨gu, q, none⟩) hgu).trans cu0
                  have c2q := (hb35.cell (p := ⟨g2, j, none⟩) hg2).trans c20
                  have hz35 := hb35.size
                  have hguq : gu < w5.heap.size := by omega
                  have hg2q : g2 < w5.heap.size := by omega
                  have hj0 : decide ((j : Int) < 0) = false := by simp
                  clear hb5 hb35 cu0 c20 cvq IX
                  go_wp2_with fail
                  go_quiet (fail)
                  go_wp2_with fail
                  go_roundw
                  case rel => exact ⟨q + 1, by omega, by go_num, ⟨HB45.out.os, HB45.out.tape, HB45.out.output, HB45.out.size, HB45.out.block⟩⟩
                  case measure => simp [intOf]; omega
                · have HBQ := Lib.hid (HB4.out.trans (hbq.mono hz4))
                  have hzq := HBQ.out.size
                  obtain rfl : q = m := by omega
                  clear hbq
                  rcases Nat.eq_zero_or_pos q with h0 | h0
                  · subst h0
                    go_wp2_with fail
                    refine (one_size _).mono ?_
                    rintro e w5 ⟨rfl, hb5⟩
                    have HB5 := Lib.hid ((HBQ.out.alloc hzq _).trans (hb5.mono (by simp; omega)))
                    clear hb5
                    go_wp2_with fail
                    go_ret
                    exact ⟨rfl, HB5.out⟩
                  · have hqi : (0 : Int) < (q : Int) := by omega
                    go_wp2
                    go_ret
                    exact ⟨rfl, HBQ.out⟩
theorem fnSym_row (W : World) (A : Option Addr) (n cap : Nat) (xs : List Ins) (h : InsAt W A n xs ∧ n ≤ maxLen ∧ ∀ i ∈ xs, -9223372036854775808 ≤ i.c ∧ i.c ≤ 9223372036854775807) (big : Bool) :
    Calls Try.prog 8 #[.slice A n cap, .bool big] W fun e w' => e = .returned (.bool true) ∧ Below W.heap.size W w' := fnSym_all big A n cap xs W h.1 h.2.1 h.2.2
end Go.Proofs.Ytakigeichhngbaa
