import Derived.Test.YtakigeichhngbaaDoorFixW
namespace Go.Proofs.YtakigeichhngbaaDoor
open Go.RowKit
set_option linter.unusedVariables false
set_option linter.unusedSimpArgs false
set_option maxRecDepth 100000 in
set_option maxHeartbeats 1000000 in
/-- tell of instructions that lie in block g -/
theorem tell_o (g cap : Nat) (l : List Ins) (w : World) (h0 : 0 < l.length) (hc : l.length ≤ cap) (hg : g < w.heap.size) (hi : InsM w g l) (hn : l.length ≤ 1000) (hF : ∀ i ∈ l, i.Fits) :
    Calls Tryd.prog 44 #[.slice (some ⟨g, 0, none⟩) l.length cap] w (TellEnd w l) := by
  obtain ⟨i0, hi0, hz0, hz1, hz2⟩ := info_parts ins_info
  have C := Lib.hid hi
  have F := Lib.hid hF
  obtain ⟨n, hln⟩ : ∃ n, n = l.length := ⟨_, rfl⟩
  rw [← hln] at hn h0 hc ⊢
  have L := Lib.hid hln
  have S := Lib.hid hz0
  have S1 := Lib.hid hz1
  have S2 := Lib.hid hz2
  have S0 := Lib.hid hi0
  clear hi hln hF hz0 hz1 hz2 hi0
  go_enter Tryd.func44, Tryd.ntmps44
  go_wp2
  go_loopw [3, 8] (fun v i wr => ∃ k : Nat, k ≤ n ∧ i = .int .i64 k ∧ OwnI wr w.heap.size v ((l.take k).map Ins.back) ∧ Below w.heap.size w wr) (fun _ i _ => n - (intOf i).toNat)
  case atStart => exact ⟨0, Nat.zero_le _, rfl, ⟨by simp [tcells], .inl ⟨rfl, by simp⟩⟩, Below.refl _ _⟩
  case round =>
    obtain ⟨k, hk, rfl, hown, hb⟩ := hrel
    by_cases hk' : k < n
    · have hkl : k < l.length := by rw [← L.out]; exact hk'
      obtain ⟨i, hi⟩ : ∃ i, i = l[k] := ⟨_, rfl⟩
      obtain ⟨p, hat, hml⟩ := C.out k hkl
      rw [← hi] at hat hml
      have hfit : i.Fits := by rw [hi]; exact F.out _ (List.getElem_mem _)
      obtain ⟨c0, c1, c2, c3, c4, c5⟩ := hat.keep (hb.mono (Nat.le_refl _)) hg
      have hml2 := hml.keep hb
      have htk : (l.take (k + 1)).map Ins.back = (l.take k).map Ins.back ++ [i.back] := by
        rw [List.take_succ_eq_append_getElem hkl, List.map_append, hi]
        rfl
      have hlk : ((l.take k).map Ins.back).length = k := by rw [List.length_map, List.length_take]; omega
      generalize (l.take k).map Ins.back = pre at hown htk hlk
      have HML := Lib.hid hml2
      have HF := Lib.hid hfit
      have HTK := Lib.hid htk
      have HOWN := Lib.hid hown
      have LK := Lib.hid hlk
      obtain ⟨A1, n1, k1, rfl, -⟩ := hown.slice
      clear hi hat hml hml2 hfit htk hown hlk
      have hg2 : g < wr.heap.size := Nat.lt_of_lt_of_le hg hb.size
      have hz := hb.size
      go_wp2_with fail
      refine (told_c i.op i.dst i.src i.off i.c p i.metas _ (HML.out.keep ((Below.refl _ _).alloc (Nat.le_refl _) _)) (metas_len i) HF.out).mono ?_
      rintro e w2 ⟨rfl, hb2⟩
      have hB2 : Below wr.heap.size wr w2 := ((Below.refl _ _).alloc (Nat.le_refl _) _).trans (hb2.mono (by simp))
      have HO2 := Lib.hid (own_below HOWN.out hB2)
      have HB2 := Lib.hid hB2
      have hz2' := hB2.size
      clear hb2 hB2 HOWN HML
      go_wp2_with (first | (at_builtin; go_loud (refine wpList_append_own _ rfl (.tmp 12) (.tmp 15) 31 rfl w.heap.size 24 i0 (.agg #[.int .i64 0, .int .i64 0, .int .i64 0, .int .i64 0, .int .i64 0, .string ⟨#[]⟩, .string ⟨#[]⟩]) 7 72 Tryd.underlying31 S0.out S.out S1.out S2.out rfl (by decide) _ _ _ rfl (HO2.out.alloc _) ⟨w2.heap.size, 0, none⟩ 1 1 (TCells i.back) rfl rfl ?c1 (tcells_one i.back) ?c3 ?c4 ?c5 ?_)))
      case c1 =>
        intro j u hj
        simp only [TCells, Ins.back] at hj
        have hh := heap_alloc_new w2 (.cells #[.int .i64 i.op, .int .i64 i.dst, .int .i64 i.src, .int .i64 i.off, .int .i64 i.c, .string (symOf i.metas), .string (refOf i.metas)] 24)
        have hadd : (⟨w2.heap.size, 0, none⟩ : Addr).add j = ⟨w2.heap.size, j, none⟩ := by unfold Addr.add; split <;> simp_all
        rw [hadd, cell_of_row _ _ _ _ _ _ hh]
        simpa using hj
      case c3 => rw [LK.out]; unfold maxLen; omega
      case c4 => rw [LK.out]; omega
      case c5 => simp; omega
      intro v3 w3 hown3 hg3 _
      have hb3 : Below w.heap.size w w3 := ((hb.trans (HB2.out.mono hb.size)).alloc (by omega) _).grown hg3 (by simp; omega) (fun b hb => (World.ownsRow.lt HO2.out b hb).1)
      have ho3 : OwnI w3 w.heap.size v3 ((l.take (k + 1)).map Ins.back) := by
        rw [HTK.out]
        unfold OwnI
        rw [List.length_append, List.length_singleton, tcells_snoc]
        exact hown3
      have HO3 := Lib.hid ho3
      clear hown3 hg3 ho3 HO2 HB2 HTK
      go_wp2
      go_roundw
      case rel => exact ⟨k + 1, by omega, by go_num, HO3.out, hb3⟩
      case measure => simp [intOf]; omega
    · have hall : l.take k = l := List.take_of_length_le (by rw [← L.out]; omega)
      rw [hall] at hown
      have HO := Lib.hid hown
      clear hall hown
      go_wp2
      go_ret
      exact ⟨_, rfl, HO.out, hb⟩
theorem back_is (i : Ins) : i.back = i := by
  unfold Ins.back
  rw [(sym_metas i).1, (sym_metas i).2]
theorem backs_all (l : List Ins) : l.map Ins.back = l := by
  induction l with
  | nil => rfl
  | cons i l ih => rw [List.map_cons, back_is, ih]
theorem okN_fits {i : Ins} (h : OkN i) : i.Fits := by
  obtain ⟨⟨a, b⟩, ⟨c, d⟩, ⟨e, f⟩, ⟨g, k⟩, -, -⟩ := h
  exact ⟨⟨a, by omega⟩, ⟨c, by omega⟩, ⟨e, by omega⟩, g, k⟩
theorem ZZFixed_c (sl : Value) (w : World) (R : Ending → World → Prop) (EF : Calls Tryd.prog 68 #[sl] w fun e w' => e = .returned .nilIface ∧ R e w') :
    Calls Tryd.prog 43 #[sl] w fun e w' => e = .returned .nilIface ∧ R e w' := by
  have EF := Lib.hid EF
  go_enter Tryd.func43, Tryd.ntmps43
  go_wp2_with fail
  refine EF.out.mono ?_
  rintro e w1 ⟨rfl, hq⟩
  have HQ := Lib.hid hq
  clear hq
  go_wp2
  go_ret
  exact ⟨rfl, HQ.out⟩
set_option maxRecDepth 100000 in
set_option maxHeartbeats 2000000 in
/-- impl.Fixed of a program with labels -/
theorem ImpFixed_c (A : Option Addr) (n cap : Nat) (xs : List Ins) (errV : Value) (w : World) (h : InsAt w A n xs) (h0 : 0 < n) (hlab : labOk xs = true) (hz : ∀ i ∈ xs, i.ref.size ≤ maxLen)
    (hE : w.cell? ⟨3, 0, none⟩ = some errV) :
    Calls Tryd.prog 13 #[.slice A n cap] w fun e w' => ∃ v, e = .returned (.tuple #[v, .bool true]) ∧ OwnI w' w.heap.size v (fixL xs) ∧ Below w.heap.size w w' := by
  have hl := h.1
  have L := Lib.hid hl
  have hn60 : n ≤ 60 := by have := (labOk_at hlab).1; omega
  have AC := Lib.hid (all_c A n cap xs w h (by omega) (labOk_fits hlab))
  have HLAB := Lib.hid hlab
  have HZ := Lib.hid hz
  have HE := Lib.hid hE
  have hEl : 3 < w.heap.size := block_lt_of_cell hE
  clear hl h hlab hz hE
  go_enter Tryd.func13, Tryd.ntmps13
  go_wp2_with fail
  refine AC.out.mono ?_
  rintro e w1 ⟨⟨v, rfl, hv⟩, hb1⟩
  obtain ⟨g, cp, rfl, hcp, hgB, ⟨cur, hcur⟩, hi⟩ := hv.opened (by rw [L.out]; exact h0)
  have hg := lt_of_blk hcur
  have EF := (EncL_c g xs.length cp xs errV _ rfl (by rw [L.out]; omega) hcp ⟨cur, hcur⟩ hi (labOk_at HLAB.out).2.1 (labOk_kinds HLAB.out HZ.out) ((hb1.cell (p := ⟨_, 0, none⟩) hEl).trans HE.out) (by omega)).mono (R' := fun e W => e = .returned .nilIface ∧ MarQ w1 g xs W) (by
    rintro e W ⟨hgr, ⟨rfl, _, hfx⟩ | ⟨_, i, hi, hr, hneg⟩⟩
    · exact ⟨rfl, hgr, hfx⟩
    · exact absurd (labOk_found HLAB.out i hi hr) (by omega))
  have ZF := Lib.hid (ZZFixed_c _ w1 (fun _ W => MarQ w1 g xs W) EF)
  have HB1 := Lib.hid hb1
  have HCP := Lib.hid hcp
  clear hcur hi hb1 hv AC hcp EF
  go_wp2_with fail
  refine ZF.out.mono ?_
  rintro e w2 ⟨rfl, hgr, ⟨c2, hc2⟩, hfx⟩
  have hb2 : Below w.heap.size w w2 := HB1.out.grown hgr HB1.out.size (fun b he => by injection he with he; omega)
  have hM : InsM w2 g (fixL xs) := fun j hj => by
    have hj' : j < xs.length := by rw [fixL_len] at hj; exact hj
    obtain ⟨p, h1, h2⟩ := hfx j hj'
    rw [fixL_at xs j hj']
    exact ⟨p, h1, by rw [(fixI_op xs j xs[j]).2]; exact h2⟩
  have hok : ∀ i ∈ fixL xs, i.Fits := fun i hi => by
    obtain ⟨k, hk, rfl⟩ := List.mem_iff_getElem.1 hi
    have hk' : k < xs.length := by rw [fixL_len] at hk; exact hk
    rw [fixL_at xs k hk']
    exact okN_fits (fix_okN (labOk_at HLAB.out).1 k ((labOk_at HLAB.out).2.2 k hk')).1
  have T := Lib.hid (tell_o g cp (fixL xs) w2 (by rw [fixL_len, L.out]; exact h0) (by rw [fixL_len]; exact HCP.out) (lt_of_blk hc2) hM (by rw [fixL_len, L.out]; omega) hok)
  rw [fixL_len] at T
  have HB2 := Lib.hid hb2
  clear hgr hc2 hfx hb2 hM hok ZF
  go_wp2_with fail
  refine T.out.mono ?_
  rintro e w3 ⟨v3, rfl, ho3, hb3⟩
  rw [backs_all] at ho3
  have hz2 := HB2.out.size
  have HO3 := Lib.hid (OwnI.mono ho3 hz2)
  have HB3 := Lib.hid (HB2.out.trans (hb3.mono hz2))
  obtain ⟨A3, n3, k3, rfl, -⟩ := ho3.slice
  clear ho3 hb3
  go_wp2
  go_ret2
  exact ⟨_, rfl, HO3.out, HB3.out⟩
end Go.Proofs.YtakigeichhngbaaDoor
