import Derived.Test.YtakigeichhngbaaDoorMarW
import Derived.Test.YtakigeichhngbaaDoorEncL
import Derived.Test.YtakigeichhngbaaDoorLabW
namespace Go.Proofs.YtakigeichhngbaaDoor
open Go.RowKit
set_option linter.unusedVariables false
set_option linter.unusedSimpArgs false
theorem labOk_kinds {xs : List Ins} (h : labOk xs = true) (hz : ∀ i ∈ xs, i.ref.size ≤ maxLen) : ∀ i ∈ xs, noS i.ref = false → RefKind i ∧ i.ref.size ≤ maxLen := fun i hi hr => by
  obtain ⟨_, _, hall⟩ := labOk_at h
  obtain ⟨k, hk, rfl⟩ := List.mem_iff_getElem.1 hi
  exact ⟨ref_kinds (hall k hk) hr, hz _ hi⟩
theorem labOk_found {xs : List Ins} (h : labOk xs = true) : ∀ i ∈ xs, noS i.ref = false → 0 ≤ lAt xs i.ref := fun i hi hr => by
  obtain ⟨_, _, hall⟩ := labOk_at h
  obtain ⟨k, hk, rfl⟩ := List.mem_iff_getElem.1 hi
  exact (ref_jump (hall k hk) hr).2.1
theorem fixL_ok {xs : List Ins} (h : labOk xs = true) (hc : ∀ i ∈ xs, -9223372036854775808 ≤ i.c ∧ i.c ≤ 9223372036854775807) : ∀ i ∈ fixL xs, OkN i ∧ -9223372036854775808 ≤ i.c ∧ i.c ≤ 9223372036854775807 := fun i hi => by
  obtain ⟨hl, _, hall⟩ := labOk_at h
  obtain ⟨k, hk, rfl⟩ := List.mem_iff_getElem.1 hi
  have hk' : k < xs.length := by rw [fixL_len] at hk; exact hk
  rw [fixL_at xs k hk']
  exact ⟨(fix_okN hl k (hall k hk')).1, fix_cbd hl k (hc _ (List.getElem_mem hk'))⟩
theorem bare_fits {i : Ins} (h : bareOk i = true) : i.Fits := by
  obtain ⟨⟨a, b⟩, ⟨c, d⟩, ⟨e, f⟩, ⟨g, k⟩, -, -⟩ := bare_okN h
  exact ⟨⟨a, by omega⟩, ⟨c, by omega⟩, ⟨e, by omega⟩, g, k⟩
theorem labOk_fits {xs : List Ins} (h : labOk xs = true) : ∀ i ∈ xs, i.Fits := fun i hi => by
  obtain ⟨_, _, hall⟩ := labOk_at h
  obtain ⟨k, hk, rfl⟩ := List.mem_iff_getElem.1 hi
  exact bare_fits (refOk_bare (hall k hk))
def MarQ (wS : World) (g : Nat) (xs : List Ins) (W : World) : Prop := wS.grownBy W (some g) ∧ FixM W g xs
set_option maxRecDepth 100000 in
set_option maxHeartbeats 2000000 in
/-- impl.Marshal of a program with labels: the bytes of the program whose jumps are put in -/
theorem ImplMarL_ok (big : Bool) (A : Option Addr) (n cap : Nat) (xs : List Ins) (errV : Value) (w : World) (h : InsAt w A n xs) (h0 : 0 < n) (hlab : labOk xs = true) (hc : ∀ i ∈ xs, -9223372036854775808 ≤ i.c ∧ i.c ≤ 9223372036854775807) (hz : ∀ i ∈ xs, i.ref.size ≤ maxLen)
    (hE : w.cell? ⟨3, 0, none⟩ = some errV) :
    Calls Tryd.prog 21 #[.slice A n cap, .bool big] w (MarEnd big w (fixL xs)) := by
  have hl := h.1
  have L := Lib.hid hl
  have hn60 : n ≤ 60 := by have := (labOk_at hlab).1; omega
  have AC := Lib.hid (all_c A n cap xs w h (by omega) (labOk_fits hlab))
  have HLAB := Lib.hid hlab
  have HC := Lib.hid hc
  have HZ := Lib.hid hz
  have HE := Lib.hid hE
  have hEl : 3 < w.heap.size := block_lt_of_cell hE
  clear hl h hlab hc hz hE
  go_enter Tryd.func21, Tryd.ntmps21
  go_wp2_with fail
  refine AC.out.mono ?_
  rintro e w1 ⟨⟨v, rfl, hv⟩, hb1⟩
  obtain ⟨g, cp, rfl, hcp, hgB, ⟨cur, hcur⟩, hi⟩ := hv.opened (by rw [L.out]; exact h0)
  have hg := lt_of_blk hcur
  have hbG := (Below.refl w1.heap.size w1).alloc (Nat.le_refl _) (.cells #[.slice none 0 0] 91)
  have hsk : SinkAt (w1.alloc (.cells #[.slice none 0 0] 91)) w1.heap.size (w1.heap.size + 1) (.slice none 0 0) [] :=
    ⟨heap_alloc_new w1 _, World.ownsRow_nil _ _ _ _, Nat.lt_succ_self _⟩
  have hsz : (w1.alloc (.cells #[.slice none 0 0] 91)).heap.size = w1.heap.size + 1 := by simp
  have hcurS := (hbG.block g hg).trans hcur
  have hiS : InsM (w1.alloc (.cells #[.slice none 0 0] 91)) g xs := InsM.keep hi hbG hg
  have hES : (w1.alloc (.cells #[.slice none 0 0] 91)).cell? ⟨3, 0, none⟩ = some errV :=
    ((hb1.trans (hbG.mono hb1.size)).cell (p := ⟨_, 0, none⟩) hEl).trans HE.out
  have EF := (EncL_c g xs.length cp xs errV _ rfl (by rw [L.out]; omega) hcp ⟨cur, hcurS⟩ hiS (labOk_at HLAB.out).2.1 (labOk_kinds HLAB.out HZ.out) hES (by omega)).mono (R' := fun e W => e = .returned .nilIface ∧ MarQ (w1.alloc (.cells #[.slice none 0 0] 91)) g xs W) (by
    rintro e W ⟨hgr, ⟨rfl, _, hfx⟩ | ⟨_, i, hi, hr, hneg⟩⟩
    · exact ⟨rfl, hgr, hfx⟩
    · exact absurd (labOk_found HLAB.out i hi hr) (by omega))
  have IM := Lib.hid (IsMar_any big g xs.length cp w1.heap.size (w1.heap.size + 1) (.slice none 0 0) (fixL xs) _ _ (fixL_len xs) (by rw [L.out]; omega) hcp EF (by
    rintro W ⟨hgr, ⟨c, hc⟩, hfx⟩
    refine ⟨lt_of_blk hc, fun j hj => ?_, ⟨(hgr.block w1.heap.size (by rw [hsz]; omega) (fun e => by injection e with e; omega)).trans hsk.box, World.ownsRow_nil _ _ _ _, hsk.lt⟩, by have := hgr.size; rw [hsz] at this; omega⟩
    have hj' : j < xs.length := by rw [fixL_len] at hj; exact hj
    obtain ⟨p, h1, _⟩ := hfx j hj'
    exact ⟨p, by rw [fixL_at xs j hj']; exact h1⟩) (fixL_ok HLAB.out HC.out) (Nat.ne_of_lt hg) (by simp [Value.ownBlock]))
  have HBG := Lib.hid hbG
  have HB1 := Lib.hid hb1
  have HSZ := Lib.hid hsz
  clear hcur hi hbG hsk hb1 hv AC hsz hcp hcurS hiS hES EF
  go_wp2_with (first | (go_at_call 36; ((with_reducible refine (ZZOrder_c _ _).mono ?_); rintro e w' ⟨rfl, rfl⟩)))
  refine IM.out.mono ?_
  rintro e w3 ⟨rfl, wQ, hq, v3, hs3, hf3, ho3⟩
  have hbx := hs3.box
  have x0 := cell_of_row _ _ 0 _ _ _ hbx
  rw [List.take_of_length_le (by rw [fixL_len]; exact Nat.le_refl _)] at hs3
  have hbQ : Below w.heap.size w wQ := (HB1.out.trans (HBG.out.mono HB1.out.size)).grown hq.1 (by rw [HSZ.out]; have := HB1.out.size; omega) (fun b he => by injection he with he; omega)
  have HBQ := Lib.hid hbQ
  have HS3 := Lib.hid hs3
  have HF3 := Lib.hid hf3
  have hgl := lt_of_blk hbx
  clear hbx ho3 hs3 hf3 IM hbQ hq
  go_wp2_with fail
  go_region
  all_goals
    go_wp2
    go_ret2
    exact ⟨v3, rfl, OwnB.mono HS3.out.own (by have := HB1.out.size; omega), (HBQ.out.trans (HF3.out.below _ HB1.out.size)).drew⟩
set_option maxRecDepth 100000 in
/-- Instructions.Marshal where a label is missing -/
theorem IsMar_err (big : Bool) (g n cap G : Nat) (aE : Addr) (w : World) (Q : World → Prop)
    (EF : Calls Tryd.prog 68 #[.slice (some ⟨g, 0, none⟩) n cap] w fun e w' => e = .returned (.iface 137 (.pointer (some aE))) ∧ Q w') :
    Calls Tryd.prog 52 #[.slice (some ⟨g, 0, none⟩) n cap, .iface 90 (.pointer (some ⟨G, 0, none⟩)), ordV big] w fun e w' => e = .returned (.iface 137 (.pointer (some aE))) ∧ Q w' := by
  have EF := Lib.hid EF
  go_enter Tryd.func52, Tryd.ntmps52
  go_wp2_with fail
  refine EF.out.mono ?_
  rintro e w1 ⟨rfl, hq⟩
  have HQ := Lib.hid hq
  clear hq
  go_wp2
  go_ret
  exact ⟨rfl, HQ.out⟩
set_option maxRecDepth 100000 in
set_option maxHeartbeats 2000000 in
/-- impl.Marshal where a label is missing: false -/
theorem ImplMarL_bad (big : Bool) (A : Option Addr) (n cap : Nat) (xs : List Ins) (aE : Addr) (w : World) (h : InsAt w A n xs) (h0 : 0 < n) (hn : n ≤ 400) (hs : symsOk [] xs = true) (hf : ∀ i ∈ xs, i.Fits) (hk : ∀ i ∈ xs, noS i.ref = false → RefKind i ∧ i.ref.size ≤ maxLen)
    (hbad : ∃ i ∈ xs, noS i.ref = false ∧ lAt xs i.ref < 0) (hE : w.cell? ⟨3, 0, none⟩ = some (.iface 137 (.pointer (some aE)))) :
    Calls Tryd.prog 21 #[.slice A n cap, .bool big] w fun e w' => (∃ A' n' c', e = .returned (.tuple #[.slice A' n' c', .bool false])) ∧ Below w.heap.size w w' := by
  have hl := h.1
  have L := Lib.hid hl
  have AC := Lib.hid (all_c A n cap xs w h (by omega) hf)
  have HE := Lib.hid hE
  have HK := Lib.hid hk
  have HS := Lib.hid hs
  have HBAD := Lib.hid hbad
  have hEl : 3 < w.heap.size := block_lt_of_cell hE
  clear hl h hf hk hs hE hbad
  go_enter Tryd.func21, Tryd.ntmps21
  go_wp2_with fail
  refine AC.out.mono ?_
  rintro e w1 ⟨⟨v, rfl, hv⟩, hb1⟩
  obtain ⟨g, cp, rfl, hcp, hgB, ⟨cur, hcur⟩, hi⟩ := hv.opened (by rw [L.out]; exact h0)
  have hg := lt_of_blk hcur
  have hbG := (Below.refl w1.heap.size w1).alloc (Nat.le_refl _) (.cells #[.slice none 0 0] 91)
  have hsz : (w1.alloc (.cells #[.slice none 0 0] 91)).heap.size = w1.heap.size + 1 := by simp
  have hboxS := heap_alloc_new w1 (.cells #[.slice none 0 0] 91)
  have hcurS := (hbG.block g hg).trans hcur
  have hiS : InsM (w1.alloc (.cells #[.slice none 0 0] 91)) g xs := InsM.keep hi hbG hg
  have hES : (w1.alloc (.cells #[.slice none 0 0] 91)).cell? ⟨3, 0, none⟩ = some (.iface 137 (.pointer (some aE))) :=
    ((hb1.trans (hbG.mono hb1.size)).cell (p := ⟨_, 0, none⟩) hEl).trans HE.out
  have EF := (EncL_c g xs.length cp xs _ _ rfl (by rw [L.out]; omega) hcp ⟨cur, hcurS⟩ hiS HS.out HK.out hES (by omega)).mono (R' := fun e W => e = .returned (.iface 137 (.pointer (some aE))) ∧ (w1.alloc (.cells #[.slice none 0 0] 91)).grownBy W (some g)) (by
    rintro e W ⟨hgr, ⟨_, hall, _⟩ | ⟨rfl, _⟩⟩
    · obtain ⟨i, hi, hr, hneg⟩ := HBAD.out
      exact absurd (hall i hi hr) (by omega)
    · exact ⟨rfl, hgr⟩)
  have IM := Lib.hid (IsMar_err big g xs.length cp w1.heap.size aE _ _ EF)
  have HBG := Lib.hid hbG
  have HB1 := Lib.hid hb1
  have HSZ := Lib.hid hsz
  have HBX := Lib.hid hboxS
  clear hcur hi hbG hb1 hv AC hsz hcp hcurS hiS hES EF hboxS
  go_wp2_with (first | (go_at_call 36; ((with_reducible refine (ZZOrder_c _ _).mono ?_); rintro e w' ⟨rfl, rfl⟩)))
  refine IM.out.mono ?_
  rintro e w3 ⟨rfl, hq⟩
  have hbx := (hq.block w1.heap.size (by rw [HSZ.out]; omega) (fun e => by injection e with e; omega)).trans HBX.out
  have x0 := cell_of_row _ _ 0 _ _ _ hbx
  have hbQ : Below w.heap.size w w3 := (HB1.out.trans (HBG.out.mono HB1.out.size)).grown hq (by rw [HSZ.out]; have := HB1.out.size; omega) (fun b he => by injection he with he; omega)
  have HBQ := Lib.hid hbQ
  have hgl := lt_of_blk hbx
  clear hbx IM hbQ hq
  go_wp2_with fail
  go_region
  all_goals
    go_wp2
    go_ret2
    exact ⟨⟨_, _, _, rfl⟩, HBQ.out.drew⟩
end Go.Proofs.YtakigeichhngbaaDoor
