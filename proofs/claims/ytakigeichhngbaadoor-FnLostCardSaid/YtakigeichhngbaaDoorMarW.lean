import Derived.Test.YtakigeichhngbaaDoorMarL
import Derived.Test.YtakigeichhngbaaDoorMarG
import Derived.Test.YtakigeichhngbaaDoorMarL24
import Derived.Test.YtakigeichhngbaaDoorMarG24
import Derived.Test.YtakigeichhngbaaDoorEncF
import Derived.Test.YtakigeichhngbaaDoorUnmI
namespace Go.Proofs.YtakigeichhngbaaDoor
open Go.RowKit
set_option linter.unusedVariables false
theorem IMar_c (big : Bool) (i : Ins) (p : Option Addr) (g B : Nat) (v : Value) (bs : List Int) (w : World) (h : OkN i) (hs : SinkAt w g B v bs) (hB : B ≤ w.heap.size) (hl : bs.length ≤ 50000) (c0 : -9223372036854775808 ≤ i.c) (c1 : i.c ≤ 9223372036854775807) :
    Calls Tryd.prog 77 #[.agg #[.int .u32 i.op, .int .u8 i.dst, .int .u8 i.src, .int .i16 i.off, .int .i64 i.c, .pointer p], .iface 90 (.pointer (some ⟨g, 0, none⟩)), ordV big] w (WriteEnd8 w g B v (bs ++ enc big i) (8 * pRaw i.op)) := by
  unfold pRaw
  cases h24 : (i.op == 24) <;> cases big
  · exact IMar_L i p g B v bs w h hs hB hl c0 c1 h24
  · exact IMar_G i p g B v bs w h hs hB hl c0 c1 h24
  · exact IMar_L24 i p g B v bs w h hs hB hl c0 c1 h24
  · exact IMar_G24 i p g B v bs w h hs hB hl c0 c1 h24
end Go.Proofs.YtakigeichhngbaaDoor
namespace Go.Proofs.YtakigeichhngbaaDoor
open Go.RowKit
set_option linter.unusedVariables false
set_option linter.unusedSimpArgs false
/-- inside Instructions.Marshal, k instructions written -/
def MIRel (big : Bool) (w : World) (G B : Nat) (v0 : Value) (l : List Ins) (k : Nat) (wr : World) : Prop :=
  ∃ v, SinkAt wr G B v (encs big (l.take k)) ∧ SinkFr w wr G v0 ∧ (v.ownBlock = v0.ownBlock ∨ ∃ j, v.ownBlock = some j ∧ w.heap.size ≤ j)
set_option maxRecDepth 100000 in
set_option maxHeartbeats 2000000 in
/-- Instructions.Marshal, by what encodeFunctionReferences leaves -/
theorem IsMar_any (big : Bool) (g n cap G B : Nat) (v0 : Value) (l : List Ins) (w : World) (Q : World → Prop) (hl : l.length = n) (hn : n ≤ 400) (hc : n ≤ cap)
    (EF : Calls Tryd.prog 68 #[.slice (some ⟨g, 0, none⟩) n cap] w fun e w' => e = .returned .nilIface ∧ Q w')
    (hQ : ∀ W, Q W → g < W.heap.size ∧ (∀ j (hj : j < l.length), ∃ p, InstrAt W g (j * 6) l[j] p) ∧ SinkAt W G B v0 [] ∧ B ≤ W.heap.size)
    (hk : ∀ i ∈ l, OkN i ∧ -9223372036854775808 ≤ i.c ∧ i.c ≤ 9223372036854775807) (hgG : g ≠ G) (hgv : some g ≠ v0.ownBlock) :
    Calls Tryd.prog 52 #[.slice (some ⟨g, 0, none⟩) n cap, .iface 90 (.pointer (some ⟨G, 0, none⟩)), ordV big] w fun e w' => e = .returned .nilIface ∧ ∃ w1, Q w1 ∧ MIRel big w1 G B v0 l n w' := by
  have L := Lib.hid hl
  have HK := Lib.hid hk
  have HQ := Lib.hid hQ
  have EF := Lib.hid EF
  clear hl hk hQ
  go_enter Tryd.func52, Tryd.ntmps52
  go_wp2_with fail
  refine EF.out.mono ?_
  rintro e w1 ⟨rfl, hq⟩
  obtain ⟨hg, hi, hs, hB⟩ := HQ.out w1 hq
  have HI := Lib.hid hi
  have hGl := lt_of_blk hs.box
  have R0 : MIRel big w1 G B v0 l 0 w1 := ⟨v0, hs, ⟨fun C hC => Below.refl _ _, Nat.le_refl _, fun j h1 _ _ => rfl⟩, .inl rfl⟩
  have R0 := Lib.hid R0
  have QW := Lib.hid hq
  clear EF hs hi hq HQ
  go_wp2_with fail
  go_loopw [19] (fun i wr => ∃ k : Nat, k ≤ n ∧ i = .int .i64 k ∧ MIRel big w1 G B v0 l k wr) (fun i _ => n - (intOf i).toNat)
  case atStart => exact ⟨0, Nat.zero_le _, rfl, R0.out⟩
  case round =>
    obtain ⟨k, hk, rfl, v, hsv, hfr, hov⟩ := hrel
    by_cases hk' : k < n
    · obtain ⟨iv, hiv⟩ : ∃ i, i = l[k]'(by rw [L.out]; exact hk') := ⟨_, rfl⟩
      obtain ⟨p, hz0⟩ := HI.out k (by rw [L.out]; exact hk')
      have hz := hz0.of_block (hfr.other g hg hgG hgv)
      have hok := HK.out iv (by rw [hiv]; exact List.getElem_mem _)
      have hpre : encs big (l.take (k + 1)) = encs big (l.take k) ++ enc big iv := by rw [List.take_succ_eq_append_getElem (by rw [L.out]; exact hk'), encs_snoc, hiv]
      have hle : (encs big (l.take k)).length ≤ 16000 := by
        have := encs_len_le big (l.take k)
        rw [List.length_take] at this
        omega
      rw [← hiv] at hz
      obtain ⟨z0, z1, z2, z3, z4, z5⟩ := hz
      have HB1 := Lib.hid ((Below.refl wr.heap.size wr).alloc (Nat.le_refl _) (rowI iv.op iv.dst iv.src iv.off iv.c p))
      have M := Lib.hid (IMar_c big iv p G B v _ (wr.alloc (rowI iv.op iv.dst iv.src iv.off iv.c p)) hok.1 (hsv.below HB1.out) (by have := hfr.size; have := HB1.out.size; omega) (by omega) hok.2.1 hok.2.2)
      have HPRE := Lib.hid hpre
      have HSV := Lib.hid hsv
      have HFR := Lib.hid hfr
      have HOV := Lib.hid hov
      clear hiv hok hpre hle hsv hfr hov hz0
      go_wp2_with fail
      refine M.out.mono ?_
      rintro e w3 ⟨v3, rfl, hs3, hf3, ho3⟩
      have hf4 := SinkFr.after HSV.out (by have := HFR.out.size; omega) HB1.out hf3
      have ho4 := ho_of ho3 HB1.out.size
      have hR : MIRel big w1 G B v0 l (k + 1) w3 := ⟨v3, by rw [HPRE.out]; exact hs3, HFR.out.then HOV.out hf4, by
        rcases ho4 with h | ⟨j, h, hj⟩
        · rw [h]; exact HOV.out
        · exact .inr ⟨j, h, Nat.le_trans HFR.out.size hj⟩⟩
      have HR := Lib.hid hR
      clear hs3 hf3 ho3 hf4 ho4 hR
      go_wp2
      go_roundw
      case rel => exact ⟨k + 1, by omega, by go_num, HR.out⟩
      case measure => simp [intOf]; omega
    · obtain rfl : k = n := by omega
      have HR := Lib.hid (show MIRel big w1 G B v0 l k wr from ⟨v, hsv, hfr, hov⟩)
      clear hsv hfr hov
      go_wp2
      go_ret
      exact ⟨rfl, w1, QW.out, HR.out⟩
theorem IsMar_c (big : Bool) (g n cap G B : Nat) (v0 : Value) (l : List Ins) (w : World) (hl : l.length = n) (hn : n ≤ 400) (hc : n ≤ cap) (hg : g < w.heap.size) (hi : ∀ j (hj : j < l.length), InstrAt w g (j * 6) l[j] none)
    (hk : ∀ i ∈ l, OkN i ∧ -9223372036854775808 ≤ i.c ∧ i.c ≤ 9223372036854775807) (hs : SinkAt w G B v0 []) (hB : B ≤ w.heap.size) (hgG : g ≠ G) (hgv : some g ≠ v0.ownBlock) :
    Calls Tryd.prog 52 #[.slice (some ⟨g, 0, none⟩) n cap, .iface 90 (.pointer (some ⟨G, 0, none⟩)), ordV big] w fun e w' => e = .returned .nilIface ∧ MIRel big w G B v0 l n w' := by
  refine (IsMar_any big g n cap G B v0 l w (fun W => Below w.heap.size w W) hl hn hc (EncF_none g n cap l w hl hn hc hg hi)
    (fun W hb => ⟨Nat.lt_of_lt_of_le hg hb.size, fun j hj => ⟨none, (hi j hj).of_block (hb.block g hg)⟩, hs.below hb, Nat.le_trans hB hb.size⟩) hk hgG hgv).mono ?_
  rintro e w' ⟨rfl, w1, hb, v, h1, h2, h3⟩
  exact ⟨rfl, v, h1, SinkFr.after hs hB hb h2, ho_of h3 hb.size⟩
end Go.Proofs.YtakigeichhngbaaDoor
namespace Go.Proofs.YtakigeichhngbaaDoor
open Go.RowKit
set_option linter.unusedVariables false
set_option linter.unusedSimpArgs false
theorem none_of_nil {w : World} {p : Option Addr} (h : MetaList w p []) : p = none := by
  cases p <;> simp_all [MetaList]
/-- impl.Marshal, of programs without names: the bytes, and true -/
def MarEnd (big : Bool) (w : World) (xs : List Ins) (e : Ending) (w' : World) : Prop :=
  ∃ v, e = .returned (.tuple #[v, .bool true]) ∧ OwnB w' w.heap.size v (encs big xs) ∧ Below w.heap.size w w'
set_option maxRecDepth 100000 in
set_option maxHeartbeats 2000000 in
theorem ImplMar_c (big : Bool) (A : Option Addr) (n cap : Nat) (xs : List Ins) (w : World) (h : InsAt w A n xs) (hn : n ≤ 400) (hk : ∀ i ∈ xs, OkF i ∧ -9223372036854775808 ≤ i.c ∧ i.c ≤ 9223372036854775807) (h0 : 0 < n) :
    Calls Tryd.prog 21 #[.slice A n cap, .bool big] w (MarEnd big w xs) := by
  have hl := h.1
  have L := Lib.hid hl
  have AC := Lib.hid (all_c A n cap xs w h (by omega) (fun i hi => (hk i hi).1.fits))
  have HK := Lib.hid hk
  clear hl h hk
  go_enter Tryd.func21, Tryd.ntmps21
  go_wp2_with fail
  refine AC.out.mono ?_
  rintro e w1 ⟨⟨v, rfl, hv⟩, hb1⟩
  obtain ⟨g, cp, rfl, hcp, hgB, ⟨cur, hcur⟩, hi⟩ := hv.opened (by rw [L.out]; exact h0)
  have hg := lt_of_blk hcur
  have hi' : ∀ j (hj : j < xs.length), InstrAt w1 g (j * 6) xs[j] none := fun j hj => by
    obtain ⟨p, h1, h2⟩ := hi j hj
    rw [(Ins.ok_metas (HK.out _ (List.getElem_mem hj)).1).1] at h2
    rw [none_of_nil h2] at h1
    exact h1
  have hbG := (Below.refl w1.heap.size w1).alloc (Nat.le_refl _) (.cells #[.slice none 0 0] 91)
  have hsk : SinkAt (w1.alloc (.cells #[.slice none 0 0] 91)) w1.heap.size (w1.heap.size + 1) (.slice none 0 0) [] :=
    ⟨heap_alloc_new w1 _, World.ownsRow_nil _ _ _ _, Nat.lt_succ_self _⟩
  have hsz : (w1.alloc (.cells #[.slice none 0 0] 91)).heap.size = w1.heap.size + 1 := by simp
  have IM := Lib.hid (IsMar_c big g xs.length cp w1.heap.size (w1.heap.size + 1) (.slice none 0 0) xs _ rfl (by rw [L.out]; exact hn) hcp (by rw [hsz]; omega) (fun j hj => (hi' j hj).of_block (hbG.block g hg)) (fun i hi => ⟨(HK.out i hi).1.toOkN, (HK.out i hi).2⟩) hsk (by rw [hsz]; exact Nat.le_refl _) (Nat.ne_of_lt hg) (by simp [Value.ownBlock]))
  have HBG := Lib.hid hbG
  have HB1 := Lib.hid hb1
  have HSZ := Lib.hid hsz
  clear hcur hi hi' hbG hsk hb1 hv AC hsz hcp
  go_wp2_with (first | (go_at_call 36; ((with_reducible refine (ZZOrder_c _ _).mono ?_); rintro e w' ⟨rfl, rfl⟩)))
  refine IM.out.mono ?_
  rintro e w3 ⟨rfl, v3, hs3, hf3, ho3⟩
  have hbx := hs3.box
  have x0 := cell_of_row _ _ 0 _ _ _ hbx
  rw [List.take_length] at hs3
  have HS3 := Lib.hid hs3
  have HF3 := Lib.hid hf3
  have hgl := lt_of_blk hbx
  clear hbx ho3 hs3 hf3 IM
  go_wp2_with fail
  go_region
  all_goals
    go_wp2
    go_ret2
    exact ⟨v3, rfl, OwnB.mono HS3.out.own (by have := HB1.out.size; omega), (HB1.out.trans (HBG.out.mono HB1.out.size)).trans (HF3.out.below _ HB1.out.size).drew⟩
end Go.Proofs.YtakigeichhngbaaDoor
