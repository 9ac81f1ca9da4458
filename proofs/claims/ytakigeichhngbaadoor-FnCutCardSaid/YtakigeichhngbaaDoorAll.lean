import Derived.Test.YtakigeichhngbaaDoorInsOf
namespace Go.Proofs.YtakigeichhngbaaDoor
open Go.RowKit
set_option linter.unusedVariables false
set_option linter.unusedSimpArgs false

def InstrCells (i : Ins) (p : Option Addr) : List Value := [.int .u32 i.op, .int .u8 i.dst, .int .u8 i.src, .int .i16 i.off, .int .i64 i.c, .pointer p]
def cellsAll (l : List Ins) (ps : List (Option Addr)) : List Value := (l.zip ps).flatMap fun x => InstrCells x.1 x.2
/-- the slice v, of the call's own from block B on, holds the instructions l -/
def Built (w : World) (B : Nat) (v : Value) (l : List Ins) : Prop :=
  ∃ ps : List (Option Addr), ps.length = l.length ∧ w.ownsRow B 65 6 v l.length (cellsAll l ps) ∧ ∀ x ∈ l.zip ps, MetaList w x.2 x.1.metas
theorem instr_info : (Tryd.prog.info? 65).map (fun i => (i.zero, i.size, i.bytes)) = some (some (.agg #[.int .u32 0, .int .u8 0, .int .u8 0, .int .i16 0, .int .i64 0, .pointer none]), 6, 24) := by kernel_rfl
theorem Built.nil (w : World) (B : Nat) : Built w B (.slice none 0 0) [] := ⟨[], rfl, World.ownsRow_nil _ _ _ _, by simp⟩
theorem MetaList.grown {w w' : World} {row : Option Nat} (hg : w.grownBy w' row) (hr : ∀ g, row = some g → ∃ d f, w.heap[g]? = some (.cells d 65 f)) {l : List (TypeId × ByteArray)} {p : Option Addr} (h : MetaList w p l) : MetaList w' p l :=
  h.away (fun g o hgo => hg.block g (lt_of_heap hgo) (fun e => by
    obtain ⟨d, f, hd⟩ := hr g e.symm
    exact ne_of_types hgo hd (by decide) rfl))
theorem ownBlock_type {w : World} {B : Nat} {v : Value} {n : Nat} {xs : List Value} (h : w.ownsRow B 65 6 v n xs) : ∀ g, v.ownBlock = some g → ∃ d f, w.heap[g]? = some (.cells d 65 f) := by
  intro g hg
  rcases h.2 with ⟨rfl, _⟩ | ⟨g', cap, cur, rfl, _, hh, _⟩
  · cases hg
  · have : g' = g := by simpa [Value.ownBlock] using hg
    subst this
    exact ⟨_, _, hh⟩
theorem cellsAll_snoc (l : List Ins) (ps : List (Option Addr)) (h : ps.length = l.length) (i : Ins) (p : Option Addr) : cellsAll (l ++ [i]) (ps ++ [p]) = cellsAll l ps ++ InstrCells i p := by
  unfold cellsAll
  rw [List.zip_append h.symm]
  simp
/-- one append -/
theorem Built.snoc {w1 w2 : World} {B : Nat} {v v2 : Value} {l : List Ins} {i : Ins} {p : Option Addr} {X : Obj} {ps : List (Option Addr)} (hps : ps.length = l.length) (ho : w1.ownsRow B 65 6 v l.length (cellsAll l ps))
    (hm : ∀ x ∈ l.zip ps, MetaList w1 x.2 x.1.metas) (hi : MetaList w1 p i.metas)
    (ho2 : w2.ownsRow B 65 6 v2 (l.length + 1) (cellsAll l ps ++ InstrCells i p)) (hg : (w1.alloc X).grownBy w2 v.ownBlock) : Built w2 B v2 (l ++ [i]) := by
  refine ⟨ps ++ [p], by simp [hps], ?_, ?_⟩
  · rw [cellsAll_snoc l ps hps, List.length_append]
    exact ho2
  · have hr := ownBlock_type (ho.alloc X)
    have key : ∀ {q : Option Addr} {m : List (TypeId × ByteArray)}, MetaList w1 q m → MetaList w2 q m := fun h => (h.keep ((Below.refl _ _).alloc (Nat.le_refl _) X)).grown hg hr
    intro x hx
    rw [List.zip_append hps.symm] at hx
    rcases List.mem_append.1 hx with hx | hx
    · exact key (hm x hx)
    · simp at hx; subst hx; exact key hi
theorem own_below {w w' : World} {B : Nat} {e : TypeId} {size : Nat} {v : Value} {n : Nat} {xs : List Value} (h : w.ownsRow B e size v n xs) (hb : Below w.heap.size w w') : w'.ownsRow B e size v n xs := by
  have hg : w.grownBy w' none := ⟨hb.os, hb.tape, hb.output, hb.size, fun i hi _ => hb.block i hi⟩
  refine h.kept hg ?_
  cases hv : v.ownBlock
  · exact .inl rfl
  · exact .inr (by simp)
def AllEnd (xs : List Ins) (B : Nat) (e : Ending) (w' : World) : Prop := ∃ v, e = .returned (.tuple #[v, .bool true]) ∧ Built w' B v xs
theorem instrCells_one (i : Ins) (p : Option Addr) : ∀ u ∈ InstrCells i p, u.oneCell' = true := by
  intro u hu
  simp only [InstrCells, List.mem_cons, List.not_mem_nil, or_false] at hu
  rcases hu with rfl | rfl | rfl | rfl | rfl | rfl <;> rfl
set_option maxHeartbeats 1000000 in
theorem all_c (A : Option Addr) (n cap : Nat) (xs : List Ins) (w : World) (h : InsAt w A n xs) (hn : n ≤ 1000) (hf : ∀ i ∈ xs, i.Fits) :
    Calls Tryd.prog 42 #[.slice A n cap] w fun e w' => AllEnd xs w.heap.size e w' ∧ Below w.heap.size w w' := by
  obtain ⟨hl, h⟩ := h
  rcases h with h0 | ⟨b, o, rfl, hlt, hc⟩
  · subst h0
    have : xs = [] := List.eq_nil_of_length_eq_zero hl
    subst this
    go_enter Tryd.func42, Tryd.ntmps42
    go_wp2
    go_rounds 1
    go_ret2
    exact ⟨⟨_, rfl, Built.nil _ _⟩, Below.refl _ _⟩
  · obtain ⟨i0, hi0, hz0, hz1, hz2⟩ := info_parts instr_info
    have C := Lib.hid hc
    have L := Lib.hid hl
    have F := Lib.hid hf
    have S := Lib.hid hz0
    have S1 := Lib.hid hz1
    have S2 := Lib.hid hz2
    have S0 := Lib.hid hi0
    clear hc hl hf hz0 hz1 hz2 hi0
    go_enter Tryd.func42, Tryd.ntmps42
    go_wp2
    go_loopw [4, 9] (fun v i wr => ∃ k : Nat, k ≤ n ∧ i = .int .i64 k ∧ Built wr w.heap.size v (xs.take k) ∧ Below w.heap.size w wr) (fun _ i _ => n - (intOf i).toNat)
    case atStart => exact ⟨0, Nat.zero_le _, rfl, Built.nil _ _, Below.refl _ _⟩
    case round =>
      obtain ⟨k, hk, rfl, hbuilt, hb⟩ := hrel
      by_cases hk' : k < n
      · have hkl : k < xs.length := by rw [L.out]; exact hk'
        obtain ⟨i, hi⟩ : ∃ i, i = xs[k] := ⟨_, rfl⟩
        obtain ⟨c0, c1, c2, c3, c4, c5, c6⟩ := (show InsCells w b (o + k * 7) i from by rw [hi]; exact C.out k _).keep hb hlt
        have hfit : i.Fits := by rw [hi]; exact F.out _ (List.getElem_mem _)
        have HI := Lib.hid hi
        have HF := Lib.hid hfit
        clear hi hfit
        have hlt2 : b < wr.heap.size := Nat.lt_of_lt_of_le hlt hb.size
        have hz0 := hb.size
        obtain ⟨pre, hpre⟩ : ∃ pre, pre = xs.take k := ⟨_, rfl⟩
        rw [← hpre] at hbuilt
        have hpl : pre.length = k := by rw [hpre, List.length_take]; omega
        have PL := Lib.hid hpl
        have PRE := Lib.hid hpre
        clear hpl hpre
        obtain ⟨ps, hps, ho, hm⟩ := hbuilt
        have HPS := Lib.hid hps
        have HO := Lib.hid ho
        have HM := Lib.hid hm
        clear hps ho hm
        go_wp2_with fail
        refine (fits_c i _ HF.out).mono ?_
        rintro e w1 ⟨rfl, hb1⟩
        obtain ⟨hc1, hf1⟩ := bcell hb1
        go_wp2_with fail
        refine (insOf_c i _ HF.out).mono ?_
        rintro e w2 ⟨⟨p, rfl, hmp⟩, hb2⟩
        have hB2 : Below wr.heap.size wr w2 := (((Below.refl _ _).alloc (Nat.le_refl _) _).trans (hb1.mono (by simp))).trans (hb2.mono (by have := hb1.size; simp at this; omega))
        clear hc1 hf1 hb1 hb2
        have HO2 := own_below HO.out hB2
        have hz2 := hB2.size
        go_wp2_with (first | (at_builtin; refine wpList_append_own _ rfl (.tmp 16) (.tmp 19) 76 rfl w.heap.size 65 i0 (.agg #[.int .u32 0, .int .u8 0, .int .u8 0, .int .i16 0, .int .i64 0, .pointer none]) 6 24 Tryd.underlying76 S0.out S.out S1.out S2.out rfl (by decide) _ _ _ rfl (HO2.alloc _) ⟨w2.heap.size, 0, none⟩ 1 1 (InstrCells i p) rfl rfl ?c1 (instrCells_one i p) ?c3 ?c4 ?c5 ?_))
        case c1 =>
          intro j u hj
          simp only [InstrCells] at hj
          have hh := heap_alloc_new w2 (.cells #[.int .u32 i.op, .int .u8 i.dst, .int .u8 i.src, .int .i16 i.off, .int .i64 i.c, .pointer p] 65)
          have hadd : (⟨w2.heap.size, 0, none⟩ : Addr).add j = ⟨w2.heap.size, j, none⟩ := by unfold Addr.add; split <;> simp_all
          rw [hadd, cell_of_row _ _ _ _ _ _ hh]
          simpa using hj
        case c3 => rw [PL.out]; unfold maxLen; omega
        case c4 => rw [PL.out]; omega
        case c5 => have := hb.size; simp; omega
        intro v2 w3 hown3 hgrow3 _
        have hb3 : Below w.heap.size w w3 := ((hb.trans (hB2.mono hb.size)).alloc (by omega) _).grown hgrow3 (by simp; omega) (fun g hg => (HO2.lt g hg).1)
        have R := Lib.hid (Built.snoc HPS.out HO2 (fun x hx => (HM.out x hx).keep hB2) hmp hown3 hgrow3)
        have hpre2 : pre ++ [i] = xs.take (k + 1) := by rw [PRE.out, HI.out, List.take_succ_eq_append_getElem hkl]
        have PRE2 := Lib.hid hpre2
        clear hpre2 hown3 hgrow3 HO2 HO HM hmp hB2
        go_wp2
        go_roundw
        case rel => exact ⟨k + 1, by omega, by go_num, by rw [← PRE2.out]; exact R.out, hb3⟩
        case measure => simp [intOf]; omega
      · have hall : xs.take k = xs := List.take_of_length_le (by rw [L.out]; omega)
        rw [hall] at hbuilt
        have HBU := Lib.hid hbuilt
        clear hall hbuilt
        go_wp2
        go_ret2
        exact ⟨⟨_, rfl, HBU.out⟩, hb⟩
end Go.Proofs.YtakigeichhngbaaDoor
