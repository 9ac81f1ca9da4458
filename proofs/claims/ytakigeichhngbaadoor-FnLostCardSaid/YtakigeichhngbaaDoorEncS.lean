import Derived.Test.YtakigeichhngbaaDoorEncF
import Derived.Test.YtakigeichhngbaaDoorPlLab
namespace Go.Proofs.YtakigeichhngbaaDoor
open Go.RowKit
open Go.Maps (Keyed string_keyed)
set_option linter.unusedVariables false
set_option linter.unusedSimpArgs false
/-- what is kept under the keys, read back -/
theorem sym_metas (i : Ins) : symOf i.metas = i.sym ∧ refOf i.metas = i.ref := by
  unfold symOf refOf getL Ins.metas
  cases hr : i.ref.toList.isEmpty <;> cases hs : i.sym.toList.isEmpty
  · exact ⟨rfl, rfl⟩
  · rw [empty_bytes hs]; exact ⟨rfl, rfl⟩
  · rw [empty_bytes hr]; exact ⟨rfl, rfl⟩
  · rw [empty_bytes hs, empty_bytes hr]; exact ⟨rfl, rfl⟩
theorem str_law : Keyed Tryd.prog 9 := string_keyed Tryd.underlying9
theorem zero_raw (w : World) : (zeroValue 147).run Tryd.prog w = .ok (.int .u64 0) w := by kernel_rfl
theorem str_key {s : ByteArray} (hs : s.size ≤ maxLen) : keyOf Tryd.prog 9 (.string s) = some (strK s) := WideMaps.keyOf_string_mk Tryd.underlying9 hs
abbrev ownM (w : World) (b n : Nat) (D : DataW Unit) : Prop := w.ownsMap Tryd.prog 9 (plainElem Tryd.prog 147) b n D
/-- the first loop: k instructions seen -/
def Enc1 (w : World) (it g n cap mb : Nat) (l : List Ins) (gk : Nat) (wr : World) : Prop :=
  ∃ (k : Nat) (D : DataW Unit), gk = n - k ∧ k ≤ n ∧ ItState wr it g n cap l k ∧ Below w.heap.size w wr ∧ ownM wr mb k D ∧ LabD l k D
/-- the instructions lie in block g with their metadata -/
def InsM (w : World) (g : Nat) (l : List Ins) : Prop := ∀ j (hj : j < l.length), ∃ p, InstrAt w g (j * 6) l[j] p ∧ MetaList w p l[j].metas
theorem InsM.keep {w w' : World} {g : Nat} {l : List Ins} (h : InsM w g l) (hb : Below w.heap.size w w') (hg : g < w.heap.size) : InsM w' g l := fun j hj => by
  obtain ⟨p, h1, h2⟩ := h j hj
  exact ⟨p, h1.keep hb hg, h2.keep hb⟩
/-- Symbol and Reference, by the instruction's names -/
theorem sym_is (i : Ins) (p : Option Addr) (W : World) (hm : MetaList W p i.metas) : Calls Tryd.prog 66 #[.agg #[.int .u32 i.op, .int .u8 i.dst, .int .u8 i.src, .int .i16 i.off, .int .i64 i.c, .pointer p]] W
    fun e w' => e = .returned (.string i.sym) ∧ W.alloc (.cells #[.int .u32 i.op, .int .u8 i.dst, .int .u8 i.src, .int .i16 i.off, .int .i64 i.c, .pointer p] 65) = w' := by
  have := Symbol_c i.op i.dst i.src i.off i.c p i.metas W hm (metas_len i)
  rw [show (getL 142 i.metas).getD ⟨#[]⟩ = i.sym from (sym_metas i).1] at this
  exact this
theorem ref_is (i : Ins) (p : Option Addr) (W : World) (hm : MetaList W p i.metas) : Calls Tryd.prog 67 #[.agg #[.int .u32 i.op, .int .u8 i.dst, .int .u8 i.src, .int .i16 i.off, .int .i64 i.c, .pointer p]] W
    fun e w' => e = .returned (.string i.ref) ∧ W.alloc (.cells #[.int .u32 i.op, .int .u8 i.dst, .int .u8 i.src, .int .i16 i.off, .int .i64 i.c, .pointer p] 65) = w' := by
  have := Reference_c i.op i.dst i.src i.off i.c p i.metas W hm (metas_len i)
  rw [show (getL 143 i.metas).getD ⟨#[]⟩ = i.ref from (sym_metas i).2] at this
  exact this
/-- what is asked of a reference -/
def RefKind (i : Ins) : Prop :=
  (sFar i = true ∧ i.c = -1 ∧ (pFunRef i.op i.src = true ∨ (pFunRef i.op i.src = false ∧ i.op = 6))) ∨
    (sFar i = false ∧ i.off = -1 ∧ pFunRef i.op i.src = false ∧ i.op ≠ 6 ∧ pIsJump (pCls i.op) = true)
def FixM (W : World) (g : Nat) (l : List Ins) : Prop :=
  (∃ cur, W.heap[g]? = some (.cells cur 65 (0, 0))) ∧ ∀ j (hj : j < l.length), ∃ p, InstrAt W g (j * 6) (fixI l j l[j]) p ∧ MetaList W p l[j].metas
def EncEnd (w : World) (g : Nat) (l : List Ins) (errV : Value) (e : Ending) (w' : World) : Prop :=
  w.grownBy w' (some g) ∧ ((e = .returned .nilIface ∧ (∀ i ∈ l, noS i.ref = false → 0 ≤ lAt l i.ref) ∧ FixM w' g l) ∨ (e = .returned errV ∧ ∃ i ∈ l, noS i.ref = false ∧ lAt l i.ref < 0))
theorem grown_then {w wr y : World} {g jt : Nat} (h : w.grownBy wr (some g)) (h2 : wr.grownBy y (some jt)) (hj : w.heap.size ≤ jt) : w.grownBy y (some g) :=
  ⟨h2.os.trans h.os, h2.tape.trans h.tape, h2.output.trans h.output, Nat.le_trans h.size h2.size, fun k hk hne => (h2.block k (Nat.lt_of_lt_of_le hk h.size) (fun e => by injection e with e; omega)).trans (h.block k hk hne)⟩
theorem grown_below {w wr y : World} {g : Nat} (h : w.grownBy wr (some g)) (h2 : Below wr.heap.size wr y) : w.grownBy y (some g) :=
  ⟨h2.os.trans h.os, h2.tape.trans h.tape, h2.output.trans h.output, Nat.le_trans h.size h2.size, fun k hk hne => (h2.block k (Nat.lt_of_lt_of_le hk h.size)).trans (h.block k hk hne)⟩
theorem grown_set {w wr : World} {g o : Nat} {v : Value} (h : w.grownBy wr (some g)) : w.grownBy (wr.setCell ⟨g, o, none⟩ v) (some g) :=
  ⟨h.os, h.tape, h.output, by simpa [World.setCell] using h.size, fun k hk hne => (heap_setCell_other _ _ _ _ (fun e => hne (by rw [e]))).trans (h.block k hk hne)⟩
theorem fixI_op (xs : List Ins) (k : Nat) (i : Ins) : (fixI xs k i).op = i.op ∧ (fixI xs k i).metas = i.metas := by
  unfold fixI
  cases noS i.ref <;> cases sFar i <;> exact ⟨rfl, rfl⟩
/-- the second loop: k instructions put in -/
structure Enc2S (w : World) (jt g n cap mb : Nat) (l : List Ins) (D : DataW Unit) (k : Nat) (wr : World) : Prop where
  st : ItState wr jt g n cap l k
  gr : w.grownBy wr (some g)
  ow : ownM wr mb n D
  blk : ∃ cur, wr.heap[g]? = some (.cells cur 65 (0, 0))
  at_ : ∀ j (hj : j < l.length), ∃ p, InstrAt wr g (j * 6) (if j < k then fixI l j l[j] else l[j]) p ∧ MetaList w p l[j].metas
  ok : ∀ j (hj : j < l.length), j < k → noS l[j].ref = false → 0 ≤ lAt l l[j].ref
def Enc2 (w : World) (jt g n cap mb : Nat) (l : List Ins) (D : DataW Unit) (gk : Nat) (wr : World) : Prop := ∃ k, gk = n - k ∧ k ≤ n ∧ Enc2S w jt g n cap mb l D k wr
abbrev rowP (i : Ins) (p : Option Addr) : Obj := .cells #[.int .u32 i.op, .int .u8 i.dst, .int .u8 i.src, .int .i16 i.off, .int .i64 i.c, .pointer p] 65
/-- .. the iterator stands at the j-th, iv -/
structure Enc2Y (w : World) (jt g n cap mb : Nat) (l : List Ins) (D : DataW Unit) (j : Nat) (iv : Ins) (p : Option Addr) (y : World) : Prop where
  st : ItState y jt g n cap l (j + 1)
  gr : w.grownBy y (some g)
  ow : ownM y mb n D
  blk : ∃ cur, y.heap[g]? = some (.cells cur 65 (0, 0))
  at_ : ∀ q (hq : q < l.length), q ≠ j → ∃ p, InstrAt y g (q * 6) (if q < j then fixI l q l[q] else l[q]) p ∧ MetaList w p l[q].metas
  ok : ∀ q (hq : q < l.length), q < j → noS l[q].ref = false → 0 ≤ lAt l l[q].ref
  here : InstrAt y g (j * 6) iv p
  meta_ : MetaList w p iv.metas
section
variable {w y wr : World} {jt g n cap mb j k : Nat} {l : List Ins} {D : DataW Unit} {iv : Ins} {p : Option Addr}
theorem Enc2S.step (h : Enc2S w jt g n cap mb l D j wr) (hg2 : wr.grownBy y (some jt)) (hst : ItState y jt g n cap l (j + 1)) (hgj : g ≠ jt) (hmj : mb ≠ jt) (hjt : w.heap.size ≤ jt) (hj : j < l.length) (hiv : iv = l[j]) :
    ∃ p, Enc2Y w jt g n cap mb l D j iv p y := by
  have hg1 : g < wr.heap.size := by obtain ⟨c, hc⟩ := h.blk; exact lt_of_blk hc
  have hb := hg2.block g hg1 (fun e => hgj (by injection e))
  obtain ⟨p, h1, h2⟩ := h.at_ j hj
  rw [if_neg (Nat.lt_irrefl j), ← hiv] at h1
  rw [← hiv] at h2
  refine ⟨p, hst, grown_then h.gr hg2 hjt, h.ow.kept hg2 (fun e => hmj (by injection e)), ?_, fun q hq hne => ?_, h.ok, h1.of_block hb, h2⟩
  · obtain ⟨c, hc⟩ := h.blk; exact ⟨c, hb.trans hc⟩
  · obtain ⟨p', a, b⟩ := h.at_ q hq; exact ⟨p', a.of_block hb, b⟩
theorem Enc2Y.keep {y' : World} (h : Enc2Y w jt g n cap mb l D j iv p y) (hb : Below y.heap.size y y') : Enc2Y w jt g n cap mb l D j iv p y' := by
  have hg1 : g < y.heap.size := by obtain ⟨c, hc⟩ := h.blk; exact lt_of_blk hc
  refine ⟨h.st.of_block (hb.block _ h.st.lt), grown_below h.gr hb, World.ownsMap.kept (row := none) h.ow ⟨hb.os, hb.tape, hb.output, hb.size, fun k hk _ => hb.block k hk⟩ (by simp), ?_, fun q hq hne => ?_, h.ok, h.here.of_block (hb.block g hg1), h.meta_⟩
  · obtain ⟨c, hc⟩ := h.blk; exact ⟨c, (hb.block g hg1).trans hc⟩
  · obtain ⟨p', a, b⟩ := h.at_ q hq hne; exact ⟨p', a.of_block (hb.block g hg1), b⟩
theorem Enc2Y.metas (h : Enc2Y w jt g n cap mb l D j iv p y) (hg : ∃ cur, w.heap[g]? = some (.cells cur 65 (0, 0))) : MetaList y p iv.metas :=
  MetaList.grown h.gr (fun q hq => by obtain ⟨c, hc⟩ := hg; injection hq with hq; subst hq; exact ⟨c, _, hc⟩) h.meta_
theorem Enc2Y.lt (h : Enc2Y w jt g n cap mb l D j iv p y) : g < y.heap.size := by obtain ⟨c, hc⟩ := h.blk; exact lt_of_blk hc
theorem Enc2Y.fz (h : Enc2Y w jt g n cap mb l D j iv p y) (o : Nat) : y.frozen? ⟨g, o, none⟩ = false := by obtain ⟨c, hc⟩ := h.blk; exact frozen_of_row _ _ _ _ _ hc
/-- no reference: it stays -/
theorem Enc2Y.same (h : Enc2Y w jt g n cap mb l D j iv p y) (hj : j < l.length) (hiv : iv = l[j]) (hr : noS iv.ref = true) : Enc2S w jt g n cap mb l D (j + 1) y := by
  refine ⟨h.st, h.gr, h.ow, h.blk, fun q hq => ?_, fun q hq hlt hn => ?_⟩
  · by_cases hqj : q = j
    · subst hqj
      refine ⟨p, ?_, by rw [← hiv]; exact h.meta_⟩
      rw [if_pos (Nat.lt_succ_self _), ← hiv]
      have e : fixI l q iv = iv := by unfold fixI; rw [hr]; rfl
      rw [e]
      exact h.here
    · obtain ⟨p', a, b⟩ := h.at_ q hq hqj
      refine ⟨p', ?_, b⟩
      by_cases hlt : q < j
      · rw [if_pos hlt] at a; rw [if_pos (by omega)]; exact a
      · rw [if_neg hlt] at a; rw [if_neg (by omega)]; exact a
  · by_cases hqj : q = j
    · subst hqj; rw [← hiv, hr] at hn; cases hn
    · exact h.ok q hq (by omega) hn
theorem cell_set_other (y : World) (g a b : Nat) (v : Value) (h : a ≠ b) : (y.setCell ⟨g, a, none⟩ v).cell? ⟨g, b, none⟩ = y.cell? ⟨g, b, none⟩ := World.cell?_setCell_other y _ _ v (fun e => h (by injection e))
/-- its constant (or its offset) is put in -/
theorem Enc2Y.put (h : Enc2Y w jt g n cap mb l D j iv p y) (hj : j < l.length) (hiv : iv = l[j]) (hr : noS iv.ref = false) (hl : 0 ≤ lAt l iv.ref) (hgm : mb ≠ g) (hgj : jt ≠ g) (far : Bool) (hf : sFar iv = far) (z : Int)
    (hz : z = sumRaw (l.take (lAt l iv.ref).toNat) - sumRaw (l.take j) - 1) (o : Nat) (v : Value) (ho : o = j * 6 + bif far then 4 else 3) (hv : v = bif far then .int .i64 z else .int .i16 z) :
    Enc2S w jt g n cap mb l D (j + 1) (y.setCell ⟨g, o, none⟩ v) := by
  have eo : ∀ b, b ≠ o → (y.setCell ⟨g, o, none⟩ v).cell? ⟨g, b, none⟩ = y.cell? ⟨g, b, none⟩ := fun b hb => cell_set_other y g o b v (Ne.symm hb)
  obtain ⟨c0, c1, c2, c3, c4, c5⟩ := h.here
  refine ⟨h.st.of_block (heap_setCell_other _ _ _ _ hgj), grown_set h.gr, h.ow.setCell hgm v, ?_, fun q hq => ?_, fun q hq hlt hn => ?_⟩
  · obtain ⟨c, hc⟩ := h.blk; exact ⟨_, heap_setCell_same _ _ _ _ _ _ hc⟩
  · by_cases hqj : q = j
    · subst hqj
      refine ⟨p, ?_, by rw [← hiv]; exact h.meta_⟩
      rw [if_pos (Nat.lt_succ_self _), ← hiv]
      unfold fixI
      rw [hr, hf, ← hz]
      cases far
      · simp only [cond_false] at ho hv ⊢
        subst ho hv
        exact ⟨(eo _ (by omega)).trans c0, (eo _ (by omega)).trans c1, (eo _ (by omega)).trans c2, World.cell?_setCell_same y _ _ c3, (eo _ (by omega)).trans c4, (eo _ (by omega)).trans c5⟩
      · simp only [cond_true, cond_false] at ho hv ⊢
        subst ho hv
        exact ⟨(eo _ (by omega)).trans c0, (eo _ (by omega)).trans c1, (eo _ (by omega)).trans c2, (eo _ (by omega)).trans c3, World.cell?_setCell_same y _ _ c4, (eo _ (by omega)).trans c5⟩
    · obtain ⟨p', a, b⟩ := h.at_ q hq hqj
      refine ⟨p', ?_, b⟩
      have ho2 : j * 6 + 3 ≤ o ∧ o ≤ j * 6 + 4 := by cases far <;> simp only [cond_true, cond_false] at ho <;> omega
      have key : InstrAt (y.setCell ⟨g, o, none⟩ v) g (q * 6) (if q < j then fixI l q l[q] else l[q]) p' := by
        obtain ⟨a0, a1, a2, a3, a4, a5⟩ := a
        exact ⟨(eo _ (by omega)).trans a0, (eo _ (by omega)).trans a1, (eo _ (by omega)).trans a2, (eo _ (by omega)).trans a3, (eo _ (by omega)).trans a4, (eo _ (by omega)).trans a5⟩
      by_cases hlt : q < j
      · rw [if_pos hlt] at key; rw [if_pos (by omega)]; exact key
      · rw [if_neg hlt] at key; rw [if_neg (by omega)]; exact key
  · by_cases hqj : q = j
    · subst hqj; rw [← hiv]; exact hl
    · exact h.ok q hq (by omega) hn
end
end Go.Proofs.YtakigeichhngbaaDoor
