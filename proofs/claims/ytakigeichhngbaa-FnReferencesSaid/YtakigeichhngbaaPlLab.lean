import Derived.Test.YtakigeichhngbaaOkNum
import Derived.Test.YtakigeichhngbaaAll
import Derived.Maps.OwnSet
import Derived.Test.YtakigeichhngbaaOp1
/-! Programs with labels: what the reference asks of them, and what it makes of them: plain functions. -/
namespace Go.Proofs.Ytakigeichhngbaa
open Go.RowKit
set_option linter.unusedVariables false
set_option linter.unusedSimpArgs false

def noS (s : ByteArray) : Bool := s.toList.isEmpty
def sameS (a b : ByteArray) : Bool := a.toList == b.toList
def sCalls (i : Ins) : Bool := i.op == 133 && i.src == 1
def sJumps (i : Ins) : Bool := sIsJump i.op && !(bits .and .i64 i.op 240 == 128) && !(bits .and .i64 i.op 240 == 144)
def sFar (i : Ins) : Bool := sCalls i || i.op == 6
/-- where a label stands, from the k-th on; -1 where it does not -/
def lAtF (name : ByteArray) : Nat → List Ins → Int
  | _, [] => -1
  | k, i :: l => bif sameS i.sym name then (k : Int) else lAtF name (k + 1) l
def lAt (l : List Ins) (name : ByteArray) : Int := lAtF name 0 l
def seenIn (s : ByteArray) (ss : List ByteArray) : Bool := ss.any fun x => sameS x s
def symsOk : List ByteArray → List Ins → Bool
  | _, [] => true
  | ss, i :: l => bif noS i.sym then symsOk ss l else bif seenIn i.sym ss then false else bif decide (20 < i.sym.size) then false else symsOk (ss ++ [i.sym]) l
def bareOk (i : Ins) : Bool := sInsOk i.op i.dst i.src i.off i.c ⟨#[]⟩ ⟨#[]⟩
def refOk (xs : List Ins) (i : Ins) : Bool :=
  bareOk i && (noS i.ref || ((sJumps i || sCalls i) && (bif sFar i then i.c == -1 && i.off == 0 else i.off == -1) && decide (0 ≤ lAt xs i.ref)))
def labOk (xs : List Ins) : Bool := decide (xs.length ≤ 60) && symsOk [] xs && xs.all (refOk xs)
/-- the k-th instruction, its jump or call put in -/
def fixI (xs : List Ins) (k : Nat) (i : Ins) : Ins :=
  bif noS i.ref then i else
    bif sFar i then { i with c := sumRaw (xs.take (lAt xs i.ref).toNat) - sumRaw (xs.take k) - 1 } else { i with off := sumRaw (xs.take (lAt xs i.ref).toNat) - sumRaw (xs.take k) - 1 }
def fixF (xs : List Ins) : Nat → List Ins → List Ins
  | _, [] => []
  | k, i :: l => fixI xs k i :: fixF xs (k + 1) l
def fixL (xs : List Ins) : List Ins := fixF xs 0 xs
theorem fixF_len (xs : List Ins) : ∀ (k : Nat) (l : List Ins), (fixF xs k l).length = l.length
  | _, [] => rfl
  | k, i :: l => by simp [fixF, fixF_len xs (k + 1) l]
theorem fixF_at (xs : List Ins) : ∀ (k : Nat) (l : List Ins) (j : Nat) (h : j < l.length), (fixF xs k l)[j]? = some (fixI xs (k + j) l[j])
  | k, [], j, h => absurd h (by simp)
  | k, i :: l, 0, h => by simp [fixF]
  | k, i :: l, j + 1, h => by
    have h' : j < l.length := by simpa using h
    have := fixF_at xs (k + 1) l j h'
    simp only [fixF, List.getElem?_cons_succ, List.getElem_cons_succ]
    rw [this]
    congr 2
    omega
theorem fixL_len (xs : List Ins) : (fixL xs).length = xs.length := fixF_len xs 0 xs
theorem fixL_at (xs : List Ins) (j : Nat) (h : j < xs.length) : (fixL xs)[j]'(by rw [fixL_len]; exact h) = fixI xs j xs[j] := by
  have := fixF_at xs 0 xs j h
  rw [Nat.zero_add] at this
  have h2 : (fixL xs)[j]? = some ((fixL xs)[j]'(by rw [fixL_len]; exact h)) := List.getElem?_eq_getElem _
  unfold fixL at h2 ⊢
  rw [this] at h2
  exact (Option.some.inj h2).symm
/-- where a label stands is a place of the list -/
theorem lAtF_bd (name : ByteArray) : ∀ (k : Nat) (l : List Ins), 0 ≤ lAtF name k l → (k : Int) ≤ lAtF name k l ∧ lAtF name k l < (k : Int) + l.length
  | k, [], h => by simp [lAtF] at h
  | k, i :: l, h => by
    unfold lAtF at h ⊢
    cases hs : sameS i.sym name
    · rw [hs] at h
      simp only [cond_false] at h ⊢
      have := lAtF_bd name (k + 1) l h
      simp only [List.length_cons]
      omega
    · simp only [cond_true, List.length_cons]
      omega
theorem lAt_bd {xs : List Ins} {name : ByteArray} (h : 0 ≤ lAt xs name) : (lAt xs name).toNat < xs.length := by
  have := lAtF_bd name 0 xs h
  unfold lAt
  omega
/-- the numbers of an instruction whose jump is put in are again those of an instruction of the document -/
theorem bare_okN {i : Ins} (h : bareOk i = true) : OkN i := by
  have h2 : ({ i with sym := ⟨#[]⟩, ref := ⟨#[]⟩ } : Ins).ok = true := h
  obtain ⟨⟨h0, h1, h2, h3, h4, h5⟩, -, -⟩ := okF h2
  exact ⟨h0, h1, h2, h3, h4, h5⟩
theorem jump_code {i : Ins} (hj : sIsJump i.op = true) (off c : Int) : sOpOk i.op i.src off c = sOpOk i.op i.src i.off i.c := by
  have ha : sIsALU i.op = false := by
    simp only [sIsJump, Bool.or_eq_true, beq_iff_eq] at hj
    simp only [sIsALU, Bool.or_eq_false_iff, beq_eq_false_iff_ne]
    rcases hj with hj | hj <;> rw [hj] <;> decide
  simp only [sOpOk, ha, hj, cond_true, cond_false]
theorem ref_jump {xs : List Ins} {i : Ins} (h : refOk xs i = true) (hr : noS i.ref = false) : sIsJump i.op = true ∧ 0 ≤ lAt xs i.ref ∧ (sFar i = true → i.c = -1 ∧ i.off = 0) ∧ (sFar i = false → i.off = -1 ∧ sJumps i = true) ∧ (sJumps i = true ∨ sCalls i = true) := by
  simp only [refOk, hr, Bool.false_or, Bool.and_eq_true, decide_eq_true_eq, Bool.or_eq_true] at h
  obtain ⟨-, ⟨hj, hf⟩, hl⟩ := h
  have c133 : ∀ x : Int, x = 133 → sIsJump x = true := by rintro x rfl; decide
  refine ⟨?_, hl, fun hfar => ?_, fun hfar => ?_, hj⟩
  · rcases hj with hj | hj
    · simp only [sJumps, Bool.and_eq_true] at hj; exact hj.1.1
    · simp only [sCalls, Bool.and_eq_true, beq_iff_eq] at hj; exact c133 _ hj.1
  · rw [hfar] at hf; simpa using hf
  · rw [hfar] at hf
    refine ⟨by simpa using hf, ?_⟩
    simp only [sFar, Bool.or_eq_false_iff] at hfar
    rcases hj with hj | hj
    · exact hj
    · rw [hfar.1] at hj; cases hj
theorem sumRaw_take (xs : List Ins) (hl : xs.length ≤ 60) (k : Nat) : 0 ≤ sumRaw (xs.take k) ∧ sumRaw (xs.take k) ≤ 120 := by
  have := sumRaw_bd (xs.take k)
  have h2 : (xs.take k).length ≤ xs.length := by rw [List.length_take]; omega
  omega
theorem labOk_at {xs : List Ins} (h : labOk xs = true) : xs.length ≤ 60 ∧ symsOk [] xs = true ∧ ∀ k (hk : k < xs.length), refOk xs xs[k] = true := by
  simp only [labOk, Bool.and_eq_true, decide_eq_true_eq, List.all_eq_true] at h
  exact ⟨h.1.1, h.1.2, fun k hk => h.2 _ (List.getElem_mem _)⟩
theorem refOk_bare {xs : List Ins} {i : Ins} (h : refOk xs i = true) : bareOk i = true := by
  simp only [refOk, Bool.and_eq_true] at h
  exact h.1
theorem fix_okN {xs : List Ins} (hl : xs.length ≤ 60) (k : Nat) {i : Ins} (h : refOk xs i = true) : OkN (fixI xs k i) ∧ (fixI xs k i).c = (fixI xs k i).c := by
  have hb := bare_okN (refOk_bare h)
  refine ⟨?_, rfl⟩
  unfold fixI
  cases hr : noS i.ref
  · obtain ⟨hj, -, -, -, -⟩ := ref_jump h hr
    obtain ⟨h0, h1, h2, h3, h4, h5⟩ := hb
    have s1 := sumRaw_take xs hl (lAt xs i.ref).toNat
    have s2 := sumRaw_take xs hl k
    simp only [cond_false]
    cases hf : sFar i
    · simp only [cond_false]
      exact ⟨h0, h1, h2, by simp only; omega, h4, by simp only [jump_code hj]; exact h5⟩
    · simp only [cond_true]
      exact ⟨h0, h1, h2, h3, .inr (by simp only; omega), by simp only [jump_code hj]; exact h5⟩
  · exact hb
theorem fix_cbd {xs : List Ins} (hl : xs.length ≤ 60) (k : Nat) {i : Ins} (h : -9223372036854775808 ≤ i.c ∧ i.c ≤ 9223372036854775807) : -9223372036854775808 ≤ (fixI xs k i).c ∧ (fixI xs k i).c ≤ 9223372036854775807 := by
  have s1 := sumRaw_take xs hl (lAt xs i.ref).toNat
  have s2 := sumRaw_take xs hl k
  unfold fixI
  cases noS i.ref <;> cases sFar i <;> simp only [cond_true, cond_false] <;> omega
end Go.Proofs.Ytakigeichhngbaa
/-! The map from labels to their places, as the first loop of encodeFunctionReferences makes it. -/
namespace Go.Proofs.Ytakigeichhngbaa
open Go.RowKit
open Go.Maps (IsMap)
set_option linter.unusedVariables false
set_option linter.unusedSimpArgs false

theorem lAtF_snoc (s : ByteArray) : ∀ (k : Nat) (l : List Ins) (i : Ins), lAtF s k (l ++ [i]) = bif decide (0 ≤ lAtF s k l) then lAtF s k l else bif sameS i.sym s then ((k + l.length : Nat) : Int) else -1
  | k, [], i => by simp [lAtF]
  | k, a :: l, i => by
    have ih := lAtF_snoc s (k + 1) l i
    have e : k + 1 + l.length = k + (l.length + 1) := by omega
    cases hs : sameS a.sym s
    · simp only [List.cons_append, lAtF, hs, cond_false, ih, List.length_cons, e]
    · simp only [List.cons_append, lAtF, hs, cond_true]
      simp
theorem lAt_snoc (s : ByteArray) (l : List Ins) (i : Ins) : lAt (l ++ [i]) s = bif decide (0 ≤ lAt l s) then lAt l s else bif sameS i.sym s then (l.length : Int) else -1 := by
  have := lAtF_snoc s 0 l i
  rw [Nat.zero_add] at this
  exact this
theorem sameS_iff {a b : ByteArray} : sameS a b = true ↔ a.data.toList = b.data.toList := by
  unfold sameS
  rw [beq_iff_eq, ByteArray.toList_eq, ByteArray.toList_eq]
theorem sameS_eq {a b : ByteArray} (h : sameS a b = true) : a = b := by
  have := sameS_iff.1 h
  cases a with
  | mk x => cases b with
    | mk y => simp at this; rw [this]
theorem sameS_refl (a : ByteArray) : sameS a a = true := sameS_iff.2 rfl
theorem noS_same {a b : ByteArray} (h : sameS a b = true) : noS a = noS b := by rw [sameS_eq h]
theorem noS_ne {a b : ByteArray} (ha : noS a = true) (hb : noS b = false) : sameS a b = false := by
  cases h : sameS a b
  · rfl
  · rw [noS_same h, hb] at ha; cases ha
theorem lAtF_none (s : ByteArray) : ∀ (k : Nat) (l : List Ins), (∀ i ∈ l, sameS i.sym s = false) → lAtF s k l = -1
  | k, [], _ => rfl
  | k, a :: l, h => by
    unfold lAtF
    rw [h a (by simp)]
    exact lAtF_none s (k + 1) l fun i hi => h i (by simp [hi])
/-- labels are all different -/
theorem symsOk_dist : ∀ (l : List Ins) (ss : List ByteArray), symsOk ss l = true → ∀ (j : Nat) (hj : j < l.length), noS l[j].sym = false → seenIn l[j].sym ss = false ∧ l[j].sym.size ≤ 20 ∧ ∀ i ∈ l.take j, sameS i.sym l[j].sym = false
  | [], _, _, j, hj, _ => absurd hj (by simp)
  | i :: l, ss, h, 0, hj, hn => by
    have hn' : noS i.sym = false := hn
    unfold symsOk at h
    rw [hn'] at h
    simp only [cond_false] at h
    refine ⟨?_, ?_, by simp⟩
    · show seenIn i.sym ss = false
      cases hs : seenIn i.sym ss
      · rfl
      · rw [hs] at h; simp at h
    · show i.sym.size ≤ 20
      cases hs : seenIn i.sym ss
      · rw [hs] at h
        cases hd : decide (20 < i.sym.size)
        · simpa using hd
        · rw [hd] at h; simp at h
      · rw [hs] at h; simp at h
  | i :: l, ss, h, j + 1, hj, hn => by
    have hj' : j < l.length := by simpa using hj
    have hn' : noS l[j].sym = false := hn
    unfold symsOk at h
    cases he : noS i.sym
    · rw [he] at h
      simp only [cond_false] at h
      cases hs : seenIn i.sym ss
      · rw [hs] at h
        cases hd : decide (20 < i.sym.size)
        · rw [hd] at h
          simp only [cond_false] at h
          obtain ⟨h1, h2, h3⟩ := symsOk_dist l _ h j hj' hn'
          simp only [seenIn, List.any_append, Bool.or_eq_false_iff] at h1
          have h4 : sameS i.sym l[j].sym = false := by simpa using h1.2
          refine ⟨h1.1, h2, fun x hx => ?_⟩
          rw [List.take_succ_cons, List.mem_cons] at hx
          rcases hx with rfl | hx
          · exact h4
          · exact h3 x hx
        · rw [hd] at h; simp at h
      · rw [hs] at h; simp at h
    · rw [he] at h
      simp only [cond_true] at h
      obtain ⟨h1, h2, h3⟩ := symsOk_dist l _ h j hj' hn'
      refine ⟨h1, h2, fun x hx => ?_⟩
      rw [List.take_succ_cons, List.mem_cons] at hx
      rcases hx with rfl | hx
      · exact noS_ne he hn'
      · exact h3 x hx
theorem lAt_new {xs : List Ins} (h : symsOk [] xs = true) {k : Nat} (hk : k < xs.length) (hn : noS xs[k].sym = false) : lAt (xs.take k) xs[k].sym = -1 :=
  lAtF_none _ _ _ (symsOk_dist xs [] h k hk hn).2.2
def strK (s : ByteArray) : Lit := .string s.data.toList
theorem strK_key (s : ByteArray) : WideAt.IsKeyLit (strK s) := by unfold strK; exact trivial
theorem strK_ne {a b : ByteArray} (h : sameS a b = false) : strK b ≠ strK a := by
  intro e
  injection e with e
  rw [sameS_iff.2 e.symm] at h
  cases h
/-- the map's datum behind k instructions -/
structure LabD (xs : List Ins) (k : Nat) (D : DataW Unit) : Prop where
  has : ∀ s, noS s = false → Maps.has D (strK s) = decide (0 ≤ lAt (xs.take k) s)
  val : ∀ s, noS s = false → 0 ≤ lAt (xs.take k) s → ∀ z, D.atKey (strK s) z = .lit (.int .u64 (sumRaw (xs.take (lAt (xs.take k) s).toNat)))
theorem LabD.start (xs : List Ins) : LabD xs 0 (.map []) := ⟨fun s _ => rfl, fun s _ h => by simp [lAt, lAtF] at h⟩
theorem LabD.skip {xs : List Ins} {k : Nat} {D : DataW Unit} (h : LabD xs k D) (hk : k < xs.length) (he : noS xs[k].sym = true) : LabD xs (k + 1) D := by
  have e : ∀ s, noS s = false → lAt (xs.take (k + 1)) s = lAt (xs.take k) s := fun s hs => by
    rw [List.take_succ_eq_append_getElem hk, lAt_snoc, noS_ne he hs]
    cases hd : decide (0 ≤ lAt (xs.take k) s)
    · simp only [cond_false]
      have h1 : lAt (xs.take k) s = -1 ∨ 0 ≤ lAt (xs.take k) s := by
        have key : ∀ (l : List Ins) (j : Nat), lAtF s j l = -1 ∨ 0 ≤ lAtF s j l := by
          intro l
          induction l with
          | nil => intro j; exact .inl rfl
          | cons a l ih =>
            intro j
            unfold lAtF
            cases sameS a.sym s
            · exact ih (j + 1)
            · exact .inr (by simp only [cond_true]; omega)
        exact key _ _
      rcases h1 with h1 | h1
      · exact h1.symm
      · simp [h1] at hd
    · simp only [cond_true]
  exact ⟨fun s hs => by rw [h.has s hs, e s hs], fun s hs hl z => by rw [e s hs] at hl ⊢; exact h.val s hs hl z⟩
theorem LabD.put {xs : List Ins} {k : Nat} {D : DataW Unit} (h : LabD xs k D) (hm : IsMap D) (hk : k < xs.length) (hn : noS xs[k].sym = false) (hd : lAt (xs.take k) xs[k].sym = -1) : LabD xs (k + 1) (D.put (strK xs[k].sym) (.lit (.int .u64 (sumRaw (xs.take k))))) := by
  have hkl : ((xs.take k).length : Int) = k := by rw [List.length_take]; omega
  have e0 : ∀ s, lAt (xs.take (k + 1)) s = bif decide (0 ≤ lAt (xs.take k) s) then lAt (xs.take k) s else bif sameS xs[k].sym s then (k : Int) else -1 := fun s => by
    rw [List.take_succ_eq_append_getElem hk, lAt_snoc, hkl]
  constructor
  · intro s hs
    cases hq : sameS xs[k].sym s
    · rw [Maps.has_put_other (strK_ne hq), h.has s hs, e0 s, hq]
      cases hx : decide (0 ≤ lAt (xs.take k) s) <;> simp [hx]
    · obtain rfl := sameS_eq hq
      rw [Maps.has_put_same hm (strK_key _), e0, hq, hd]
      simp
  · intro s hs hl z
    cases hq : sameS xs[k].sym s
    · rw [Maps.atKey_put_other (strK_ne hq)]
      have hx : lAt (xs.take (k + 1)) s = lAt (xs.take k) s := by
        rw [e0 s, hq] at hl ⊢
        cases hx : decide (0 ≤ lAt (xs.take k) s)
        · rw [hx] at hl; simp at hl
        · rfl
      rw [hx] at hl ⊢
      exact h.val s hs hl z
    · obtain rfl := sameS_eq hq
      rw [Maps.atKey_put_same hm (strK_key _)]
      have hx : lAt (xs.take (k + 1)) xs[k].sym = (k : Int) := by rw [e0, hq, hd]; simp
      rw [hx]
      simp
end Go.Proofs.Ytakigeichhngbaa
namespace Go.Proofs.Ytakigeichhngbaa
open Go.RowKit
set_option linter.unusedVariables false
set_option linter.unusedSimpArgs false
def pFunCall (op src : Int) : Bool := pJumpOp op == 128 && src == 1
def pFunLoad (op src : Int) : Bool := op == 24 && src == 4
def pFunRef (op src : Int) : Bool := pFunCall op src || pFunLoad op src
theorem Ja32_c (w : World) : Calls Try.prog 129 #[.int .u8 0, .int .u8 6, .int .u16 0] w fun e w' => e = .returned (.int .u32 6) ∧ w = w' := by
  have e1 : pSetJumpOp 6 0 = 6 := by decide +kernel
  have e2 : pSetSource 6 0 = 6 := by decide +kernel
  have J := SetJumpOp_c 6 0 w (by decide) (by decide)
  have S := SetSource_c 6 0 w (by decide) (by decide)
  rw [e1] at J
  rw [e2] at S
  go_enter Try.func129, Try.ntmps129
  go_wp2_with (first | (go_at_call 38; ((with_reducible refine (J).mono ?_); rintro e w' ⟨rfl, rfl⟩)) | (go_at_call 39; ((with_reducible refine (S).mono ?_); rintro e w' ⟨rfl, rfl⟩)))
  go_ret
  exact ⟨rfl, rfl⟩
/-- which of the codes of the document are references of which kind -/
def kindRow (op : Int) : Bool :=
  !(sIsJump op && decide (op < 256)) || ((pIsJump (pCls op)) && (!(!(bits .and .i64 op 240 == 128) && !(bits .and .i64 op 240 == 144)) || !(pJumpOp op == 128)) && !(op == 24))
theorem kind_all : ((List.range 256).all fun n => kindRow (n : Int)) = true := by decide +kernel
theorem kind_jump {op : Int} (o0 : 0 ≤ op) (o1 : op < 256) (h : sIsJump op = true) : pIsJump (pCls op) = true ∧ (bits .and .i64 op 240 ≠ 128 → bits .and .i64 op 240 ≠ 144 → (pJumpOp op == 128) = false) ∧ (op == 24) = false := by
  obtain ⟨n, rfl⟩ := Int.eq_ofNat_of_zero_le o0
  have hk := List.all_eq_true.1 kind_all n (List.mem_range.2 (by omega))
  simp only [kindRow, h, Bool.true_and, Bool.or_eq_true, Bool.and_eq_true, Bool.not_eq_true', decide_eq_false_iff_not] at hk
  rcases hk with hk | ⟨⟨k1, k2⟩, k3⟩
  · exact absurd (by omega) hk
  · refine ⟨k1, fun a b => ?_, k3⟩
    rcases k2 with k2 | k2
    · simp [a, b] at k2
    · exact k2
/-- a reference of the document: a call (its constant), the long jump (its constant), or another jump (its offset) -/
theorem ref_kinds {xs : List Ins} {i : Ins} (h : refOk xs i = true) (hr : noS i.ref = false) :
    (sFar i = true ∧ i.c = -1 ∧ (pFunRef i.op i.src = true ∨ (pFunRef i.op i.src = false ∧ i.op = 6))) ∨
    (sFar i = false ∧ i.off = -1 ∧ pFunRef i.op i.src = false ∧ i.op ≠ 6 ∧ pIsJump (pCls i.op) = true) := by
  obtain ⟨hj, hl, h1, h2, h3⟩ := ref_jump h hr
  have hb := bare_okN (refOk_bare h)
  have ho : i.op < 256 := by
    have hk := hb.code
    have ha : sIsALU i.op = false := by
      have hj' := hj
      simp only [sIsJump, Bool.or_eq_true, beq_iff_eq] at hj'
      simp only [sIsALU, Bool.or_eq_false_iff, beq_eq_false_iff_ne]
      rcases hj' with hj' | hj' <;> rw [hj'] <;> decide
    simp only [sOpOk, ha, hj, cond_true, cond_false, Bool.and_eq_true, decide_eq_true_eq] at hk
    exact hk.1
  obtain ⟨k1, k2, k3⟩ := kind_jump hb.op.1 ho hj
  have hld : pFunLoad i.op i.src = false := by simp [pFunLoad, k3]
  cases hf : sFar i
  · right
    obtain ⟨f1, f2⟩ := h2 hf
    simp only [sJumps, Bool.and_eq_true, Bool.not_eq_true', beq_eq_false_iff_ne] at f2
    have hp := k2 f2.1.2 f2.2
    simp only [sFar, Bool.or_eq_false_iff, beq_eq_false_iff_ne] at hf
    exact ⟨rfl, f1, by simp [pFunRef, pFunCall, hp, hld], hf.2, k1⟩
  · left
    obtain ⟨f1, f2⟩ := h1 hf
    refine ⟨rfl, f1, ?_⟩
    simp only [sFar, Bool.or_eq_true, beq_iff_eq] at hf
    rcases hf with hf | hf
    · left
      simp only [sCalls, Bool.and_eq_true, beq_iff_eq] at hf
      rw [hf.1, hf.2]
      decide +kernel
    · cases hp : pFunRef i.op i.src
      · exact .inr ⟨rfl, hf⟩
      · exact .inl rfl
end Go.Proofs.Ytakigeichhngbaa
