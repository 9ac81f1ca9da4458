import Derived.Test.YtakigeichhngbaaSymX
namespace Go.Proofs.Ytakigeichhngbaa
open Go.RowKit Go.Sort Go.Maps
set_option linter.unusedVariables false
set_option linter.unusedSimpArgs false
def CBd (i : Ins) : Prop := -9223372036854775808 ≤ i.c ∧ i.c ≤ 9223372036854775807
/-- the labels of instructions, in their order -/
def labs (l : List Ins) : List (List UInt8) := (l.filter fun i => !noS i.sym).map fun i => i.sym.data.toList
theorem labs_no {l : List Ins} {i : Ins} (h : noS i.sym = true) : labs (l ++ [i]) = labs l := by simp [labs, List.filter_append, h]
theorem labs_yes {l : List Ins} {i : Ins} (h : noS i.sym = false) : labs (l ++ [i]) = labs l ++ [i.sym.data.toList] := by simp [labs, List.filter_append, h]
theorem lAtF_app (s : ByteArray) : ∀ (k : Nat) (a b : List Ins), lAtF s k (a ++ b) = bif decide (0 ≤ lAtF s k a) then lAtF s k a else lAtF s (k + a.length) b
  | k, [], b => by simp [lAtF]
  | k, x :: a, b => by
    have ih := lAtF_app s (k + 1) a b
    have e : k + 1 + a.length = k + (a.length + 1) := by omega
    cases hs : sameS x.sym s
    · simp only [List.cons_append, lAtF, hs, cond_false, ih, List.length_cons, e]
    · simp only [List.cons_append, lAtF, hs, cond_true]
      simp
theorem lAt_at {xs : List Ins} {k : Nat} (hk : k < xs.length) (h : lAt (xs.take k) xs[k].sym = -1) : lAt xs xs[k].sym = k := by
  have hkl : ((xs.take k).length : Int) = k := by rw [List.length_take]; omega
  have e1 : lAt (xs.take (k + 1)) xs[k].sym = k := by
    rw [List.take_succ_eq_append_getElem hk, lAt_snoc, h, sameS_refl, hkl]
    simp
  have e2 := lAtF_app xs[k].sym 0 (xs.take (k + 1)) (xs.drop (k + 1))
  rw [List.take_append_drop] at e2
  unfold lAt at e1 ⊢
  rw [e2, e1]
  simp
theorem lAtF_pos (s : ByteArray) : ∀ (k : Nat) (l : List Ins) (i : Ins), i ∈ l → sameS i.sym s = true → 0 ≤ lAtF s k l
  | k, [], i, h, _ => absurd h (by simp)
  | k, a :: l, i, h, hs => by
    unfold lAtF
    cases ha : sameS a.sym s
    · rcases List.mem_cons.1 h with h | h
      · subst h; rw [hs] at ha; cases ha
      · exact lAtF_pos s (k + 1) l i h hs
    · simp only [cond_true]; omega
theorem labs_mem (l : List Ins) (x : List UInt8) : x ∈ labs l ↔ (noS (bOf x) = false ∧ 0 ≤ lAt l (bOf x)) := by
  unfold labs
  rw [List.mem_map]
  constructor
  · rintro ⟨i, hi, rfl⟩
    rw [List.mem_filter] at hi
    rw [bOf_data]
    exact ⟨by simpa using hi.2, lAtF_pos _ 0 l i hi.1 (sameS_refl _)⟩
  · rintro ⟨h1, h2⟩
    obtain ⟨i, hi, hs⟩ := lAt_mem h2
    refine ⟨i, List.mem_filter.2 ⟨hi, ?_⟩, ?_⟩
    · rw [noS_same hs, h1]; rfl
    · have := sameS_iff.1 hs
      simpa [bOf] using this
theorem labs_nodup {xs : List Ins} (h : ∀ k (hk : k < xs.length), noS xs[k].sym = false → lAt (xs.take k) xs[k].sym = -1) : ∀ k, k ≤ xs.length → (labs (xs.take k)).Nodup
  | 0, _ => by simp [labs]
  | k + 1, hk => by
    have ih := labs_nodup h k (by omega)
    rw [List.take_succ_eq_append_getElem (by omega)]
    cases hn : noS xs[k].sym
    · rw [labs_yes hn]
      refine List.nodup_append.2 ⟨ih, by simp, fun a ha b hb => ?_⟩
      simp at hb
      subst hb
      rintro rfl
      have := ((labs_mem _ _).1 ha).2
      rw [bOf_data, h k (by omega) hn] at this
      omega
    · rw [labs_no hn]; exact ih
theorem said_len {xs : List Ins} {ts : List (List UInt8)} (h : ∀ k (hk : k < xs.length), noS xs[k].sym = false → lAt (xs.take k) xs[k].sym = -1) (hs : SymSaid xs ts) : ts.length = (labs xs).length := by
  have hnd := labs_nodup h xs.length (Nat.le_refl _)
  rw [List.take_length] at hnd
  exact ((List.perm_ext_iff_of_nodup hs.nodup hnd).2 fun x => by rw [hs.mem x, labs_mem]).length_eq
theorem labs_len (l : List Ins) : (labs l).length ≤ l.length := by
  unfold labs
  rw [List.length_map]
  exact List.length_filter_le _ _
theorem rows_apart {w : World} {B B' : Nat} {e e' : TypeId} {v v' : Value} {n n' : Nat} {xs xs' : List Value} (h : w.ownsRow B e 1 v n xs) (h' : w.ownsRow B' e' 1 v' n' xs') (hne : e ≠ e') : v'.ownBlock = none ∨ v'.ownBlock ≠ v.ownBlock := by
  rcases h'.2 with ⟨rfl, _⟩ | ⟨g', cap', cur', rfl, _, hb', _⟩
  · exact .inl rfl
  · right
    rcases h.2 with ⟨rfl, _⟩ | ⟨g, cap, cur, rfl, _, hb, _⟩
    · simp [Value.ownBlock]
    · intro e1
      have : g' = g := by simpa [Value.ownBlock] using e1
      subst this
      rw [hb] at hb'
      injection hb' with hb'
      injection hb' with _ hb'
      exact hne hb'
end Go.Proofs.Ytakigeichhngbaa
