import Derived.Test.YtakigeichhngbaaRefI
namespace Go.Proofs.Ytakigeichhngbaa
open Go.RowKit Go.Sort Go.Maps
set_option linter.unusedVariables false
set_option linter.unusedSimpArgs false
/-- how many instructions refer to a name -/
def cntR (l : List Ins) : Nat := (l.filter fun i => !noS i.ref).length
theorem cntR_snoc (l : List Ins) (i : Ins) : cntR (l ++ [i]) = cntR l + bif noS i.ref then 0 else 1 := by
  unfold cntR
  rw [List.filter_append, List.length_append]
  cases h : noS i.ref <;> simp [h]
theorem cntR_len (l : List Ins) : cntR l ≤ l.length := List.length_filter_le _ _
theorem rAtF_ne (s : ByteArray) : ∀ (k : Nat) (l : List Ins) (i : Ins), i ∈ l → sameS i.ref s = true → rAtF s k l ≠ []
  | k, [], i, h, _ => absurd h (by simp)
  | k, a :: l, i, h, hs => by
    unfold rAtF
    cases ha : sameS a.ref s
    · rcases List.mem_cons.1 h with h | h
      · subst h; rw [hs] at ha; cases ha
      · exact rAtF_ne s (k + 1) l i h hs
    · simp
theorem sum_add {α : Type} (f g : α → Nat) : ∀ ts : List α, (ts.map fun x => f x + g x).sum = (ts.map f).sum + (ts.map g).sum
  | [] => rfl
  | x :: ts => by
    have ih := sum_add f g ts
    simp only [List.map_cons, List.sum_cons, ih]
    omega
theorem sum_zero {α : Type} {f : α → Nat} : ∀ {ts : List α}, (∀ x ∈ ts, f x = 0) → (ts.map f).sum = 0
  | [], _ => rfl
  | x :: ts, h => by
    simp only [List.map_cons, List.sum_cons]
    rw [h x (by simp), sum_zero fun y hy => h y (by simp [hy])]
theorem sum_once {α : Type} {f : α → Nat} {a : α} (hf : f a = 1) (hz : ∀ x, x ≠ a → f x = 0) : ∀ {ts : List α}, ts.Nodup → a ∈ ts → (ts.map f).sum = 1
  | [], _, h => absurd h (by simp)
  | x :: ts, hn, h => by
    obtain ⟨h1, h2⟩ := List.nodup_cons.1 hn
    simp only [List.map_cons, List.sum_cons]
    rcases List.mem_cons.1 h with h | h
    · subst h
      rw [hf, sum_zero fun y hy => hz y fun e => h1 (e ▸ hy)]
    · rw [hz x fun e => h1 (e ▸ h), sum_once hf hz h2 h]
theorem refs_sum {ts : List (List UInt8)} (hn : ts.Nodup) (h2 : ∀ x ∈ ts, noS (bOf x) = false) : ∀ (l : List Ins) (k : Nat), (∀ i ∈ l, noS i.ref = false → i.ref.data.toList ∈ ts) → (ts.map fun x => (rAtF (bOf x) k l).length).sum = cntR l
  | [], k, _ => sum_zero (f := fun x => (rAtF (bOf x) k []).length) fun x _ => rfl
  | i :: l, k, h1 => by
    have ih := refs_sum hn h2 l (k + 1) fun j hj => h1 j (by simp [hj])
    have e : ∀ x, (rAtF (bOf x) k (i :: l)).length = (bif sameS i.ref (bOf x) then 1 else 0) + (rAtF (bOf x) (k + 1) l).length := fun x => by
      have e0 : rAtF (bOf x) k (i :: l) = bif sameS i.ref (bOf x) then (k : Int) :: rAtF (bOf x) (k + 1) l else rAtF (bOf x) (k + 1) l := rfl
      rw [e0]
      cases sameS i.ref (bOf x)
      · simp
      · simp only [cond_true, List.length_cons]; omega
    simp only [e]
    rw [sum_add, ih]
    have hc : cntR (i :: l) = (bif noS i.ref then 0 else 1) + cntR l := by
      unfold cntR
      cases h : noS i.ref
      · simp [List.filter_cons, h]; omega
      · simp [List.filter_cons, h]
    rw [hc]
    congr 1
    cases h : noS i.ref
    · refine sum_once (a := i.ref.data.toList) ?_ (fun x hx => ?_) hn (h1 i (by simp) h)
      · rw [bOf_data, sameS_refl]; rfl
      · cases hs : sameS i.ref (bOf x)
        · rfl
        · exact absurd (by have := sameS_iff.1 hs; simpa [bOf] using this.symm) hx
    · refine sum_zero fun x hx => ?_
      rw [noS_ne h (h2 x hx)]
      rfl
theorem RefSaid.sum {xs : List Ins} {ts : List (List UInt8)} (h : RefSaid xs ts) : (ts.map fun x => (rAt xs (bOf x)).length).sum = cntR xs :=
  refs_sum h.nodup (fun x hx => ((h.mem x).1 hx).1) xs 0 fun i hi hn => (h.mem _).2 ⟨by rw [bOf_data]; exact hn, by rw [bOf_data]; exact rAtF_ne _ 0 xs i hi (sameS_refl _)⟩
theorem sum_ge {α : Type} {f : α → Nat} : ∀ {ts : List α}, (∀ x ∈ ts, 0 < f x) → ts.length ≤ (ts.map f).sum
  | [], _ => Nat.le_refl _
  | x :: ts, h => by
    have h1 := h x (by simp)
    have h2 : ts.length ≤ (ts.map f).sum := sum_ge fun y hy => h y (List.mem_cons_of_mem _ hy)
    simp only [List.map_cons, List.sum_cons, List.length_cons]
    omega
theorem RefSaid.len {xs : List Ins} {ts : List (List UInt8)} (h : RefSaid xs ts) : ts.length ≤ cntR xs := by
  rw [← h.sum]
  exact sum_ge fun x hx => List.length_pos_iff.2 ((h.mem x).1 hx).2
theorem sum_take {α : Type} (f : α → Nat) : ∀ (ts : List α) (k : Nat), ((ts.take k).map f).sum ≤ (ts.map f).sum
  | ts, 0 => by simp
  | [], k => by simp
  | x :: ts, k + 1 => by
    have := sum_take f ts k
    simp only [List.take_succ_cons, List.map_cons, List.sum_cons]
    omega
/-- the counts behind q names -/
def sumQ (xs : List Ins) (ts : List (List UInt8)) (q : Nat) : Nat := ((ts.take q).map fun x => (rAt xs (bOf x)).length).sum
theorem sumQ_succ {xs : List Ins} {ts : List (List UInt8)} {q : Nat} (h : q < ts.length) : sumQ xs ts (q + 1) = sumQ xs ts q + (rAt xs (bOf ts[q])).length := by
  unfold sumQ
  rw [List.take_succ_eq_append_getElem h, List.map_append, List.sum_append]
  simp
theorem sumQ_le {xs : List Ins} {ts : List (List UInt8)} (h : RefSaid xs ts) (q : Nat) : sumQ xs ts q ≤ cntR xs := by
  rw [← h.sum]
  exact sum_take _ _ _
theorem sumQ_all {xs : List Ins} {ts : List (List UInt8)} (h : RefSaid xs ts) : sumQ xs ts ts.length = cntR xs := by
  unfold sumQ
  rw [List.take_length, h.sum]
theorem OwnZ.rowAt {w : World} {B : Nat} {A : Option Addr} {n c : Nat} {zs : List Int} (h : OwnZ w B (.slice A n c) zs) (hn : zs.length = n) : RowAt w A n 1 (fun j => .int .i64 (zs.getD j 0)) := by
  subst hn
  rcases h.2 with ⟨e, h0⟩ | ⟨g, cap, cur, e, -, hh, -⟩
  · exact .inl (by omega)
  · injection e with e1 e2 e3
    subst e1
    refine .inr ⟨g, 0, rfl, lt_of_blkS hh, fun j hj => ?_⟩
    have hjl : j < zs.length := by omega
    rw [Nat.zero_add, World.ownsRow.cellAt h j (by omega)]
    simp [hjl]
end Go.Proofs.Ytakigeichhngbaa
