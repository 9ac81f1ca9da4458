import Derived.Test.YtakigeichhngbaaSymI
import Derived.Test.YtakigeichhngbaaXw
namespace Go.Proofs.Ytakigeichhngbaa
open Go.RowKit
set_option linter.unusedVariables false
set_option linter.unusedSimpArgs false
theorem ins_info : (Try.prog.info? 23).map (fun i => (i.zero, i.size, i.bytes)) = some (some (.agg #[.int .i64 0, .int .i64 0, .int .i64 0, .int .i64 0, .int .i64 0, .string ⟨#[]⟩, .string ⟨#[]⟩]), 7, 72) := by kernel_rfl
def TCells (i : Ins) : List Value := [.int .i64 i.op, .int .i64 i.dst, .int .i64 i.src, .int .i64 i.off, .int .i64 i.c, .string i.sym, .string i.ref]
def tcells (l : List Ins) : List Value := l.flatMap TCells
theorem tcells_snoc (l : List Ins) (i : Ins) : tcells (l ++ [i]) = tcells l ++ TCells i := by simp [tcells]
theorem tcells_one (i : Ins) : ∀ u ∈ TCells i, u.oneCell' = true := by
  intro u hu
  simp only [TCells, List.mem_cons, List.not_mem_nil, or_false] at hu
  rcases hu with rfl | rfl | rfl | rfl | rfl | rfl | rfl <;> rfl
def OwnI (w : World) (B : Nat) (v : Value) (l : List Ins) : Prop := w.ownsRow B 23 7 v l.length (tcells l)
theorem add_off (b o j : Nat) : (⟨b, o, none⟩ : Addr).add j = ⟨b, o + j, none⟩ := by unfold Addr.add; split <;> simp_all
theorem own_slice {w : World} {base : Nat} {e : TypeId} {size n : Nat} {v : Value} {xs : List Value} (h : w.ownsRow base e size v n xs) : ∃ A c, v = .slice A n c := by
  rcases h.2 with ⟨rfl, rfl⟩ | ⟨g, cap, cur, rfl, _⟩
  · exact ⟨_, _, rfl⟩
  · exact ⟨_, _, rfl⟩
theorem tcells_len (l : List Ins) : (tcells l).length = l.length * 7 := by
  induction l with
  | nil => rfl
  | cons i l ih =>
    have e : tcells (i :: l) = TCells i ++ tcells l := by simp [tcells]
    rw [e, List.length_append, ih, List.length_cons]
    simp [TCells]
    omega
theorem tcells_at : ∀ (l : List Ins) (k : Nat) (h : k < l.length) (j : Nat), j < 7 → (tcells l)[k * 7 + j]? = (TCells l[k])[j]?
  | [], k, h, _, _ => absurd h (by simp)
  | i :: l, 0, h, j, hj => by
    have e : tcells (i :: l) = TCells i ++ tcells l := by simp [tcells]
    rw [e, Nat.zero_mul, Nat.zero_add, List.getElem?_append_left (by simp [TCells]; omega)]
    rfl
  | i :: l, k + 1, h, j, hj => by
    have e : tcells (i :: l) = TCells i ++ tcells l := by simp [tcells]
    have h' : k < l.length := by simpa using h
    have ht : (TCells i).length = 7 := rfl
    rw [e, List.getElem?_append_right (by rw [ht]; omega), ht]
    have e2 : (k + 1) * 7 + j - 7 = k * 7 + j := by omega
    rw [e2, tcells_at l k h' j hj]
    rfl
theorem OwnI.ins {w : World} {B n : Nat} {v : Value} {l : List Ins} (h : OwnI w B v l) (hn : l.length = n) : ∃ A c, v = .slice A n c ∧ InsAt w A n l := by
  unfold OwnI at h
  rw [hn] at h
  rcases h.2 with ⟨rfl, rfl⟩ | ⟨g, cap, cur, rfl, hB, hh, hc⟩
  · exact ⟨_, _, rfl, hn, .inl rfl⟩
  · refine ⟨_, _, rfl, hn, .inr ⟨g, 0, rfl, lt_of_blkS hh, fun k hk => ?_⟩⟩
    have key : ∀ j, j < 7 → w.cell? ⟨g, 0 + k * 7 + j, none⟩ = (TCells l[k])[j]? := fun j hj => by
      rw [Nat.zero_add, h.cellAt (k * 7 + j) (by omega), tcells_at l k hk j hj]
    exact ⟨key 0 (by omega), key 1 (by omega), key 2 (by omega), key 3 (by omega), key 4 (by omega), key 5 (by omega), key 6 (by omega)⟩
theorem own_litI (w : World) : OwnI (w.alloc (.cells #[] 23)) w.heap.size (.slice (some ⟨w.heap.size, 0, none⟩) 0 0) [] :=
  ⟨by simp [tcells], .inr ⟨w.heap.size, 0, #[], rfl, Nat.le_refl _, heap_alloc_new w _, Nat.le_refl _, Nat.zero_le _, rfl, by simp [tcells]⟩⟩
theorem own_snocI {w : World} {B : Nat} {v : Value} {l : List Ins} {i : Ins} {k : Nat} (hk : l.length = k) (h : w.ownsRow B 23 7 v (k + 1) (tcells l ++ TCells i)) : OwnI w B v (l ++ [i]) := by
  unfold OwnI
  rw [List.length_append, List.length_singleton, tcells_snoc, hk]
  exact h
theorem Reads.insAt {w : World} {A : Option Addr} {n : Nat} {xs : List Ins} (h : InsAt w A n xs) : Reads w w.heap.size 7 A n (tcells xs) := by
  refine ⟨by rw [tcells_len, h.1], fun hp => ?_⟩
  obtain ⟨b, o, rfl, hlt, hc⟩ := h.2.resolve_left (by omega)
  refine ⟨_, rfl, hlt, fun j u hu => ?_⟩
  rw [add_off]
  have hj : j < xs.length * 7 := by
    have := (List.getElem?_eq_some_iff.1 hu).1
    rwa [tcells_len] at this
  have hk : j / 7 < xs.length := by omega
  have hr : j % 7 < 7 := Nat.mod_lt _ (by omega)
  have hjj : j = j / 7 * 7 + j % 7 := by omega
  obtain ⟨k, hkd⟩ : ∃ k, k = j / 7 := ⟨_, rfl⟩
  obtain ⟨r, hrd⟩ : ∃ r, r = j % 7 := ⟨_, rfl⟩
  rw [← hkd] at hk hjj
  rw [← hrd] at hr hjj
  clear hkd hrd
  subst hjj
  have hu2 := hu
  rw [tcells_at xs k hk r hr] at hu2
  obtain ⟨c0, c1, c2, c3, c4, c5, c6⟩ := hc k hk
  match r, hr, hu2 with
  | 0, _, hu2 => simp [TCells] at hu2; subst hu2; exact c0
  | 1, _, hu2 => simp [TCells] at hu2; subst hu2; rw [← Nat.add_assoc]; exact c1
  | 2, _, hu2 => simp [TCells] at hu2; subst hu2; rw [← Nat.add_assoc]; exact c2
  | 3, _, hu2 => simp [TCells] at hu2; subst hu2; rw [← Nat.add_assoc]; exact c3
  | 4, _, hu2 => simp [TCells] at hu2; subst hu2; rw [← Nat.add_assoc]; exact c4
  | 5, _, hu2 => simp [TCells] at hu2; subst hu2; rw [← Nat.add_assoc]; exact c5
  | 6, _, hu2 => simp [TCells] at hu2; subst hu2; rw [← Nat.add_assoc]; exact c6
theorem tcells_all (l : List Ins) : ∀ u ∈ tcells l, u.oneCell' = true := by
  intro u hu
  obtain ⟨i, hi, hu⟩ := List.mem_flatMap.1 hu
  exact tcells_one i u hu
set_option maxRecDepth 100000 in
set_option maxHeartbeats 2000000 in
theorem Clone_c (A : Option Addr) (n cap : Nat) (xs : List Ins) (w : World) (h : InsAt w A n xs) (h0 : 0 < n) (hn : n ≤ 1000) :
    Calls Try.prog 29 #[.slice A n cap] w fun e w' => ∃ v, e = .returned v ∧ OwnI w' w.heap.size v xs ∧ Below w.heap.size w w' := by
  obtain ⟨i0, hi0, hz0, hz1, hz2⟩ := info_parts ins_info
  have hr := Reads.insAt h
  obtain ⟨b, o, rfl, hlt, -⟩ := h.2.resolve_left (by omega)
  have HR := Lib.hid hr
  have L := Lib.hid h.1
  have O0 := Lib.hid (own_litI w)
  clear h hr
  have heq : ∀ W : World, (binOp .eql 34 (.slice (some ⟨b, o, none⟩) n cap) (.slice none 0 0)).run Try.prog W = .ok (.bool false) W := fun W => by kernel_rfl
  go_enter Try.func29, Try.ntmps29
  go_wp2_with (first
    | (at_builtin
       go_loud (refine wpList_append_any _ rfl (.tmp 5) (.tmp 6) _ rfl w.heap.size 23 i0 _ 7 72 Try.underlying34 hi0 hz0 hz1 hz2 rfl (by omega) (.slice (some ⟨w.heap.size, 0, none⟩) 0 0) 0 [] rfl O0.out w.heap.size (some ⟨b, o, none⟩) n cap (tcells xs) rfl (HR.out.below ((Below.refl _ _).alloc (Nat.le_refl _) _)) (tcells_all xs) (by simp only [maxLen]; omega) (by omega) (by simp) ?_)
       intro v1 w1 hown1 hg1 _
       rw [Nat.zero_add, List.nil_append] at hown1
       obtain ⟨A1, k1, rfl⟩ := own_slice hown1
       have hb1 : Below w.heap.size w w1 := ((Below.refl _ _).alloc (Nat.le_refl _) _).grown hg1 (by simp) (fun j hj => by simp [Value.ownBlock] at hj; omega)
       have HO := Lib.hid hown1
       have HB1 := Lib.hid hb1
       clear hown1 hg1 hb1))
  go_ret
  exact ⟨_, rfl, by unfold OwnI; rw [L.out]; exact HO.out, HB1.out⟩
end Go.Proofs.Ytakigeichhngbaa
