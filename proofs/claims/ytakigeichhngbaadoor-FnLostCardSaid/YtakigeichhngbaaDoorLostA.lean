import Derived.Test.YtakigeichhngbaaDoorFixW
namespace Go.Proofs.YtakigeichhngbaaDoor
open Go.RowKit
set_option linter.unusedVariables false
set_option linter.unusedSimpArgs false
def nowhereB : ByteArray := ⟨#[110, 111, 119, 104, 101, 114, 101]⟩
theorem nowhere_list : nowhereB.toList = [110, 111, 119, 104, 101, 114, 101] := by rw [ByteArray.toList_eq]; rfl
theorem lost1_c (i : Ins) (w : World) : Calls Tryd.prog 23 #[.agg #[.int .i64 i.op, .int .i64 i.dst, .int .i64 i.src, .int .i64 i.off, .int .i64 i.c, .string i.sym, .string i.ref]] w
    fun e w' => e = .returned (.bool (sameS i.sym nowhereB)) ∧ Below w.heap.size w w' := by
  have e1 : sameS i.sym nowhereB = (i.sym.toList == [110, 111, 119, 104, 101, 114, 101]) := by unfold sameS; rw [nowhere_list]
  rw [e1]
  go_enter Tryd.func23, Tryd.ntmps23
  go_wp2
  go_ret
  exact ⟨rfl, (Below.refl _ _).alloc (Nat.le_refl _) _⟩
def IdxLost (xs : List Ins) (e : Ending) : Prop := ∃ r : Int, e = .returned (.int .i64 r) ∧ decide (0 ≤ r) = xs.any (fun i => sameS i.sym nowhereB)
theorem indexLost_c (A : Option Addr) (n cap : Nat) (xs : List Ins) (w : World) (h : InsAt w A n xs) (hn : n ≤ 2147483647) :
    Calls Tryd.prog 53 #[.slice A n cap, .func (.func 23) #[] #[]] w fun e w' => IdxLost xs e ∧ Below w.heap.size w w' := by
  obtain ⟨hl, h⟩ := h
  rcases h with h0 | ⟨b, o, rfl, hlt, hc⟩
  · subst h0
    have : xs = [] := List.eq_nil_of_length_eq_zero hl
    subst this
    go_enter Tryd.func53, Tryd.ntmps53
    go_wp2
    go_rounds 1
    go_ret
    exact ⟨⟨-1, rfl, rfl⟩, Below.refl _ _⟩
  · have C := Lib.hid hc
    have L := Lib.hid hl
    clear hc hl
    go_enter Tryd.func53, Tryd.ntmps53
    go_wp2
    go_loopw [8] (fun i wr => ∃ k : Nat, k ≤ n ∧ i = .int .i64 k ∧ Below w.heap.size w wr ∧ Hid ((xs.take k).any (fun i => sameS i.sym nowhereB) = false)) (fun i _ => n - (intOf i).toNat)
    case atStart => exact ⟨0, Nat.zero_le _, rfl, Below.refl _ _, by simp [Hid]⟩
    case round =>
      obtain ⟨k, hk, rfl, hb, hall⟩ := hrel
      by_cases hk' : k < n
      · have hkl : k < xs.length := by rw [L.out]; exact hk'
        obtain ⟨i, hi⟩ : ∃ i, i = xs[k] := ⟨_, rfl⟩
        obtain ⟨c0, c1, c2, c3, c4, c5, c6⟩ := (show InsCells w b (o + k * 7) i from by rw [hi]; exact C.out k _).keep hb hlt
        have HI := Lib.hid hi
        clear hi
        have hlt2 : b < wr.heap.size := Nat.lt_of_lt_of_le hlt hb.size
        have hz0 := hb.size
        cases hz : sameS i.sym nowhereB
        rotate_left
        · go_wp2_with (first | (go_at_call 23; ((with_reducible refine (lost1_c i _).mono ?_); rintro e w1 ⟨rfl, hb1⟩)))
          go_ret
          have hf : xs.any (fun i => sameS i.sym nowhereB) = true := by
            rw [List.any_eq_true]
            exact ⟨i, by rw [HI.out]; exact List.getElem_mem _, hz⟩
          exact ⟨⟨k, rfl, by rw [hf]; simp⟩, hb.trans (hb1.mono hz0)⟩
        · go_wp2_with (first | (go_at_call 23; ((with_reducible refine (lost1_c i _).mono ?_); rintro e w1 ⟨rfl, hb1⟩)))
          go_roundw
          case rel =>
            refine ⟨k + 1, by omega, by go_num, hb.trans (hb1.mono hz0), ?_⟩
            rw [Hid, List.take_succ_eq_append_getElem hkl, List.any_append, hall.out]
            simp [← HI.out, hz]
          case measure => simp [intOf]; omega
      · go_wp2
        go_ret
        have hf : xs.any (fun i => sameS i.sym nowhereB) = false := by
          have := hall.out
          rwa [List.take_of_length_le (by rw [L.out]; omega)] at this
        exact ⟨⟨-1, rfl, by rw [hf]; rfl⟩, hb⟩
theorem containsLost_c (A : Option Addr) (n cap : Nat) (xs : List Ins) (w : World) (h : InsAt w A n xs) (hn : n ≤ 2147483647) :
    Calls Tryd.prog 22 #[.slice A n cap, .func (.func 23) #[] #[]] w fun e w' => e = .returned (.bool (xs.any fun i => sameS i.sym nowhereB)) ∧ Below w.heap.size w w' := by
  go_enter Tryd.func22, Tryd.ntmps22
  go_wp2_with (first | (go_at_call 53; ((with_reducible refine (indexLost_c _ _ _ _ _ h hn).mono ?_); rintro e w1 ⟨⟨r, rfl, hr⟩, hb1⟩)))
  go_ret
  exact ⟨by rw [← hr]; rfl, hb1⟩

theorem Reads.insAt {w : World} {A : Option Addr} {n : Nat} {xs : List Ins} (h : InsAt w A n xs) : Reads w w.heap.size 7 A n (tcells xs) := by
  refine ⟨by rw [tcells_len, h.1], fun hp => ?_⟩
  obtain ⟨b, o, rfl, hlt, hc⟩ := h.2.resolve_left (by omega)
  refine ⟨_, rfl, hlt, fun j u hu => ?_⟩
  rw [add_off]
  have hj : j < xs.length * 7 := by
    have := (List.getElem?_eq_some_iff.1 hu).1
    rwa [tcells_len] at this
  have hk : j / 7 < xs.length := by omega
  have hr : j % 7 < 7 := Nat.mod_lt _ (by omega)
  have hjj : j = j / 7 * 7 + j % 7 := by omega
  obtain ⟨k, hkd⟩ : ∃ k, k = j / 7 := ⟨_, rfl⟩
  obtain ⟨r, hrd⟩ : ∃ r, r = j % 7 := ⟨_, rfl⟩
  rw [← hkd] at hk hjj
  rw [← hrd] at hr hjj
  clear hkd hrd
  subst hjj
  have hu2 := hu
  rw [tcells_at xs k hk r hr] at hu2
  obtain ⟨c0, c1, c2, c3, c4, c5, c6⟩ := hc k hk
  match r, hr, hu2 with
  | 0, _, hu2 => simp [TCells] at hu2; subst hu2; exact c0
  | 1, _, hu2 => simp [TCells] at hu2; subst hu2; rw [← Nat.add_assoc]; exact c1
  | 2, _, hu2 => simp [TCells] at hu2; subst hu2; rw [← Nat.add_assoc]; exact c2
  | 3, _, hu2 => simp [TCells] at hu2; subst hu2; rw [← Nat.add_assoc]; exact c3
  | 4, _, hu2 => simp [TCells] at hu2; subst hu2; rw [← Nat.add_assoc]; exact c4
  | 5, _, hu2 => simp [TCells] at hu2; subst hu2; rw [← Nat.add_assoc]; exact c5
  | 6, _, hu2 => simp [TCells] at hu2; subst hu2; rw [← Nat.add_assoc]; exact c6
theorem tcells_all (l : List Ins) : ∀ u ∈ tcells l, u.oneCell' = true := by
  intro u hu
  obtain ⟨i, hi, hu⟩ := List.mem_flatMap.1 hu
  exact tcells_one i u hu
set_option maxRecDepth 100000 in
set_option maxHeartbeats 2000000 in
theorem Clone_c (A : Option Addr) (n cap : Nat) (xs : List Ins) (w : World) (h : InsAt w A n xs) (h0 : 0 < n) (hn : n ≤ 1000) :
    Calls Tryd.prog 24 #[.slice A n cap] w fun e w' => ∃ v, e = .returned v ∧ OwnI w' w.heap.size v xs ∧ Below w.heap.size w w' := by
  obtain ⟨i0, hi0, hz0, hz1, hz2⟩ := info_parts ins_info
  have hr := Reads.insAt h
  obtain ⟨b, o, rfl, hlt, -⟩ := h.2.resolve_left (by omega)
  have HR := Lib.hid hr
  have L := Lib.hid h.1
  have O0 := Lib.hid (own_litI w)
  clear h hr
  have heq : ∀ W : World, (binOp .eql 31 (.slice (some ⟨b, o, none⟩) n cap) (.slice none 0 0)).run Tryd.prog W = .ok (.bool false) W := fun W => by kernel_rfl
  go_enter Tryd.func24, Tryd.ntmps24
  go_wp2_with (first
    | (at_builtin
       go_loud (refine wpList_append_any _ rfl (.tmp 5) (.tmp 6) _ rfl w.heap.size 24 i0 _ 7 72 Tryd.underlying31 hi0 hz0 hz1 hz2 rfl (by omega) (.slice (some ⟨w.heap.size, 0, none⟩) 0 0) 0 [] rfl O0.out w.heap.size (some ⟨b, o, none⟩) n cap (tcells xs) rfl (HR.out.below ((Below.refl _ _).alloc (Nat.le_refl _) _)) (tcells_all xs) (by simp only [maxLen]; omega) (by omega) (by simp) ?_)
       intro v1 w1 hown1 hg1 _
       rw [Nat.zero_add, List.nil_append] at hown1
       obtain ⟨A1, k1, rfl⟩ := own_slice hown1
       have hb1 : Below w.heap.size w w1 := ((Below.refl _ _).alloc (Nat.le_refl _) _).grown hg1 (by simp) (fun j hj => by simp [Value.ownBlock] at hj; omega)
       have HO := Lib.hid hown1
       have HB1 := Lib.hid hb1
       clear hown1 hg1 hb1))
  go_ret
  exact ⟨_, rfl, by unfold OwnI; rw [L.out]; exact HO.out, HB1.out⟩
end Go.Proofs.YtakigeichhngbaaDoor
