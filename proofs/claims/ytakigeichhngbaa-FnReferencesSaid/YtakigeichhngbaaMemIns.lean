import Derived.Test.YtakigeichhngbaaSp
import Derived.Test.YtakigeichhngbaaMem
namespace Go.Proofs.Ytakigeichhngbaa
open Go.RowKit
set_option linter.unusedVariables false
set_option linter.unusedSimpArgs false

/-- An instruction as data. -/
structure Ins where
  op : Int
  dst : Int
  src : Int
  off : Int
  c : Int
  sym : ByteArray
  ref : ByteArray
/-- its cells lie from offset o on in block b -/
def InsCells (w : World) (b o : Nat) (i : Ins) : Prop :=
  w.cell? ⟨b, o, none⟩ = some (.int .i64 i.op) ∧ w.cell? ⟨b, o + 1, none⟩ = some (.int .i64 i.dst) ∧ w.cell? ⟨b, o + 2, none⟩ = some (.int .i64 i.src) ∧ w.cell? ⟨b, o + 3, none⟩ = some (.int .i64 i.off) ∧
    w.cell? ⟨b, o + 4, none⟩ = some (.int .i64 i.c) ∧ w.cell? ⟨b, o + 5, none⟩ = some (.string i.sym) ∧ w.cell? ⟨b, o + 6, none⟩ = some (.string i.ref)
/-- the slice's first n elements are the instructions xs -/
def InsAt (w : World) (A : Option Addr) (n : Nat) (xs : List Ins) : Prop :=
  xs.length = n ∧ (n = 0 ∨ ∃ b o, A = some ⟨b, o, none⟩ ∧ b < w.heap.size ∧ ∀ k (h : k < xs.length), InsCells w b (o + k * 7) xs[k])
theorem InsCells.keep {w w' : World} {b o : Nat} {i : Ins} (h : InsCells w b o i) (hb : Below w.heap.size w w') (hlt : b < w.heap.size) : InsCells w' b o i := by
  obtain ⟨h0, h1, h2, h3, h4, h5, h6⟩ := h
  exact ⟨(hb.cell (p := ⟨b, _, none⟩) hlt).trans h0, (hb.cell (p := ⟨b, _, none⟩) hlt).trans h1, (hb.cell (p := ⟨b, _, none⟩) hlt).trans h2, (hb.cell (p := ⟨b, _, none⟩) hlt).trans h3, (hb.cell (p := ⟨b, _, none⟩) hlt).trans h4, (hb.cell (p := ⟨b, _, none⟩) hlt).trans h5, (hb.cell (p := ⟨b, _, none⟩) hlt).trans h6⟩
theorem InsAt.keep {w w' : World} {A : Option Addr} {n : Nat} {xs : List Ins} (h : InsAt w A n xs) (hb : Below w.heap.size w w') : InsAt w' A n xs := by
  obtain ⟨hl, h⟩ := h
  refine ⟨hl, ?_⟩
  rcases h with h | ⟨b, o, rfl, hlt, hc⟩
  · exact .inl h
  · exact .inr ⟨b, o, rfl, Nat.lt_of_lt_of_le hlt hb.size, fun k hk => (hc k hk).keep hb hlt⟩

/-- the prefix of instructions that fit -/
theorem zzFits1_c (A : Option Addr) (n cap : Nat) (xs : List Ins) (w : World) (h : InsAt w A n xs) (hn : n ≤ 9223372036854775807) :
    Calls Try.prog 18 #[.slice A n cap] w fun e w' => e = .returned (.bool (decide (n ≤ 2147483647) && xs.all fun i => zzIns i.sym i.ref)) ∧ Below w.heap.size w w' := by
  obtain ⟨hl, h⟩ := h
  by_cases hs : 2147483647 < n
  · go_enter Try.func18, Try.ntmps18
    go_wp2
    go_ret
    exact ⟨by simp; omega, Below.refl _ _⟩
  rcases h with h0 | ⟨b, o, rfl, hlt, hc⟩
  · subst h0
    have : xs = [] := List.eq_nil_of_length_eq_zero hl
    subst this
    go_enter Try.func18, Try.ntmps18
    go_wp2
    go_rounds 1
    go_ret
    exact ⟨rfl, Below.refl _ _⟩
  · have hs' : n ≤ 2147483647 := by omega
    have C := Lib.hid hc
    have L := Lib.hid hl
    clear hc hl hs
    go_enter Try.func18, Try.ntmps18
    go_wp2
    go_loopw [10] (fun i wr => ∃ k : Nat, k ≤ n ∧ i = .int .i64 k ∧ Below w.heap.size w wr ∧ Hid ((xs.take k).all (fun i => zzIns i.sym i.ref) = true)) (fun i _ => n - (intOf i).toNat)
    case atStart => exact ⟨0, Nat.zero_le _, rfl, Below.refl _ _, by simp [Hid]⟩
    case round =>
      obtain ⟨k, hk, rfl, hb, hall⟩ := hrel
      by_cases hk' : k < n
      · have hkl : k < xs.length := by rw [L.out]; exact hk'
        obtain ⟨i, hi⟩ : ∃ i, i = xs[k] := ⟨_, rfl⟩
        obtain ⟨c0, c1, c2, c3, c4, c5, c6⟩ := (show InsCells w b (o + k * 7) i from by rw [hi]; exact C.out k _).keep hb hlt
        have HI := Lib.hid hi
        clear hi
        have hlt2 : b < wr.heap.size := Nat.lt_of_lt_of_le hlt hb.size
        have hz0 := hb.size
        cases hz : zzIns i.sym i.ref
        · go_wp2_with (first | (go_at_call 9; ((with_reducible refine (zzFits2_c _ _ _ _ _ _ _ _).mono ?_); rintro e w1 ⟨rfl, hb1⟩; obtain ⟨hc1, hf1⟩ := bcell hb1)))
          go_ret
          have hf : xs.all (fun i => zzIns i.sym i.ref) = false := by
            rw [List.all_eq_false]
            exact ⟨i, by rw [HI.out]; exact List.getElem_mem _, by rw [hz]; simp⟩
          exact ⟨by rw [hf, Bool.and_false]; rfl, (hb.alloc hz0 _).trans (hb1.mono (by simp; omega))⟩
        · go_wp2_with (first | (go_at_call 9; ((with_reducible refine (zzFits2_c _ _ _ _ _ _ _ _).mono ?_); rintro e w1 ⟨rfl, hb1⟩; obtain ⟨hc1, hf1⟩ := bcell hb1)))
          go_roundw
          case rel =>
            refine ⟨k + 1, by omega, by go_num, (hb.alloc hz0 _).trans (hb1.mono (by simp; omega)), ?_⟩
            rw [Hid, List.take_succ_eq_append_getElem hkl, List.all_append, hall.out]
            simp [← HI.out, hz]
          case measure => simp [intOf]; omega
      · go_wp2
        go_ret
        have hf : xs.all (fun i => zzIns i.sym i.ref) = true := by
          have := hall.out
          rwa [List.take_of_length_le (by rw [L.out]; omega)] at this
        exact ⟨by rw [hf]; simp [hs'], hb⟩
end Go.Proofs.Ytakigeichhngbaa
