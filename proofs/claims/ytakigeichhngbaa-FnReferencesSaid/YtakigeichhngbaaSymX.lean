import Derived.Test.YtakigeichhngbaaSymI
namespace Go.Proofs.Ytakigeichhngbaa
open Go.RowKit Go.Sort Go.Maps
set_option linter.unusedVariables false
set_option linter.unusedSimpArgs false
set_option maxRecDepth 100000 in
set_option maxHeartbeats 2000000 in
/-- impl.Symbols where a label stands twice: false -/
theorem Symbols_dup (A : Option Addr) (n cap : Nat) (xs : List Ins) (w : World) (h : InsAt w A n xs) (hn : n ≤ 100) (h0 : 0 < n) (hf : ∀ i ∈ xs, i.Fits) (hsz : ∀ i ∈ xs, i.sym.size ≤ maxLen) (hdup : ∃ k, ∃ hk : k < xs.length, noS xs[k].sym = false ∧ 0 ≤ lAt (xs.take k) xs[k].sym) :
    Calls Try.prog 28 #[.slice A n cap] w fun e w' => e = .returned (.tuple #[.slice none 0 0, .slice none 0 0, .bool false]) ∧ Below w.heap.size w w' := by
  have L := Lib.hid h.1
  have AC := Lib.hid (all_c A n cap xs w h (by omega) hf)
  have HSZ := Lib.hid hsz
  have HDUP := Lib.hid hdup
  clear h hf hsz hdup
  go_enter Try.func28, Try.ntmps28
  go_wp2_with fail
  refine AC.out.mono ?_
  rintro e w1 ⟨⟨v, rfl, hv⟩, hb1⟩
  obtain ⟨g, cp, rfl, hcp, hgB, ⟨cur, hcur⟩, hi⟩ := hv.opened (by rw [L.out]; exact h0)
  have HS := Lib.hid (SymOffs_c g xs.length cp xs w1 rfl (by rw [L.out]; omega) hcp (lt_of_blkS hcur) hi HSZ.out)
  have HB1 := Lib.hid hb1
  clear hv hb1 AC hcur hi hcp
  go_wp2_with fail
  refine HS.out.mono ?_
  rintro e w2 ⟨hb2, ⟨mb, D, rfl, hmb, hown, hsd, hall⟩ | ⟨⟨p2, rfl⟩, -⟩⟩
  · obtain ⟨k, hk, hq, hneg⟩ := HDUP.out
    exact absurd (hall k hk hq) (by omega)
  have HB2 := Lib.hid (HB1.out.trans (hb2.mono HB1.out.size))
  clear hb2 HS
  go_wp2
  go_ret3
  exact ⟨rfl, HB2.out⟩
/-- where a string stands in a list, from the k-th on -/
def idxF (s : List UInt8) : Nat → List (List UInt8) → Int
  | _, [] => -1
  | k, x :: l => bif s == x then (k : Int) else idxF s (k + 1) l
theorem idxF_mem (s : List UInt8) : ∀ (k : Nat) (l : List (List UInt8)), s ∈ l → ∃ j, ∃ hj : j < l.length, idxF s k l = ((k + j : Nat) : Int) ∧ l[j] = s
  | k, [], h => absurd h (by simp)
  | k, x :: l, h => by
    unfold idxF
    cases hs : (s == x)
    · have hne : s ≠ x := by simpa using hs
      have hm : s ∈ l := by
        rcases List.mem_cons.1 h with h | h
        · exact absurd h hne
        · exact h
      obtain ⟨j, hj, e1, e2⟩ := idxF_mem s (k + 1) l hm
      exact ⟨j + 1, by simp; omega, by simp only [cond_false]; rw [e1]; congr 1; omega, by simpa using e2⟩
    · exact ⟨0, by simp, by simp, ((by simpa using hs : s = x)).symm⟩
theorem bytes_eq (x y : List UInt8) : ((bOf x).toList == (bOf y).toList) = (x == y) := by
  rw [ByteArray.toList_eq, ByteArray.toList_eq]
  simp [bOf]
set_option maxRecDepth 100000 in
theorem IndexS_c (A : Option Addr) (c : Nat) (ts : List (List UInt8)) (s : List UInt8) (w : World) (hn : ts.length ≤ 1000) (hc : ∀ j (hj : j < ts.length), ∃ g, A = some ⟨g, 0, none⟩ ∧ g < w.heap.size ∧ w.cell? ⟨g, j, none⟩ = some (encStr ts[j])) :
    Calls Try.prog 30 #[.slice A ts.length c, .string (bOf s)] w fun e w' => e = .returned (.int .i64 (idxF s 0 ts)) ∧ Below w.heap.size w w' := by
  have C := Lib.hid hc
  obtain ⟨n, hnn⟩ : ∃ n, n = ts.length := ⟨_, rfl⟩
  rw [← hnn] at hn ⊢
  have L := Lib.hid hnn
  clear hc hnn
  go_enter Try.func30, Try.ntmps30
  go_wp2_with fail
  go_loopw [8] (fun i wr => ∃ k : Nat, k ≤ n ∧ i = .int .i64 k ∧ Below w.heap.size w wr ∧ Hid (idxF s 0 ts = idxF s k (ts.drop k))) (fun i _ => n - (intOf i).toNat)
  case atStart => exact ⟨0, Nat.zero_le _, rfl, Below.refl _ _, rfl⟩
  case round =>
    obtain ⟨k, hk, rfl, hb, hall⟩ := hrel
    by_cases hk' : k < n
    · have hkl : k < ts.length := by rw [← L.out]; exact hk'
      obtain ⟨g, rfl, hg, hcell⟩ := C.out k hkl
      obtain ⟨x, hx⟩ : ∃ x, x = ts[k] := ⟨_, rfl⟩
      rw [← hx] at hcell
      have hc1 : wr.cell? ⟨g, k, none⟩ = some (.string (bOf x)) := (hb.cell (p := ⟨g, k, none⟩) hg).trans hcell
      have hd : idxF s 0 ts = bif s == x then (k : Int) else idxF s (k + 1) (ts.drop (k + 1)) := by
        rw [hall.out, List.drop_eq_getElem_cons hkl, hx]
        rfl
      have HD := Lib.hid hd
      have HB := Lib.hid hb
      have hgw : g < wr.heap.size := Nat.lt_of_lt_of_le hg hb.size
      clear hx hcell hd hall hb
      cases hz : ((bOf s).toList == (bOf x).toList)
      · have hz2 := hz
        rw [bytes_eq] at hz2
        have HZ := Lib.hid hz2
        clear hz2
        go_wp2_with fail
        go_roundw
        case rel => exact ⟨k + 1, by omega, by go_num, HB.out, by rw [Hid, HD.out, HZ.out]; rfl⟩
        case measure => simp [intOf]; omega
      · have hz2 := hz
        rw [bytes_eq] at hz2
        have HZ := Lib.hid hz2
        clear hz2
        go_wp2_with fail
        go_ret
        exact ⟨by rw [HD.out, HZ.out]; rfl, HB.out⟩
    · go_wp2
      go_ret
      have hf : idxF s 0 ts = -1 := by rw [hall.out, List.drop_of_length_le (by rw [← L.out]; omega)]; rfl
      exact ⟨by rw [hf]; rfl, hb⟩
end Go.Proofs.Ytakigeichhngbaa
