import Derived.Test.YtakigeichhngbaaSymW
import Derived.Test.YtakigeichhngbaaSorts
import Derived.Maps.RangeWalk
import Derived.Sort.KeysCollected
import Derived.Sort.OwnSorted
namespace Go.Proofs.Ytakigeichhngbaa
open Go.RowKit Go.Sort Go.Maps
set_option linter.unusedVariables false
set_option linter.unusedSimpArgs false
theorem strS_info : (Try.prog.info? 9).map (fun i => (i.zero, i.size, i.bytes)) = some (some (.string ⟨#[]⟩), 1, 16) := by kernel_rfl
theorem intS_info : (Try.prog.info? 3).map (fun i => (i.zero, i.size, i.bytes)) = some (some (.int .i64 0), 1, 8) := by kernel_rfl
/-- a string out of its bytes -/
def bOf (x : List UInt8) : ByteArray := ⟨x.toArray⟩
theorem encStr_b (x : List UInt8) : encStr x = .string (bOf x) := rfl
theorem strK_b (x : List UInt8) : strK (bOf x) = .string x := by simp [strK, bOf]
theorem bOf_data (s : ByteArray) : bOf s.data.toList = s := by simp [bOf]
def sortB (ss : List (List UInt8)) : List (List UInt8) := ss.mergeSort fun x y => decide (x ≤ y)
/-- a slice of strings of the call's own; a slice of numbers -/
def OwnT (w : World) (B : Nat) (v : Value) (ts : List (List UInt8)) : Prop := w.ownsRow B 9 1 v ts.length (ts.map encStr)
def OwnZ (w : World) (B : Nat) (v : Value) (zs : List Int) : Prop := w.ownsRow B 3 1 v zs.length (zs.map (Value.int .i64))
theorem OwnT.row {w : World} {B : Nat} {v : Value} {ts : List (List UInt8)} (h : OwnT w B v ts) : ∃ A c, v = .slice A ts.length c ∧ ∀ j (hj : j < ts.length), ∃ g, A = some ⟨g, 0, none⟩ ∧ g < w.heap.size ∧ w.cell? ⟨g, j, none⟩ = some (encStr ts[j]) := by
  rcases h.2 with ⟨rfl, h0⟩ | ⟨g, cap, cur, rfl, hB, hh, hc⟩
  · exact ⟨_, _, by rw [h0], fun j hj => absurd hj (by omega)⟩
  · refine ⟨_, _, rfl, fun j hj => ⟨g, rfl, lt_of_blkS hh, ?_⟩⟩
    rw [h.cellAt j (by omega)]
    simp [hj]
theorem OwnZ.row {w : World} {B : Nat} {v : Value} {zs : List Int} (h : OwnZ w B v zs) : ∃ A c, v = .slice A zs.length c ∧ ∀ j (hj : j < zs.length), ∃ g, A = some ⟨g, 0, none⟩ ∧ g < w.heap.size ∧ w.cell? ⟨g, j, none⟩ = some (.int .i64 zs[j]) := by
  rcases h.2 with ⟨rfl, h0⟩ | ⟨g, cap, cur, rfl, hB, hh, hc⟩
  · exact ⟨_, _, by rw [h0], fun j hj => absurd hj (by omega)⟩
  · refine ⟨_, _, rfl, fun j hj => ⟨g, rfl, lt_of_blkS hh, ?_⟩⟩
    rw [h.cellAt j (by omega)]
    simp [hj]
theorem own_belowS {w w' : World} {B : Nat} {e : TypeId} {v : Value} {n : Nat} {xs : List Value} (h : w.ownsRow B e 1 v n xs) (hb : Below w.heap.size w w') : w'.ownsRow B e 1 v n xs :=
  h.kept (row := none) ⟨hb.os, hb.tape, hb.output, hb.size, fun k hk _ => hb.block k hk⟩ (by cases v.ownBlock <;> simp)
theorem own_monoS {w : World} {B B' : Nat} {e : TypeId} {v : Value} {n : Nat} {xs : List Value} (h : w.ownsRow B e 1 v n xs) (hB : B' ≤ B) : w.ownsRow B' e 1 v n xs := by
  refine ⟨h.1, ?_⟩
  rcases h.2 with h0 | ⟨g, cap, cur, e, hg, hr⟩
  · exact .inl h0
  · exact .inr ⟨g, cap, cur, e, Nat.le_trans hB hg, hr⟩
theorem lAtF_mem (s : ByteArray) : ∀ (k : Nat) (l : List Ins), 0 ≤ lAtF s k l → ∃ i ∈ l, sameS i.sym s = true
  | k, [], h => by simp [lAtF] at h
  | k, a :: l, h => by
    cases hs : sameS a.sym s
    · unfold lAtF at h
      rw [hs] at h
      obtain ⟨i, hi, hi2⟩ := lAtF_mem s (k + 1) l h
      exact ⟨i, by simp [hi], hi2⟩
    · exact ⟨a, by simp, hs⟩
theorem lAt_mem {xs : List Ins} {s : ByteArray} (h : 0 ≤ lAt xs s) : ∃ i ∈ xs, sameS i.sym s = true := lAtF_mem s 0 xs h
/-- the labels in order, and where each stands -/
structure SymSaid (xs : List Ins) (ts : List (List UInt8)) : Prop where
  sorted : ts.Pairwise fun a b => a ≤ b
  nodup : ts.Nodup
  mem : ∀ x, x ∈ ts ↔ (noS (bOf x) = false ∧ 0 ≤ lAt xs (bOf x))
theorem symSaid_of {xs : List Ins} {n : Nat} {D : DataW Unit} (hn : xs.length = n) (h : SymD xs n D) {left : Lit → Bool} {ss : List (List UInt8)} (hC : Collected D left ss) (hl : ∀ kl, left kl = false) : SymSaid xs (sortB ss) := by
  have hp : (sortB ss).Perm ss := List.mergeSort_perm ss _
  have tr : ∀ a b c : List UInt8, decide (a ≤ b) = true → decide (b ≤ c) = true → decide (a ≤ c) = true := fun a b c h1 h2 => by simp only [decide_eq_true_eq] at *; exact List.le_trans h1 h2
  have tot : ∀ a b : List UInt8, (decide (a ≤ b) || decide (b ≤ a)) = true := fun a b => by simp only [Bool.or_eq_true, decide_eq_true_eq]; exact List.le_total a b
  refine ⟨(List.pairwise_mergeSort tr tot ss).imp fun h => by simpa using h, hp.nodup_iff.2 hC.1, fun x => ?_⟩
  have e : xs.take n = xs := List.take_of_length_le (by omega)
  rw [hp.mem_iff, hC.2 x, hl, ← strK_b, h.has (bOf x), e]
  simp
def SymEndI (w : World) (xs : List Ins) (e : Ending) (w' : World) : Prop :=
  Below w.heap.size w w' ∧ ∃ (ts : List (List UInt8)) (v1 v2 : Value), e = .returned (.tuple #[v1, v2, .bool true]) ∧ SymSaid xs ts ∧ OwnT w' w.heap.size v1 ts ∧ OwnZ w' w.heap.size v2 (ts.map fun x => lAt xs (bOf x))
set_option maxRecDepth 100000 in
set_option maxHeartbeats 4000000 in
/-- impl.Symbols behind SymbolOffsets: the keys are collected, sorted, and each is looked up -/
theorem Symbols_ok (A : Option Addr) (n cap : Nat) (xs : List Ins) (w : World) (h : InsAt w A n xs) (hn : n ≤ 100) (hf : ∀ i ∈ xs, i.Fits) (hsz : ∀ i ∈ xs, i.sym.size ≤ maxLen) (hnew : ∀ k (hk : k < xs.length), noS xs[k].sym = false → lAt (xs.take k) xs[k].sym = -1) :
    Calls Try.prog 28 #[.slice A n cap] w (SymEndI w xs) := by
  obtain ⟨i0, hi0, hz0, hz1, hz2⟩ := info_parts strS_info
  obtain ⟨j0, gi0, gz0, gz1, gz2⟩ := info_parts intS_info
  have I0 := Lib.hid hi0
  have I1 := Lib.hid hz0
  have I2 := Lib.hid hz1
  have I3 := Lib.hid hz2
  have J0 := Lib.hid gi0
  have J1 := Lib.hid gz0
  have J2 := Lib.hid gz1
  have J3 := Lib.hid gz2
  have L := Lib.hid h.1
  have AC := Lib.hid (all_c A n cap xs w h (by omega) hf)
  have HSZ := Lib.hid hsz
  have HNEW := Lib.hid hnew
  clear hi0 hz0 hz1 hz2 gi0 gz0 gz1 gz2 h hf hsz hnew
  go_enter Try.func28, Try.ntmps28
  go_wp2_with fail
  refine AC.out.mono ?_
  rintro e w1 ⟨⟨v, rfl, hv⟩, hb1⟩
  obtain ⟨S, hS⟩ : ∃ sl, v = sl ∧ Calls Try.prog 108 #[sl] w1 (SymEnd w1 xs) := by
    rcases Nat.eq_zero_or_pos n with h0 | h0
    · have hx : xs = [] := List.eq_nil_of_length_eq_zero (by rw [L.out]; exact h0)
      subst hx
      obtain ⟨ps, _, ho, _⟩ := hv
      rcases ho.2 with ⟨rfl, _⟩ | ⟨g, cp, cur, rfl, _⟩
      · exact ⟨_, rfl, SymOffs_nil _ _ _⟩
      · exact ⟨_, rfl, SymOffs_nil _ _ _⟩
    · obtain ⟨g, cp, rfl, hcp, hgB, ⟨cur, hcur⟩, hi⟩ := hv.opened (by rw [L.out]; exact h0)
      exact ⟨_, rfl, SymOffs_c g xs.length cp xs w1 rfl (by rw [L.out]; omega) hcp (lt_of_blkS hcur) hi HSZ.out⟩
  obtain ⟨rfl, hS⟩ := hS
  have HS := Lib.hid hS
  have HB1 := Lib.hid hb1
  clear hv hb1 AC hS
  go_wp2_with fail
  refine HS.out.mono ?_
  rintro e w2 ⟨hb2, ⟨mb, D, rfl, hmb, hown, hsd, -⟩ | ⟨-, k, hk, hq, hneg⟩⟩
  rotate_left
  · exact absurd (HNEW.out k hk hq) (by omega)
  have hz1 := HB1.out.size
  have hb2w := HB1.out.trans (hb2.mono hz1)
  have hz2 := hb2w.size
  have hsz : Maps.size D ≤ 100 := by have := hown.size_le; have := L.out; omega
  have hbl := hown.lt
  have HOWN := Lib.hid hown
  have HSD := Lib.hid hsd
  have HB2 := Lib.hid hb2w
  clear hb2 hb2w hown hsd HS
  go_wp2_with (first
    | (at_range; refine wpList_range_own _ rfl _ 133 rfl 9 3 symI_law Try.underlying133 _ mb xs.length D rfl HOWN.out ?_; intro w0 hrg0 hg0 hs0))
  go_frame
  have HRG0 := Lib.hid hrg0
  have hb0 : Below w2.heap.size w2 w0 := (Below.refl _ _).grown hg0 (Nat.le_refl _) (fun j hj => by cases hj)
  have HB0 := Lib.hid hb0
  clear hrg0 hb0 hg0
  obtain ⟨it, hit⟩ : ∃ it, it = w2.heap.size := ⟨_, rfl⟩
  rw [← hit] at HRG0 ⊢
  have hmbi : mb ≠ it := by omega
  have hiti : w2.heap.size ≤ it := by omega
  clear hit
  go_loopw [9] (fun v wr => ∃ (left : Lit → Bool) (cnt : Nat) (ss : List (List UInt8)), wr.ranges Try.prog 9 (plainElem Try.prog 3) mb it xs.length D left cnt ∧ ss.length + cnt ≤ Maps.size D ∧
      OwnT wr w2.heap.size v ss ∧ Collected D left ss ∧ Below w2.heap.size w2 wr)
    (fun _ wr => wr.rangeLeft mb it)
  case atStart => exact ⟨_, _, [], HRG0.out, by simp, ⟨rfl, .inl ⟨rfl, rfl⟩⟩, Collected.start D, HB0.out⟩
  case round =>
    obtain ⟨left, cnt, ss, hrg, hcs, hrow, hC, hnx⟩ := hrel
    have hz3 := hnx.size
    go_wp2_with (first
      | (at_next; refine wpList_next_ranges _ rfl _ rfl 9 symI_law (plainElem Try.prog 3) encStr (Value.int .i64) (fun key kl hk => by obtain ⟨x, hx, _⟩ := Maps.keyOf_str Try.underlying9 hk; exact ⟨x, hx⟩) (fun v y hv => by obtain ⟨c, rfl, _⟩ := plainElem_int_inv Try.underlying3 hv; exact ⟨c, rfl⟩) mb it xs.length _ _ _ rfl hrg ?_ ?_))
    · intro hc0 hl0
      have hsaid := symSaid_of L.out (by rw [← L.out]; exact HSD.out) hC hl0
      have hlen : (sortB ss).length = ss.length := List.length_mergeSort _
      have hown3 := hrg.owns
      obtain ⟨A9, c9, hv9, -⟩ := hrow.row
      have SC : Calls Try.prog 72 #[.slice A9 ss.length c9] wr (fun e w' => e = .returned (.tuple #[]) ∧ OwnT w' w2.heap.size (.slice A9 ss.length c9) (sortB ss) ∧ Below w2.heap.size w2 w' ∧ ownN w' mb xs.length D) := by
        rw [hv9] at hrow
        rcases hrow.2 with ⟨hnil, h00⟩ | ⟨g, cap9, cur, hsl, hbase, hbb, h1, h2, h3, h4⟩
        · have hs0' : ss = [] := List.eq_nil_of_length_eq_zero h00
          subst hs0'
          refine (sortNil_c _ _ _).mono ?_
          rintro e w' ⟨rfl, rfl⟩
          have e0 : sortB [] = [] := by simp [sortB]
          exact ⟨rfl, by rw [e0]; exact hrow, hnx, hown3⟩
        · injection hsl with hA _ hcc
          subst hA hcc
          have hH : Holds encStr wr g 0 ss.toArray := holds_of_block hbb (by simpa using h4)
          refine (sortS_c g 0 c9 ss wr hH (lt_of_blkS hbb) (by omega)).mono ?_
          rintro e w' ⟨rfl, nn, os, rfl⟩
          refine ⟨rfl, ?_, hnx.grown (grownBy_sorted _) hz3 (fun j hj => by cases hj; exact hbase), hown3.kept (grownBy_sorted _) (fun e => by injection e with e; omega)⟩
          unfold OwnT
          rw [hlen]
          exact ownsRow_sorted (by simp [sortB]) hbase hbb h1 h2 h3
      subst hv9
      have hssl : ss.length ≤ 100 := by omega
      have SC := Lib.hid SC
      clear hrow hnx hC hcs hrg hown3 hl0
      go_wp2_with fail
      refine SC.out.mono ?_
      rintro e w6 ⟨rfl, ho6, hb6, hm6⟩
      rw [← hlen] at ho6 ⊢
      have hts : (sortB ss).length ≤ 100 := by rw [hlen]; exact hssl
      generalize sortB ss = ts at ho6 hsaid hts ⊢
      obtain ⟨A6, c6, hv6, hcell⟩ := ho6.row
      injection hv6 with e1 _ e2
      subst e1 e2
      have HSAID := Lib.hid hsaid
      have HO6 := Lib.hid ho6
      have HB6 := Lib.hid (HB2.out.trans (hb6.mono hz2))
      have HM6 := Lib.hid hm6
      have HCELL := Lib.hid hcell
      have hz6 := HB6.out.size
      have hz26 := hb6.size
      clear hsaid ho6 hb6 hm6 hcell SC hlen
      go_wp2_with fail
      go_loopw [11, 42] (fun v2 i wr2 => ∃ k : Nat, k ≤ ts.length ∧ i = .int .i64 k ∧ OwnZ wr2 w6.heap.size v2 ((ts.take k).map fun x => lAt xs (bOf x)) ∧ Below w6.heap.size w6 wr2) (fun _ i _ => ts.length - (intOf i).toNat)
      case atStart => exact ⟨0, Nat.zero_le _, rfl, ⟨rfl, .inl ⟨rfl, rfl⟩⟩, Below.refl _ _⟩
      case round =>
        obtain ⟨k, hk, rfl, hoz, hbz⟩ := hrel
        by_cases hk' : k < ts.length
        · obtain ⟨g9, rfl, hg9, hc9⟩ := HCELL.out k hk'
          obtain ⟨x, hx⟩ : ∃ x, x = ts[k] := ⟨_, rfl⟩
          rw [← hx] at hc9
          have hc10 : wr.cell? ⟨g9, k, none⟩ = some (.string (bOf x)) := (hbz.cell (p := ⟨g9, k, none⟩) hg9).trans hc9
          have hmem := (HSAID.out.mem x).1 (by rw [hx]; exact List.getElem_mem _)
          have hsx : (bOf x).size ≤ maxLen := by
            obtain ⟨i, hi, hs⟩ := lAt_mem hmem.2
            rw [← sameS_eq hs]
            exact HSZ.out i hi
          have hown10 : ownN wr mb xs.length D := World.ownsMap.kept (row := none) HM6.out ⟨hbz.os, hbz.tape, hbz.output, hbz.size, fun k hk _ => hbz.block k hk⟩ (by simp)
          obtain ⟨c, hrun, hat, hwc⟩ := hown10.lookup_int symI_law Try.underlying133 Try.underlying3 (zero_int wr) (strI_key hsx)
          have hcv : c = lAt xs (bOf x) := by
            have e : xs.take xs.length = xs := List.take_length
            have := HSD.out.val (bOf x) hmem.1 (by rw [e]; exact hmem.2) (.lit (.int .i64 0))
            rw [e] at this
            rw [this] at hat
            injection hat with hat
            injection hat with _ hat
            exact hat.symm
          have htk : (ts.take (k + 1)).map (fun x => lAt xs (bOf x)) = (ts.take k).map (fun x => lAt xs (bOf x)) ++ [c] := by
            rw [List.take_succ_eq_append_getElem hk', List.map_append, hcv, hx]
            rfl
          have hlk : ((ts.take k).map fun x => lAt xs (bOf x)).length = k := by rw [List.length_map, List.length_take]; omega
          generalize (ts.take k).map (fun x => lAt xs (bOf x)) = pre at hoz htk hlk
          have HTK := Lib.hid htk
          have LK := Lib.hid hlk
          have HOZ := Lib.hid hoz
          have HBZ := Lib.hid hbz
          have hzz := hbz.size
          have hg10 : g9 < wr.heap.size := Nat.lt_of_lt_of_le hg9 hbz.size
          obtain ⟨A7, c7, rfl, -⟩ := hoz.row
          clear hx hc9 hmem hown10 hat hwc hcv htk hlk hoz hbz
          go_wp2_with (first
            | (at_builtin; go_loud (refine wpList_append_own _ rfl (.tmp 46) (.tmp 50) 25 rfl w6.heap.size 3 j0 (.int .i64 0) 1 8 Try.underlying25 J0.out J1.out J2.out J3.out rfl (by decide) _ _ _ rfl (World.ownsRow.alloc HOZ.out _) ⟨wr.heap.size, 0, none⟩ 1 1 [.int .i64 c] rfl rfl ?d1 ?d2 ?d3 ?d4 ?d5 ?_)))
          case d1 => exact cell_one_new _ _ _
          case d2 => first | rfl | simp [Value.oneCell']
          case d3 => rw [LK.out]; unfold maxLen; omega
          case d4 => rw [LK.out]; omega
          case d5 => first | omega | (simp; omega)
          intro v8 w8 hown8 hg8 _
          have hb8 : Below w6.heap.size w6 w8 := (HBZ.out.alloc hzz _).grown hg8 (by simp; omega) (fun j hj => (HOZ.out.lt j hj).1)
          have HO8 := Lib.hid (show OwnZ w8 w6.heap.size v8 ((ts.take (k + 1)).map fun x => lAt xs (bOf x)) by rw [HTK.out]; unfold OwnZ; rw [List.length_append, List.map_append]; exact hown8)
          have HB8 := Lib.hid hb8
          clear hown8 hg8 hb8 hrun
          go_wp2_with fail
          go_roundw
          case rel => exact ⟨k + 1, by omega, by go_num, HO8.out, HB8.out⟩
          case measure => simp [intOf]; omega
        · obtain rfl : k = ts.length := by omega
          have hto : OwnT wr w2.heap.size (.slice A9 ts.length c9) ts := own_belowS HO6.out hbz
          rw [List.take_length] at hoz
          have HT := Lib.hid hto
          have HOZ := Lib.hid hoz
          have HBZ := Lib.hid hbz
          clear hto hoz hbz
          go_wp2
          go_ret3
          exact ⟨HB6.out.trans (HBZ.out.mono hz6), ts, _, _, rfl, HSAID.out, own_monoS HT.out hz2, own_monoS HOZ.out hz6⟩
    · intro x c kl yd yp w4 cnt2 hkey hlk hv hat hrg2 hlt hg2 hs2 hen
      obtain ⟨x', ex, rfl, _⟩ := Maps.keyOf_str Try.underlying9 hkey
      obtain rfl : x = x' := encStr_inj ex
      have hrow2 := hrow.kept hg2 (Or.inr (row_ne_iter hrow hrg).symm)
      have hb4 : Below w2.heap.size w2 w4 := hnx.grown hg2 hz3 (fun j hj => by injection hj with hj; omega)
      have hz4 := hb4.size
      have hss : ss.length ≤ 100 := by omega
      clear hs2
      go_wp2_with (first
        | (at_builtin; go_loud (refine wpList_append_own _ rfl (.tmp 34) (.tmp 36) 40 rfl w2.heap.size 9 i0 (.string ⟨#[]⟩) 1 16 Try.underlying40 I0.out I1.out I2.out I3.out rfl (by decide) _ _ _ rfl (World.ownsRow.alloc hrow2 _) ⟨w4.heap.size, 0, none⟩ 1 1 [encStr x] rfl rfl ?c1 ?c2 ?c3 ?c4 ?c5 ?_)))
      case c2 => first | rfl | simp [Value.oneCell', encStr]
      case c3 => unfold maxLen; omega
      case c4 => omega
      case c5 => first | omega | (simp; omega)
      intro v5 w5 hown5 hg5 _
      have hrg5 := (hrg2.alloc _).kept hg5 (row_ne_low hrow2 hbl) (row_ne_iter hrow2 hrg2)
      have hb5 : Below w2.heap.size w2 w5 := (hb4.alloc hz4 _).grown hg5 (by simp; omega) (fun j hj => (hrow2.lt j hj).1)
      have HRG5 := Lib.hid hrg5
      have HB5 := Lib.hid hb5
      have HLT := Lib.hid (show wr.rangeLeft mb it > w5.rangeLeft mb it by rw [hrg5.left_eq, hrg.left_eq]; exact hlt)
      have HO5 := Lib.hid (show OwnT w5 w2.heap.size v5 (ss ++ [x]) by unfold OwnT; rw [List.length_append, List.map_append]; exact hown5)
      have HC5 := Lib.hid (hC.step hlk hat)
      clear hrg5 hb5 hown5 hg5 hrow2 hb4 hg2 hrg2 hrg hrow hC hnx hen hat hlk hkey hv
      go_wp2_with fail
      go_roundw
      case rel => exact ⟨_, cnt2, ss ++ [x], HRG5.out, by rw [List.length_append]; simp; omega, HO5.out, HC5.out, HB5.out⟩
      case measure => exact HLT.out
end Go.Proofs.Ytakigeichhngbaa
