import Derived.Test.YtakigeichhngbaaSymI
import Derived.Test.YtakigeichhngbaaSymP
import Derived.Test.YtakigeichhngbaaRefW
namespace Go.Proofs.Ytakigeichhngbaa
open Go.RowKit Go.Sort Go.Maps
set_option linter.unusedVariables false
set_option linter.unusedSimpArgs false
theorem intsS_info : (Try.prog.info? 25).map (fun i => (i.zero, i.size, i.bytes)) = some (some (.slice none 0 0), 1, 24) := by kernel_rfl
theorem own_sl {w : World} {base : Nat} {e : TypeId} {size n : Nat} {v : Value} {xs : List Value} (h : w.ownsRow base e size v n xs) : ∃ A c, v = .slice A n c := by
  rcases h.2 with ⟨rfl, rfl⟩ | ⟨g, cap, cur, rfl, _⟩
  · exact ⟨_, _, rfl⟩
  · exact ⟨_, _, rfl⟩
/-- a slice of slices of numbers, all of the call's own -/
def OwnM (w : World) (B : Nat) (v : Value) (rs : List (List Int)) : Prop :=
  ∃ vs : List Value, w.ownsRow B 25 1 v rs.length vs ∧ ∀ j (hj : j < rs.length), ∃ u, vs[j]? = some u ∧ OwnZ w B u rs[j]
theorem OwnM.below {w w' : World} {B : Nat} {v : Value} {rs : List (List Int)} (h : OwnM w B v rs) (hb : Below w.heap.size w w') : OwnM w' B v rs := by
  obtain ⟨vs, h1, h2⟩ := h
  exact ⟨vs, own_belowS h1 hb, fun j hj => by obtain ⟨u, hu, ho⟩ := h2 j hj; exact ⟨u, hu, own_belowS ho hb⟩⟩
theorem OwnM.mono {w : World} {B B' : Nat} {v : Value} {rs : List (List Int)} (h : OwnM w B v rs) (hB : B' ≤ B) : OwnM w B' v rs := by
  obtain ⟨vs, h1, h2⟩ := h
  exact ⟨vs, own_monoS h1 hB, fun j hj => by obtain ⟨u, hu, ho⟩ := h2 j hj; exact ⟨u, hu, own_monoS ho hB⟩⟩
theorem OwnM.snoc {w w1 : World} {B : Nat} {v v1 u : Value} {rs : List (List Int)} {vs : List Value} {zs : List Int} (hv : w.ownsRow B 25 1 v rs.length vs) (h : ∀ j (hj : j < rs.length), ∃ u, vs[j]? = some u ∧ OwnZ w B u rs[j]) (hu : OwnZ w B u zs)
    (hg : w.grownBy w1 v.ownBlock) (h1 : w1.ownsRow B 25 1 v1 (rs.length + 1) (vs ++ [u])) : OwnM w1 B v1 (rs ++ [zs]) := by
  have hvs : vs.length = rs.length := by have := hv.1; omega
  refine ⟨vs ++ [u], by rw [List.length_append]; exact h1, fun j hj => ?_⟩
  rw [List.length_append, List.length_singleton] at hj
  by_cases hj' : j < rs.length
  · obtain ⟨y, hy, ho⟩ := h j hj'
    refine ⟨y, by rw [List.getElem?_append_left (by omega)]; exact hy, ?_⟩
    rw [List.getElem_append_left hj']
    exact World.ownsRow.kept ho hg (rows_apart hv ho (by decide))
  · have e : j = rs.length := by omega
    subst e
    refine ⟨u, by rw [List.getElem?_append_right (by omega), hvs]; simp, ?_⟩
    have e2 : (rs ++ [zs])[rs.length]'(by simp) = zs := by simp
    rw [e2]
    exact World.ownsRow.kept hu hg (rows_apart hv hu (by decide))
theorem rAtF_mem (s : ByteArray) : ∀ (k : Nat) (l : List Ins), rAtF s k l ≠ [] → ∃ i ∈ l, sameS i.ref s = true
  | k, [], h => by simp [rAtF] at h
  | k, a :: l, h => by
    cases hs : sameS a.ref s
    · unfold rAtF at h
      rw [hs] at h
      obtain ⟨i, hi, hi2⟩ := rAtF_mem s (k + 1) l h
      exact ⟨i, by simp [hi], hi2⟩
    · exact ⟨a, by simp, hs⟩
/-- the names in order, and who refers to each -/
structure RefSaid (xs : List Ins) (ts : List (List UInt8)) : Prop where
  sorted : ts.Pairwise fun a b => a ≤ b
  nodup : ts.Nodup
  mem : ∀ x, x ∈ ts ↔ (noS (bOf x) = false ∧ rAt xs (bOf x) ≠ [])
theorem refSaid_of {xs : List Ins} {n : Nat} {D D0 : DataW Unit} (hn : xs.length = n) (h : RefD xs n D) (hsz : ∀ i ∈ xs, i.ref.size ≤ maxLen) (h0 : ∀ key kl, keyOf Try.prog 9 key = some kl → Maps.has D0 kl = Maps.has D kl)
    {w : World} {b : Nat} (hown : w.ownsMap Try.prog 9 noElem b n D0) {left : Lit → Bool} {ss : List (List UInt8)} (hC : Collected D0 left ss) (hl : ∀ kl, left kl = false) : RefSaid xs (sortB ss) := by
  have hp : (sortB ss).Perm ss := List.mergeSort_perm ss _
  have tr : ∀ a b c : List UInt8, decide (a ≤ b) = true → decide (b ≤ c) = true → decide (a ≤ c) = true := fun a b c h1 h2 => by simp only [decide_eq_true_eq] at *; exact List.le_trans h1 h2
  have tot : ∀ a b : List UInt8, (decide (a ≤ b) || decide (b ≤ a)) = true := fun a b => by simp only [Bool.or_eq_true, decide_eq_true_eq]; exact List.le_total a b
  refine ⟨(List.pairwise_mergeSort tr tot ss).imp fun h => by simpa using h, hp.nodup_iff.2 hC.1, fun x => ?_⟩
  have e : xs.take n = xs := List.take_of_length_le (by omega)
  have hx := h.has (bOf x)
  rw [e] at hx
  rw [hp.mem_iff, hC.2 x, hl, ← strK_b]
  constructor
  · rintro ⟨h1, -⟩
    have h2 : Maps.has D (strK (bOf x)) = true := by
      obtain ⟨es, hD, hk⟩ := hown.keysOf
      have h1' := h1
      rw [hD] at h1'
      obtain ⟨p, hp, hq⟩ := List.any_eq_true.1 h1'
      obtain ⟨v, hv⟩ := hk p hp
      obtain ⟨y, rfl, hy, -⟩ := Maps.keyOf_str Try.underlying9 hv
      rw [hy] at hq hv
      have hxy : y = x := by simpa [Lit.sameKey, strK_b] using hq
      subst hxy
      rw [strK_b] at h1 ⊢
      rw [← h0 _ _ hv]
      exact h1
    rw [hx] at h2
    simpa using h2
  · rintro ⟨h1, h2⟩
    obtain ⟨i, hi, hs⟩ := rAtF_mem _ 0 xs h2
    have hsz' : (bOf x).size ≤ maxLen := by rw [← sameS_eq hs]; exact hsz i hi
    refine ⟨?_, rfl⟩
    rw [h0 _ _ (strI_key hsz'), hx]
    simpa using ⟨h1, h2⟩
def RefEndI (w : World) (xs : List Ins) (e : Ending) (w' : World) : Prop :=
  Below w.heap.size w w' ∧ ∃ (ts : List (List UInt8)) (v1 v2 : Value), e = .returned (.tuple #[v1, v2]) ∧ RefSaid xs ts ∧ OwnT w' w.heap.size v1 ts ∧ OwnM w' w.heap.size v2 (ts.map fun x => rAt xs (bOf x))
set_option maxRecDepth 100000 in
set_option maxHeartbeats 4000000 in
/-- impl.References: the keys are collected, sorted, and each is looked up; its row is copied -/
theorem References_c (A : Option Addr) (n cap : Nat) (xs : List Ins) (w : World) (h : InsAt w A n xs) (hn : n ≤ 100) (hf : ∀ i ∈ xs, i.Fits) (hsz : ∀ i ∈ xs, i.ref.size ≤ maxLen) :
    Calls Try.prog 24 #[.slice A n cap] w (RefEndI w xs) := by
  obtain ⟨i0, hi0, hz0, hz1, hz2⟩ := info_parts strS_info
  obtain ⟨j0, gi0, gz0, gz1, gz2⟩ := info_parts intS_info
  obtain ⟨k0, ki0, kz0, kz1, kz2⟩ := info_parts intsS_info
  have I0 := Lib.hid hi0
  have I1 := Lib.hid hz0
  have I2 := Lib.hid hz1
  have I3 := Lib.hid hz2
  have J0 := Lib.hid gi0
  have J1 := Lib.hid gz0
  have J2 := Lib.hid gz1
  have J3 := Lib.hid gz2
  have K0 := Lib.hid ki0
  have K1 := Lib.hid kz0
  have K2 := Lib.hid kz1
  have K3 := Lib.hid kz2
  have L := Lib.hid h.1
  have AC := Lib.hid (all_c A n cap xs w h (by omega) hf)
  have HSZ := Lib.hid hsz
  clear hi0 hz0 hz1 hz2 gi0 gz0 gz1 gz2 ki0 kz0 kz1 kz2 h hf hsz
  go_enter Try.func24, Try.ntmps24
  go_wp2_with fail
  refine AC.out.mono ?_
  rintro e w1 ⟨⟨v, rfl, hv⟩, hb1⟩
  obtain ⟨S, hS⟩ : ∃ sl, v = sl ∧ Calls Try.prog 71 #[sl] w1 (RefEnd w1 xs) := by
    rcases Nat.eq_zero_or_pos n with h0 | h0
    · have hx : xs = [] := List.eq_nil_of_length_eq_zero (by rw [L.out]; exact h0)
      subst hx
      obtain ⟨ps, _, ho, _⟩ := hv
      rcases ho.2 with ⟨rfl, _⟩ | ⟨g, cp, cur, rfl, _⟩
      · exact ⟨_, rfl, RefOffs_nil _ _ _⟩
      · exact ⟨_, rfl, RefOffs_nil _ _ _⟩
    · obtain ⟨g, cp, rfl, hcp, hgB, ⟨cur, hcur⟩, hi⟩ := hv.opened (by rw [L.out]; exact h0)
      exact ⟨_, rfl, RefOffs_c g xs.length cp xs w1 rfl (by rw [L.out]; omega) hcp (lt_of_blkS hcur) hi HSZ.out⟩
  obtain ⟨rfl, hS⟩ := hS
  have HS := Lib.hid hS
  have HB1 := Lib.hid hb1
  clear hv hb1 AC hS
  go_wp2_with fail
  refine HS.out.mono ?_
  rintro e w2 ⟨hb2, mb, D, rfl, hmb, hown, hsd⟩
  obtain ⟨D0, hown0, hD0⟩ := groups_keys hown symI_law Try.underlying100 (zero_ints _)
  have hz1 := HB1.out.size
  have hb2w := HB1.out.trans (hb2.mono hz1)
  have hz2 := hb2w.size
  have hsz : Maps.size D0 ≤ 100 := by have := hown0.size_le; have := L.out; omega
  have hbl := hown0.lt
  have HOWN := Lib.hid hown0
  have HG := Lib.hid hown
  have HSD := Lib.hid hsd
  have HD0 := Lib.hid hD0
  have HB2 := Lib.hid hb2w
  clear hb2 hb2w hown hown0 hD0 hsd HS
  go_wp2_with (first
    | (at_range; refine wpList_range_own _ rfl _ 100 rfl 9 25 symI_law Try.underlying100 _ mb xs.length D0 rfl HOWN.out ?_; intro w0 hrg0 hg0 hs0))
  go_frame
  have HRG0 := Lib.hid hrg0
  have hb0 : Below w2.heap.size w2 w0 := (Below.refl _ _).grown hg0 (Nat.le_refl _) (fun j hj => by cases hj)
  have HB0 := Lib.hid hb0
  clear hrg0 hb0 hg0
  obtain ⟨it, hit⟩ : ∃ it, it = w2.heap.size := ⟨_, rfl⟩
  rw [← hit] at HRG0 ⊢
  have hmbi : mb ≠ it := by omega
  have hiti : w2.heap.size ≤ it := by omega
  clear hit
  go_loopw [7] (fun v wr => ∃ (left : Lit → Bool) (cnt : Nat) (ss : List (List UInt8)), wr.ranges Try.prog 9 noElem mb it xs.length D0 left cnt ∧ ss.length + cnt ≤ Maps.size D0 ∧
      OwnT wr w2.heap.size v ss ∧ Collected D0 left ss ∧ Below w2.heap.size w2 wr)
    (fun _ wr => wr.rangeLeft mb it)
  case atStart => exact ⟨_, _, [], HRG0.out, by simp, ⟨rfl, .inl ⟨rfl, rfl⟩⟩, Collected.start D0, HB0.out⟩
  case round =>
    obtain ⟨left, cnt, ss, hrg, hcs, hrow, hC, hnx⟩ := hrel
    have hz3 := hnx.size
    go_wp2_with (first
      | (at_next; refine wpList_next_ranges _ rfl _ rfl 9 symI_law noElem encStr (fun v : Value => v) (fun key kl hk => by obtain ⟨x, hx, _⟩ := Maps.keyOf_str Try.underlying9 hk; exact ⟨x, hx⟩) (fun v y _ => ⟨v, rfl⟩) mb it xs.length _ _ _ rfl hrg ?_ ?_))
    · intro hc0 hl0
      have hsaid := refSaid_of rfl HSD.out HSZ.out HD0.out HOWN.out hC hl0
      have hlen : (sortB ss).length = ss.length := List.length_mergeSort _
      obtain ⟨A9, c9, hv9, -⟩ := hrow.row
      have SC : Calls Try.prog 72 #[.slice A9 ss.length c9] wr (fun e w' => e = .returned (.tuple #[]) ∧ OwnT w' w2.heap.size (.slice A9 ss.length c9) (sortB ss) ∧ Below w2.heap.size w2 w') := by
        rw [hv9] at hrow
        rcases hrow.2 with ⟨hnil, h00⟩ | ⟨g, cap9, cur, hsl, hbase, hbb, h1, h2, h3, h4⟩
        · have hs0' : ss = [] := List.eq_nil_of_length_eq_zero h00
          subst hs0'
          refine (sortNil_c _ _ _).mono ?_
          rintro e w' ⟨rfl, rfl⟩
          have e0 : sortB [] = [] := by simp [sortB]
          exact ⟨rfl, by rw [e0]; exact hrow, hnx⟩
        · injection hsl with hA _ hcc
          subst hA hcc
          have hH : Holds encStr wr g 0 ss.toArray := holds_of_block hbb (by simpa using h4)
          refine (sortS_c g 0 c9 ss wr hH (lt_of_blkS hbb) (by omega)).mono ?_
          rintro e w' ⟨rfl, nn, os, rfl⟩
          refine ⟨rfl, ?_, hnx.grown (grownBy_sorted _) hz3 (fun j hj => by cases hj; exact hbase)⟩
          unfold OwnT
          rw [hlen]
          exact ownsRow_sorted (by simp [sortB]) hbase hbb h1 h2 h3
      subst hv9
      have hssl : ss.length ≤ 100 := by omega
      have SC := Lib.hid SC
      clear hrow hnx hC hcs hrg hl0
      go_wp2_with fail
      refine SC.out.mono ?_
      rintro e w6 ⟨rfl, ho6, hb6⟩
      rw [← hlen] at ho6 ⊢
      have hts : (sortB ss).length ≤ 100 := by rw [hlen]; exact hssl
      generalize sortB ss = ts at ho6 hsaid hts ⊢
      obtain ⟨A6, c6, hv6, hcell⟩ := ho6.row
      injection hv6 with e1 _ e2
      subst e1 e2
      have HSAID := Lib.hid hsaid
      have HO6 := Lib.hid ho6
      have HB26 := Lib.hid hb6
      have HB6 := Lib.hid (HB2.out.trans (hb6.mono hz2))
      have HCELL := Lib.hid hcell
      have hz6 := HB6.out.size
      have hz26 := hb6.size
      clear hsaid ho6 hb6 hcell SC hlen
      go_wp2_with fail
      go_loopw [9, 35] (fun v2 i wr2 => ∃ k : Nat, k ≤ ts.length ∧ i = .int .i64 k ∧ OwnM wr2 w6.heap.size v2 ((ts.take k).map fun x => rAt xs (bOf x)) ∧ Below w6.heap.size w6 wr2) (fun _ i _ => ts.length - (intOf i).toNat)
      case atStart => exact ⟨0, Nat.zero_le _, rfl, ⟨[], ⟨rfl, .inl ⟨rfl, rfl⟩⟩, fun j hj => absurd hj (by simp)⟩, Below.refl _ _⟩
      case round =>
        obtain ⟨k, hk, rfl, hoz, hbz⟩ := hrel
        by_cases hk' : k < ts.length
        · obtain ⟨g9, rfl, hg9, hc9⟩ := HCELL.out k hk'
          obtain ⟨x, hx⟩ : ∃ x, x = ts[k] := ⟨_, rfl⟩
          rw [← hx] at hc9
          have hc10 : wr.cell? ⟨g9, k, none⟩ = some (.string (bOf x)) := (hbz.cell (p := ⟨g9, k, none⟩) hg9).trans hc9
          have hmem := (HSAID.out.mem x).1 (by rw [hx]; exact List.getElem_mem _)
          have hsx : (bOf x).size ≤ maxLen := by
            obtain ⟨i, hi, hs⟩ := rAtF_mem _ 0 xs hmem.2
            rw [← sameS_eq hs]
            exact HSZ.out i hi
          have hown10 : ownG wr mb xs.length D := ownG_kept HG.out (grow_below (HB26.out.trans (hbz.mono hz26)))
          have HOWN10 := Lib.hid hown10
          have htk : (ts.take (k + 1)).map (fun x => rAt xs (bOf x)) = (ts.take k).map (fun x => rAt xs (bOf x)) ++ [rAt xs (bOf x)] := by
            rw [List.take_succ_eq_append_getElem hk', List.map_append, hx]
            rfl
          have hrl : (rAt xs (bOf x)).length ≤ 100 := by have := rAt_len xs (bOf x); have := L.out; omega
          have hval : D.atKey (strK (bOf x)) .nil = rD (rAt xs (bOf x)) := by
            have := HSD.out.val (bOf x) hmem.1
            rwa [List.take_length] at this
          have HTK := Lib.hid htk
          have hlk : ((ts.take k).map fun x => rAt xs (bOf x)).length = k := by rw [List.length_map, List.length_take]; omega
          generalize (ts.take k).map (fun x => rAt xs (bOf x)) = pre at hoz HTK hlk
          have LK := Lib.hid hlk
          have HVAL := Lib.hid hval
          obtain ⟨vs, hvs, hin⟩ := hoz
          rw [hlk] at hvs
          have HVS := Lib.hid hvs
          have HIN := Lib.hid hin
          have HBZ := Lib.hid hbz
          have hzz := hbz.size
          have hg10 : g9 < wr.heap.size := Nat.lt_of_lt_of_le hg9 hbz.size
          obtain ⟨A7, c7, rfl⟩ := own_sl hvs
          have hkey := strI_key hsx
          clear hx hc9 hmem hown10 htk hlk hbz hvs hin hval
          go_wp2_with (first
            | (at_lookup; go_loud (refine wpList_lookup_groups _ rfl _ _ 100 rfl 9 25 3 .i64 symI_law Try.underlying100 (zero_ints _) (mb + 1) mb xs.length D rfl HOWN10.out ?e1 _ _ rfl hkey ?_)))
          case e1 => rw [L.out]; unfold maxLen; omega
          intro v zs hat hoi hzl hback
          have hzs : zs = rAt xs (bOf x) := rows_read hat hoi HVAL.out
          rw [← hzs] at HTK hrl
          obtain ⟨A8, c8, rfl⟩ := own_sl hoi.1
          have HOI := Lib.hid hoi.1
          clear hat hoi hback hzl HOWN10 hzs HVAL hkey
          go_wp2_with (first
            | (at_builtin; go_loud (refine wpList_append_any _ rfl (.const (.slice none 0 0)) (.tmp 42) 25 rfl w6.heap.size 3 j0 (.int .i64 0) 1 8 Try.underlying25 J0.out J1.out J2.out J3.out rfl (by decide) (.slice none 0 0) 0 [] rfl (World.ownsRow_nil _ _ _ _) wr.heap.size A8 zs.length c8 (zs.map (Value.int .i64)) rfl (Reads.of_own HOI.out) (ints_oneCell .i64 zs) ?f1 ?f2 ?f3 ?_)))
          case f1 => unfold maxLen; omega
          case f2 => omega
          case f3 => exact hzz
          intro v8 w8 hown8 hg8 _
          have hb8 : Below wr.heap.size wr w8 := (Below.refl _ _).grown hg8 (Nat.le_refl _) (by simp [Value.ownBlock])
          have HVS8 := Lib.hid (own_belowS HVS.out hb8)
          have HIN8 := Lib.hid (show ∀ j (hj : j < pre.length), ∃ u, vs[j]? = some u ∧ OwnZ w8 w6.heap.size u pre[j] from fun j hj => by
            obtain ⟨u, hu, ho⟩ := HIN.out j hj
            exact ⟨u, hu, own_belowS ho hb8⟩)
          have HB8 := Lib.hid (HBZ.out.trans (hb8.mono hzz))
          have hz8 := HB8.out.size
          obtain ⟨A10, c10, rfl⟩ := own_sl hown8
          have HO8 := Lib.hid hown8
          clear hown8 hg8 hb8 HIN HVS HOI HBZ
          go_wp2_with (first
            | (at_builtin; go_loud (refine wpList_append_own _ rfl (.tmp 39) (.tmp 44) 41 rfl w6.heap.size 25 k0 (.slice none 0 0) 1 24 Try.underlying41 K0.out K1.out K2.out K3.out rfl (by decide) _ _ _ rfl (World.ownsRow.alloc HVS8.out _) ⟨w8.heap.size, 0, none⟩ 1 1 [.slice A10 zs.length c10] rfl rfl ?d1 ?d2 ?d3 ?d4 ?d5 ?_)))
          case d1 => exact cell_one_new _ _ _
          case d2 => first | rfl | simp [Value.oneCell']
          case d3 => unfold maxLen; omega
          case d4 => omega
          case d5 => first | omega | (simp; omega)
          intro v9 w9 hown9 hg9 _
          have hb9 : Below w6.heap.size w6 w9 := (HB8.out.alloc hz8 _).grown hg9 (by simp; omega) (fun j hj => (HVS8.out.lt j hj).1)
          have HO9 := Lib.hid (show OwnM w9 w6.heap.size v9 ((ts.take (k + 1)).map fun x => rAt xs (bOf x)) by
            rw [HTK.out]
            refine OwnM.snoc (by rw [LK.out]; exact World.ownsRow.alloc HVS8.out (.cells #[.slice A10 zs.length c10] 25)) (fun j hj => ?_) (World.ownsRow.alloc HO8.out _) hg9 (by rw [LK.out]; exact hown9)
            obtain ⟨u, hu, ho⟩ := HIN8.out j hj
            exact ⟨u, hu, World.ownsRow.alloc ho _⟩)
          have HB9 := Lib.hid hb9
          clear hown9 hg9 hb9
          go_wp2_with fail
          go_roundw
          case rel => exact ⟨k + 1, by omega, by go_num, HO9.out, HB9.out⟩
          case measure => simp [intOf]; omega
        · obtain rfl : k = ts.length := by omega
          have hto : OwnT wr w2.heap.size (.slice A9 ts.length c9) ts := own_belowS HO6.out hbz
          rw [List.take_length] at hoz
          have HT := Lib.hid hto
          have HOZ := Lib.hid hoz
          have HBZ := Lib.hid hbz
          obtain ⟨vs, hvs, -⟩ := hoz
          obtain ⟨A7, c7, rfl⟩ := own_sl hvs
          clear hto hbz hvs
          go_wp2
          go_ret2
          exact ⟨HB6.out.trans (HBZ.out.mono hz6), ts, _, _, rfl, HSAID.out, own_monoS HT.out hz2, HOZ.out.mono hz6⟩
    · intro x c kl yd yp w4 cnt2 hkey hlk hv hat hrg2 hlt hg2 hs2 hen
      obtain ⟨x', ex, rfl, _⟩ := Maps.keyOf_str Try.underlying9 hkey
      obtain rfl : x = x' := encStr_inj ex
      have hrow2 := hrow.kept hg2 (Or.inr (row_ne_iter hrow hrg).symm)
      have hb4 : Below w2.heap.size w2 w4 := hnx.grown hg2 hz3 (fun j hj => by injection hj with hj; omega)
      have hz4 := hb4.size
      have hss : ss.length ≤ 100 := by omega
      clear hs2
      go_wp2_with (first
        | (at_builtin; go_loud (refine wpList_append_own _ rfl (.tmp 27) (.tmp 29) 40 rfl w2.heap.size 9 i0 (.string ⟨#[]⟩) 1 16 Try.underlying40 I0.out I1.out I2.out I3.out rfl (by decide) _ _ _ rfl (World.ownsRow.alloc hrow2 _) ⟨w4.heap.size, 0, none⟩ 1 1 [encStr x] rfl rfl ?c1 ?c2 ?c3 ?c4 ?c5 ?_)))
      case c2 => first | rfl | simp [Value.oneCell', encStr]
      case c3 => unfold maxLen; omega
      case c4 => omega
      case c5 => first | omega | (simp; omega)
      intro v5 w5 hown5 hg5 _
      have hrg5 := (hrg2.alloc _).kept hg5 (row_ne_low hrow2 hbl) (row_ne_iter hrow2 hrg2)
      have hb5 : Below w2.heap.size w2 w5 := (hb4.alloc hz4 _).grown hg5 (by simp; omega) (fun j hj => (hrow2.lt j hj).1)
      have HRG5 := Lib.hid hrg5
      have HB5 := Lib.hid hb5
      have HLT := Lib.hid (show wr.rangeLeft mb it > w5.rangeLeft mb it by rw [hrg5.left_eq, hrg.left_eq]; exact hlt)
      have HO5 := Lib.hid (show OwnT w5 w2.heap.size v5 (ss ++ [x]) by unfold OwnT; rw [List.length_append, List.map_append]; exact hown5)
      have HC5 := Lib.hid (hC.step hlk hat)
      clear hrg5 hb5 hown5 hg5 hrow2 hb4 hg2 hrg2 hrg hrow hC hnx hen hat hlk hkey hv
      go_wp2_with fail
      go_roundw
      case rel => exact ⟨_, cnt2, ss ++ [x], HRG5.out, by rw [List.length_append]; simp; omega, HO5.out, HC5.out, HB5.out⟩
      case measure => exact HLT.out
end Go.Proofs.Ytakigeichhngbaa
