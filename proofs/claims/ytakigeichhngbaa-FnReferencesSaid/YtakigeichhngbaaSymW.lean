import Derived.Test.YtakigeichhngbaaPlLab
import Derived.Carry
namespace Go.Proofs.Ytakigeichhngbaa
open Go.RowKit
open Go.Maps (Keyed string_keyed IsMap)
set_option linter.unusedVariables false
set_option linter.unusedSimpArgs false
theorem lt_of_blkS {w : World} {g : Nat} {o : Obj} (h : w.heap[g]? = some o) : g < w.heap.size := (Array.getElem?_eq_some_iff.1 h).1
/-- the map's datum behind k instructions: each label's index -/
structure SymD (xs : List Ins) (k : Nat) (D : DataW Unit) : Prop where
  has : ∀ s, Maps.has D (strK s) = (!noS s && decide (0 ≤ lAt (xs.take k) s))
  val : ∀ s, noS s = false → 0 ≤ lAt (xs.take k) s → ∀ z, D.atKey (strK s) z = .lit (.int .i64 (lAt (xs.take k) s))
theorem lAt_two (l : List Ins) (s : ByteArray) : lAt l s = -1 ∨ 0 ≤ lAt l s := by
  have key : ∀ (l : List Ins) (j : Nat), lAtF s j l = -1 ∨ 0 ≤ lAtF s j l := by
    intro l
    induction l with
    | nil => intro j; exact .inl rfl
    | cons a l ih =>
      intro j
      unfold lAtF
      cases sameS a.sym s
      · exact ih (j + 1)
      · exact .inr (by simp only [cond_true]; omega)
  exact key _ _
theorem lAt_skip {xs : List Ins} {k : Nat} (hk : k < xs.length) (he : noS xs[k].sym = true) (s : ByteArray) (hs : noS s = false) : lAt (xs.take (k + 1)) s = lAt (xs.take k) s := by
  rw [List.take_succ_eq_append_getElem hk, lAt_snoc, noS_ne he hs]
  rcases lAt_two (xs.take k) s with h | h
  · rw [h]; rfl
  · rw [decide_eq_true h]; rfl
theorem SymD.start (xs : List Ins) : SymD xs 0 (.map []) := ⟨fun s => by simp [lAt, lAtF, Maps.has], fun s _ h => by simp [lAt, lAtF] at h⟩
theorem SymD.skip {xs : List Ins} {k : Nat} {D : DataW Unit} (h : SymD xs k D) (hk : k < xs.length) (he : noS xs[k].sym = true) : SymD xs (k + 1) D := by
  refine ⟨fun s => ?_, fun s hs hl z => by rw [lAt_skip hk he s hs] at hl ⊢; exact h.val s hs hl z⟩
  rw [h.has s]
  cases hs : noS s
  · rw [lAt_skip hk he s hs]
  · rfl
theorem SymD.put {xs : List Ins} {k : Nat} {D : DataW Unit} (h : SymD xs k D) (hm : IsMap D) (hk : k < xs.length) (hn : noS xs[k].sym = false) (hd : lAt (xs.take k) xs[k].sym = -1) : SymD xs (k + 1) (D.put (strK xs[k].sym) (.lit (.int .i64 (k : Int)))) := by
  have hkl : ((xs.take k).length : Int) = k := by rw [List.length_take]; omega
  have e0 : ∀ s, lAt (xs.take (k + 1)) s = bif decide (0 ≤ lAt (xs.take k) s) then lAt (xs.take k) s else bif sameS xs[k].sym s then (k : Int) else -1 := fun s => by
    rw [List.take_succ_eq_append_getElem hk, lAt_snoc, hkl]
  constructor
  · intro s
    cases hq : sameS xs[k].sym s
    · rw [Maps.has_put_other (strK_ne hq), h.has s, e0 s, hq]
      cases hx : decide (0 ≤ lAt (xs.take k) s) <;> simp [hx]
    · obtain rfl := sameS_eq hq
      rw [Maps.has_put_same hm (strK_key _), e0, hq, hd, hn]
      simp
  · intro s hs hl z
    cases hq : sameS xs[k].sym s
    · rw [Maps.atKey_put_other (strK_ne hq)]
      have hx : lAt (xs.take (k + 1)) s = lAt (xs.take k) s := by
        rw [e0 s, hq] at hl ⊢
        cases hx : decide (0 ≤ lAt (xs.take k) s)
        · rw [hx] at hl; simp at hl
        · rfl
      rw [hx] at hl ⊢
      exact h.val s hs hl z
    · obtain rfl := sameS_eq hq
      rw [Maps.atKey_put_same hm (strK_key _)]
      have hx : lAt (xs.take (k + 1)) xs[k].sym = (k : Int) := by rw [e0, hq, hd]; simp
      rw [hx]
/-- what is kept under the keys, read back -/
theorem symI_metas (i : Ins) : symOf i.metas = i.sym ∧ refOf i.metas = i.ref := by
  unfold symOf refOf getL Ins.metas
  cases hr : i.ref.toList.isEmpty <;> cases hs : i.sym.toList.isEmpty
  · exact ⟨rfl, rfl⟩
  · rw [empty_bytes hs]; exact ⟨rfl, rfl⟩
  · rw [empty_bytes hr]; exact ⟨rfl, rfl⟩
  · rw [empty_bytes hs, empty_bytes hr]; exact ⟨rfl, rfl⟩
theorem metasI_len (i : Ins) : i.metas.length ≤ 2 := by
  unfold Ins.metas
  cases i.ref.toList.isEmpty <;> cases i.sym.toList.isEmpty <;> simp
theorem symI_law : Keyed Try.prog 9 := string_keyed Try.underlying9
theorem zero_int (w : World) : (zeroValue 3).run Try.prog w = .ok (.int .i64 0) w := by kernel_rfl
theorem strI_key {s : ByteArray} (hs : s.size ≤ maxLen) : keyOf Try.prog 9 (.string s) = some (strK s) := WideMaps.keyOf_string_mk Try.underlying9 hs
abbrev ownN (w : World) (b n : Nat) (D : DataW Unit) : Prop := w.ownsMap Try.prog 9 (plainElem Try.prog 3) b n D
theorem symI_is (i : Ins) (p : Option Addr) (W : World) (hm : MetaList W p i.metas) : Calls Try.prog 132 #[.agg #[.int .u32 i.op, .int .u8 i.dst, .int .u8 i.src, .int .i16 i.off, .int .i64 i.c, .pointer p]] W
    fun e w' => e = .returned (.string i.sym) ∧ W.alloc (.cells #[.int .u32 i.op, .int .u8 i.dst, .int .u8 i.src, .int .i16 i.off, .int .i64 i.c, .pointer p] 112) = w' := by
  have := Symbol_c i.op i.dst i.src i.off i.c p i.metas W hm (metasI_len i)
  rw [show (getL 152 i.metas).getD ⟨#[]⟩ = i.sym from (symI_metas i).1] at this
  exact this
/-- the instructions lie in block g with their metadata -/
def InsN (w : World) (g : Nat) (l : List Ins) : Prop := ∀ j (hj : j < l.length), ∃ p, InstrAt w g (j * 6) l[j] p ∧ MetaList w p l[j].metas
abbrev rowJ (i : Ins) (p : Option Addr) : Obj := .cells #[.int .u32 i.op, .int .u8 i.dst, .int .u8 i.src, .int .i16 i.off, .int .i64 i.c, .pointer p] 112
theorem errNew_c (s : ByteArray) (w : World) : Calls Try.prog 133 #[.string s] w fun e w' => (∃ p, e = .returned (.iface 153 (.pointer (some p)))) ∧ Below w.heap.size w w' := by
  go_enter Try.func133, Try.ntmps133
  go_wp2
  go_ret
  exact ⟨⟨_, rfl⟩, (Below.refl _ _).alloc (Nat.le_refl _) _⟩
theorem alloc_belowJ {Y y3 : World} {X : Obj} (h : Y.alloc X = y3) : Below Y.heap.size Y y3 := by rw [← h]; exact (Below.refl _ _).alloc (Nat.le_refl _) _
def SymEnd (w : World) (l : List Ins) (e : Ending) (w' : World) : Prop :=
  Below w.heap.size w w' ∧ ((∃ (mb : Nat) (D : DataW Unit), e = .returned (.tuple #[.map (some mb), .nilIface]) ∧ w.heap.size ≤ mb ∧ ownN w' mb l.length D ∧ SymD l l.length D ∧ ∀ k (hk : k < l.length), noS l[k].sym = false → lAt (l.take k) l[k].sym = -1) ∨
    (∃ p, e = .returned (.tuple #[.map none, .iface 153 (.pointer (some p))])) ∧ ∃ k, ∃ hk : k < l.length, noS l[k].sym = false ∧ 0 ≤ lAt (l.take k) l[k].sym)
set_option maxRecDepth 100000 in
theorem SymOffs_nil (a : Option Addr) (c : Nat) (w : World) : Calls Try.prog 108 #[.slice a 0 c] w (SymEnd w []) := by
  have hmm := @run_makeMap Try.prog
  go_enter Try.func108, Try.ntmps108
  go_wp2_with fail
  refine wp_loop_rounds 1 ?_
  rw [rounds_succ]
  go_wp2
  go_ret2
  exact ⟨(Below.refl _ _).alloc (Nat.le_refl _) _, .inl ⟨_, .map [], rfl, Nat.le_refl _, World.ownsMap_made _ _ _ _, SymD.start [], fun k hk => absurd hk (by simp)⟩⟩
set_option maxRecDepth 100000 in
set_option maxHeartbeats 4000000 in
theorem SymOffs_c (g n cap : Nat) (l : List Ins) (w : World) (hl : l.length = n) (hn : n ≤ 400) (hc : n ≤ cap) (hg : g < w.heap.size) (hi : InsN w g l) (hsz : ∀ i ∈ l, i.sym.size ≤ maxLen) :
    Calls Try.prog 108 #[.slice (some ⟨g, 0, none⟩) n cap] w (SymEnd w l) := by
  have hmm := @run_makeMap Try.prog
  have L := Lib.hid hl
  have HI := Lib.hid hi
  have HSZ := Lib.hid hsz
  have M0 : ownN (w.alloc (Obj.map #[] 0)) w.heap.size 0 (.map []) := World.ownsMap_made _ _ _ _
  have M0 := Lib.hid M0
  clear hl hi hsz
  go_enter Try.func108, Try.ntmps108
  go_wp2_with fail
  obtain ⟨mb, hmb⟩ : ∃ b, b = w.heap.size := ⟨_, rfl⟩
  rw [← hmb] at M0 ⊢
  have hmb1 : w.heap.size ≤ mb := by omega
  clear hmb
  go_loopw [12] (fun i wr => ∃ (k : Nat) (D : DataW Unit), k ≤ n ∧ i = .int .i64 k ∧ Below w.heap.size w wr ∧ ownN wr mb k D ∧ SymD l k D ∧ Hid (∀ q (hq : q < l.length), q < k → noS l[q].sym = false → lAt (l.take q) l[q].sym = -1)) (fun i _ => n - (intOf i).toNat)
  case atStart => exact ⟨0, .map [], Nat.zero_le _, rfl, (Below.refl _ _).alloc (Nat.le_refl _) _, M0.out, SymD.start l, fun q hq h0 => absurd h0 (Nat.not_lt_zero q)⟩
  case round =>
    obtain ⟨k, D, hk, rfl, hb, hown, hsd, hall⟩ := hrel
    have HB := Lib.hid hb
    have HOWN := Lib.hid hown
    have HSD := Lib.hid hsd
    clear hb hown hsd
    by_cases hk' : k < n
    · have hkl : k < l.length := by rw [L.out]; exact hk'
      obtain ⟨iv, hiv⟩ : ∃ i, i = l[k] := ⟨_, rfl⟩
      have HIV := Lib.hid hiv
      obtain ⟨p, hz0, hm0⟩ := HI.out k hkl
      have hz := hz0.keep HB.out hg
      have hm1 := hm0.keep HB.out
      rw [← hiv] at hz hm1
      have hs20 : iv.sym.size ≤ maxLen := by rw [hiv]; exact HSZ.out _ (List.getElem_mem _)
      clear hiv hz0 hm0
      obtain ⟨z0, z1, z2, z3, z4, z5⟩ := hz
      have SY := Lib.hid fun (W : World) (hb : Below wr.heap.size wr W) => symI_is iv p W (hm1.keep hb)
      have hgw : g < wr.heap.size := Nat.lt_of_lt_of_le hg HB.out.size
      have hzw := HB.out.size
      have HBA := Lib.hid ((Below.refl wr.heap.size wr).alloc (Nat.le_refl _) (rowJ iv p))
      clear hm1
      go_wp2_with fail
      refine (SY.out _ HBA.out).mono ?_
      rintro e y2 ⟨rfl, hw2⟩
      have hb2 : Below wr.heap.size wr y2 := HBA.out.trans ((alloc_belowJ hw2).mono (by simp))
      have hx2 : y2.heap[wr.heap.size]? = some (rowJ iv p) := by rw [← hw2]; exact (Below.heap_alloc _ _ _ (by simp)).trans (heap_alloc_new wr _)
      have hlx2 := lt_of_blkS hx2
      have hown2 : ownN y2 mb k D := World.ownsMap.kept (row := none) HOWN.out ⟨hb2.os, hb2.tape, hb2.output, hb2.size, fun k hk _ => hb2.block k hk⟩ (by simp)
      obtain ⟨x0, x1, x2, x3, x4, x5, -⟩ := cells6 hx2
      have HB2 := Lib.hid hb2
      have HX2 := Lib.hid hx2
      have HOWN2 := Lib.hid hown2
      have HBW2 := Lib.hid (HB.out.trans (hb2.mono hzw))
      clear hw2 hb2 hx2 hown2 z0 z1 z2 z3 z4 z5
      cases hsn : iv.sym.toList.isEmpty
      · go_wp2_with fail
        refine (SY.out _ HB2.out).mono ?_
        rintro e y3 ⟨rfl, hw3⟩
        have hb23 := alloc_belowJ hw3
        have hb3 : Below wr.heap.size wr y3 := HB2.out.trans (hb23.mono HB2.out.size)
        have hx3 := (hb23.block _ hlx2).trans HX2.out
        have hlx3 := lt_of_blkS hx3
        obtain ⟨v0, v1, v2, v3, v4, v5, -⟩ := cells6 hx3
        have hown3 : ownN y3 mb k D := World.ownsMap.kept (row := none) HOWN2.out ⟨hb23.os, hb23.tape, hb23.output, hb23.size, fun k hk _ => hb23.block k hk⟩ (by simp)
        obtain ⟨lv, lps, hlk, -⟩ := hown3.look_ok symI_law Try.underlying133 (zero_int y3) (plainElem_int Try.underlying3 (by decide)) (strI_key hs20)
        rw [HSD.out.has, show noS iv.sym = false from hsn] at hlk
        simp only [Bool.not_false, Bool.true_and] at hlk
        have HB3 := Lib.hid hb3
        have HX3 := Lib.hid hx3
        have HOWN3 := Lib.hid hown3
        have HBW3 := Lib.hid (HB.out.trans (hb3.mono hzw))
        clear hw3 hb23 hb3 hx3 hown3 x0 x1 x2 x3 x4 x5
        rcases lAt_two (l.take k) iv.sym with hq | hq
        · have HQ := Lib.hid hq
          rw [show decide (0 ≤ lAt (l.take k) iv.sym) = false by rw [hq]; rfl] at hlk
          clear hq
          go_wp2_with fail
          refine (SY.out _ HB3.out).mono ?_
          rintro e y4 ⟨rfl, hw4⟩
          have hb34 := alloc_belowJ hw4
          have hb4 : Below wr.heap.size wr y4 := HB3.out.trans (hb34.mono HB3.out.size)
          have hown4 : ownN y4 mb k D := World.ownsMap.kept (row := none) HOWN3.out ⟨hb34.os, hb34.tape, hb34.output, hb34.size, fun k hk _ => hb34.block k hk⟩ (by simp)
          have hwf : (Lit.int .i64 (k : Int)).wf = true := by simp [Lit.wf, IntKind.min, IntKind.max, IntKind.bits, IntKind.signed]; omega
          obtain ⟨y5, hup, hown5, hg5⟩ := World.ownsMap.update hown4 symI_law Try.underlying133 (by unfold maxLen; omega) (strI_key hs20) (plainElem_int Try.underlying3 hwf)
          have hb5 : Below w.heap.size w y5 := (HB.out.trans (hb4.mono hzw)).grown hg5 (by have := hb4.size; omega) (fun b he => by injection he with he; omega)
          have HOWN5 := Lib.hid hown5
          have HB5 := Lib.hid hb5
          clear hw4 hb34 hb4 hown4 hown5 hg5 hb5 hlk v0 v1 v2 v3 v4 v5
          go_wp2_with fail
          go_roundw
          case rel => exact ⟨k + 1, _, by omega, by go_num, HB5.out, HOWN5.out, by
            have := HSD.out.put HOWN.out.isMap hkl (by rw [← HIV.out]; exact hsn) (by rw [← HIV.out]; exact HQ.out)
            rw [← HIV.out] at this
            exact this, fun q hq hlt hn => by
            by_cases hqk : q = k
            · subst hqk; rw [← HIV.out]; exact HQ.out
            · exact hall.out q hq (by omega) hn⟩
          case measure => simp [intOf]; omega
        · have HQ := Lib.hid hq
          rw [decide_eq_true hq] at hlk
          clear hq v0 v1 v2 v3 v4 v5
          go_wp2_with fail
          refine (errNew_c _ _).mono ?_
          rintro e y4 ⟨⟨p4, rfl⟩, hb4⟩
          have HB4 := Lib.hid (HBW3.out.trans (hb4.mono HBW3.out.size))
          clear hb4 hlk
          go_wp2
          go_ret2
          exact ⟨HB4.out, .inr ⟨⟨_, rfl⟩, k, hkl, by rw [← HIV.out]; exact hsn, by rw [← HIV.out]; exact HQ.out⟩⟩
      · go_wp2_with fail
        go_roundw
        case rel => exact ⟨k + 1, D, by omega, by go_num, HBW2.out, HOWN2.out.mono (Nat.le_succ _), HSD.out.skip hkl (by rw [← HIV.out]; exact hsn), fun q hq hlt hn => by
          by_cases hqk : q = k
          · subst hqk; rw [← HIV.out, show noS iv.sym = true from hsn] at hn; cases hn
          · exact hall.out q hq (by omega) hn⟩
        case measure => simp [intOf]; omega
    · obtain rfl : k = n := by omega
      have hL := L.out
      go_wp2
      go_ret2
      exact ⟨HB.out, .inl ⟨mb, D, rfl, hmb1, by rw [hL]; exact HOWN.out, by rw [hL]; exact HSD.out, fun q hq hn => hall.out q hq (by omega) hn⟩⟩
end Go.Proofs.Ytakigeichhngbaa
