import Derived.Test.YtakigeichhngbaaItState
import Derived.Test.YtakigeichhngbaaSizeW
import Derived.Deep.LoopGhost
import Derived.Test.YtakigeichhngbaaOwn
namespace Go.Proofs.Ytakigeichhngbaa
open Go.RowKit
set_option linter.unusedVariables false
set_option linter.unusedSimpArgs false

def OffEnd (l : List Ins) (e : Ending) (w' : World) : Prop := ∃ A c, e = .returned (.slice A l.length c) ∧ RowAt w' A l.length 1 (fun j => (offs l l.length).getD j undef)
def OffRel (w : World) (B it g n cap : Nat) (l : List Ins) (cur : Array Value) (gk : Nat) (v : Value) (wr : World) : Prop :=
  ∃ k, gk = n - k ∧ k ≤ n ∧ wr.ownsRow B 3 1 v k (offs l k) ∧ ItState wr it g n cap l k ∧ wr.heap[g]? = some (.cells cur 112 (0, 0)) ∧ Below B w wr
theorem ItState.type {w : World} {it g n cap : Nat} {l : List Ins} {k : Nat} (h : ItState w it g n cap l k) : ∃ d f, w.heap[it]? = some (.cells d 98 f) := by
  obtain ⟨q, hq, h | h⟩ := h
  · exact ⟨_, _, h.2⟩
  · exact ⟨_, _, h.2⟩
set_option maxHeartbeats 1000000 in
theorem Offsets_c (A : Option Addr) (n cap : Nat) (xs : List Ins) (w : World) (h : InsAt w A n xs) (hn : n ≤ 400) (hf : ∀ i ∈ xs, i.Fits) :
    Calls Try.prog 22 #[.slice A n cap] w fun e w' => OffEnd xs e w' ∧ Below w.heap.size w w' := by
  have hl := h.1
  have L := Lib.hid hl
  clear hl
  go_enter Try.func22, Try.ntmps22
  go_wp2_with fail
  refine (all_c A n cap xs _ h (by omega) hf).mono ?_
  rintro e w1 ⟨⟨v, rfl, hv⟩, hb1⟩
  rcases Nat.eq_zero_or_pos xs.length with h0 | h0
  · have hx : xs = [] := List.eq_nil_of_length_eq_zero h0
    subst hx
    obtain ⟨ps, hps, ho, _⟩ := hv
    obtain ⟨a, c, rfl⟩ : ∃ a c, v = .slice a 0 c := by
      rcases ho.2 with ⟨rfl, _⟩ | ⟨g, cap, cur, rfl, _⟩
      · exact ⟨_, _, rfl⟩
      · exact ⟨_, _, rfl⟩
    clear ho
    go_wp2_with fail
    refine (Iterate_c _ _ ⟨_, _, _, rfl⟩).mono ?_
    rintro e w2 ⟨rfl, rfl⟩
    go_wp2_with fail
    refine wp_loop_rounds 1 ?_
    rw [rounds_succ]
    go_wp2_with fail
    refine (Next_end _ a c none 0 0 _ (heap_alloc_new w1 _)).mono ?_
    rintro e w3 ⟨rfl, rfl⟩
    go_wp2
    go_ret
    exact ⟨⟨none, 0, rfl, .inl rfl⟩, hb1.alloc hb1.size _⟩
  · obtain ⟨g, cp, rfl, hc, hB, ⟨cur, hcur⟩, hi⟩ := hv.opened h0
    have HI := Lib.hid hi
    have HC := Lib.hid hcur
    have hg := lt_of_heap hcur
    rw [L.out] at hc h0 ⊢
    clear hi hcur hv h
    go_wp2_with fail
    refine (Iterate_c _ _ ⟨_, _, _, rfl⟩).mono ?_
    rintro e w2 ⟨rfl, rfl⟩
    go_wp2_with fail
    have IT0 : ItState (w1.alloc (.cells #[.slice (some ⟨g, 0, none⟩) n cp, .pointer none, .int .i64 0, .int .u64 0] 98)) w1.heap.size g n cp xs 0 := ⟨0, fun _ => rfl, .inl ⟨rfl, heap_alloc_new w1 _⟩⟩
    have R0 := Lib.hid (show OffRel w w.heap.size w1.heap.size g n cp xs cur n (.slice none 0 0) (w1.alloc (.cells #[.slice (some ⟨g, 0, none⟩) n cp, .pointer none, .int .i64 0, .int .u64 0] 98)) from
      ⟨0, rfl, Nat.zero_le _, World.ownsRow_nil _ _ _ _, IT0, (Below.heap_alloc w1 _ g hg).trans HC.out, hb1.alloc hb1.size _⟩)
    obtain ⟨it, hit⟩ : ∃ it, it = w1.heap.size := ⟨_, rfl⟩
    have hit0 : w.heap.size ≤ it := by rw [hit]; exact hb1.size
    have hgi : g ≠ it := by rw [hit]; omega
    rw [← hit] at R0 ⊢
    clear IT0 hit hg hB
    obtain ⟨i0, hi0, hz0, hz1, hz2⟩ := info_parts int_info
    have S0 := Lib.hid hi0
    have S := Lib.hid hz0
    have S1 := Lib.hid hz1
    have S2 := Lib.hid hz2
    clear hi0 hz0 hz1 hz2
    have OPS : ∀ j (hj : j < xs.length), cur[j * 6]? = some (.int .u32 xs[j].op) := fun j hj => by
      obtain ⟨p, hp, _⟩ := HI.out j hj
      have := hp.1
      rwa [cell_of_row _ _ _ _ _ _ HC.out] at this
    have OP := Lib.hid OPS
    clear OPS
    go_loopg [5] n (fun gk v wr => OffRel w w.heap.size it g n cp xs cur gk v wr)
    case atStart => exact R0.out
    case round =>
      obtain ⟨k, hgk, hk, ho, hst, hcur, hb⟩ := hrel
      have hcells : ∀ j (hj : j < xs.length), wr.cell? ⟨g, j * 6, none⟩ = some (.int .u32 xs[j].op) := fun j hj => by
        rw [cell_of_row _ _ _ _ _ _ hcur]; exact OP.out j hj
      have HO := Lib.hid ho
      have HST := Lib.hid hst
      have HCU := Lib.hid hcur
      have HCE := Lib.hid hcells
      have HGK := Lib.hid hgk
      clear ho hst hcur hcells hgk
      by_cases hk' : k < n
      · go_wp2_with fail
        refine (Next_step it g cp n xs k _ HST.out L.out hn hc hk' hgi HCE.out).mono ?_
        rintro e w2 ⟨rfl, hst2, hg2⟩
        obtain ⟨q1, q2, q3⟩ := hst2.at_
        have HST2 := Lib.hid hst2
        have hb2 : Below w.heap.size w w2 := hb.grown hg2 hb.size (fun b he => by injection he with he; omega)
        have HO2 := Lib.hid (HO.out.kept hg2 (.inr (by obtain ⟨d, f, hd⟩ := HST.out.type; exact own_other HO.out hd (by decide))))
        have HC2 := Lib.hid ((hg2.block g (lt_of_heap HCU.out) (fun he => hgi (by injection he))).trans HCU.out)
        have hz2 := hb2.size
        have sb := sumRaw_bd (xs.take k)
        obtain ⟨sb0, sb1⟩ := sb
        have hlen : (xs.take k).length ≤ k := List.length_take_le _ _
        obtain ⟨s, hs⟩ : ∃ s, s = sumRaw (xs.take k) := ⟨_, rfl⟩
        rw [← hs] at sb0 sb1 q3
        have HS := Lib.hid hs
        have sb2 : s ≤ 1000 := by omega
        clear hs sb1 hlen hg2 hst2
        go_wp2_with (first | (at_builtin; refine wpList_append_own _ rfl (.tmp 18) (.tmp 24) 25 rfl w.heap.size 3 i0 (.int .i64 0) 1 8 Try.underlying25 S0.out S.out S1.out S2.out rfl (by decide) _ k _ rfl (HO2.out.alloc _) ⟨w2.heap.size, 0, none⟩ 1 1 [.int .i64 s] rfl rfl ?c1 ?c2 ?c3 ?c4 ?c5 ?_))
        case c1 =>
          intro j u hj
          match j, hj with
          | 0, hj => simp at hj; subst hj; simp [Addr.add]
        case c2 => intro u hu; simp at hu; subst hu; rfl
        case c3 => unfold maxLen; omega
        case c4 => omega
        case c5 => simp; omega
        intro v2 w3 ho3 hg3 _
        have hb3 : Below w.heap.size w w3 := (hb2.alloc hz2 _).grown hg3 (by simp; omega) (fun b he => (HO2.out.lt b he).1)
        have R := Lib.hid (show OffRel w w.heap.size it g n cp xs cur (n - (k + 1)) v2 w3 from
          ⟨k + 1, rfl, by omega, by rw [offs_snoc, ← HS.out]; exact ho3, by
            obtain ⟨d, f, hd⟩ := HST2.out.type
            exact HST2.out.of_block ((hg3.block it (by have := HST2.out.lt; simp; omega) (fun he => own_other HO2.out hd (by decide) he.symm)).trans (Below.heap_alloc w2 _ it HST2.out.lt)),
            (hg3.block g (by have := lt_of_heap HC2.out; simp; omega) (fun he => own_other HO2.out HC2.out (by decide) he.symm)).trans ((Below.heap_alloc w2 _ g (lt_of_heap HC2.out)).trans HC2.out), hb3⟩)
        clear ho3 hg3
        go_wp2
        go_roundg (n - (k + 1))
        case rel => exact R.out
        case measure => rw [HGK.out]; omega
      · obtain rfl : k = n := by omega
        go_wp2_with fail
        refine (Next_done it g cp _ xs _ HST.out).mono ?_
        rintro e w2 ⟨rfl, rfl⟩
        obtain ⟨A2, c2, hv, hr⟩ := own_rowAt HO.out
        have HR := Lib.hid hr
        subst hv
        clear hr
        go_wp2
        go_ret
        exact ⟨⟨A2, c2, by rw [L.out]; rfl, by rw [L.out]; exact HR.out⟩, hb⟩
end Go.Proofs.Ytakigeichhngbaa
