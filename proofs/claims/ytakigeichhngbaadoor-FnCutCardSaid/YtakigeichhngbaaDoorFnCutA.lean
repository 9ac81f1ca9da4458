import Derived.Test.YtakigeichhngbaaDoorUnmI
import Derived.Test.YtakigeichhngbaaDoorOkProg
import Derived.Test.YtakigeichhngbaaDoorOpenB
import Derived.Test.YtakigeichhngbaaDoorOpenL
namespace Go.Proofs.YtakigeichhngbaaDoor
open Go.RowKit
set_option linter.unusedVariables false
set_option linter.unusedSimpArgs false

def CBd (i : Ins) : Prop := -9223372036854775808 ≤ i.c ∧ i.c ≤ 9223372036854775807
theorem enc_byte (big : Bool) (i : Ins) (h : OkF i) : ∀ b ∈ enc big i, isByte b := by
  have h2 : ∀ x : Int, ∀ b ∈ pb2 big x, isByte b := by
    intro x b hb
    cases big <;> simp [pb2] at hb <;> rcases hb with rfl | rfl <;> exact ⟨by omega, by omega⟩
  have h4 : ∀ x : Int, ∀ b ∈ pb4 big x, isByte b := by
    intro x b hb
    cases big <;> simp [pb4] at hb <;> rcases hb with rfl | rfl | rfl | rfl <;> exact ⟨by omega, by omega⟩
  have hr := (reg_enc big i.dst i.src h.dst.1 h.dst.2 h.src.1 h.src.2).1
  intro b hb
  unfold enc at hb
  rcases List.mem_append.1 hb with hb | hb
  · simp only [enc8, List.mem_cons, List.mem_append] at hb
    rcases hb with rfl | rfl | hb | hb
    · exact ⟨by omega, by omega⟩
    · exact hr
    · exact h2 _ _ hb
    · exact h4 _ _ hb
  · cases h24 : (i.op == 24)
    · rw [h24] at hb; simp at hb
    · rw [h24] at hb
      simp only [cond_true, List.mem_cons] at hb
      rcases hb with rfl | rfl | rfl | rfl | hb
      · exact ⟨by omega, by omega⟩
      · exact ⟨by omega, by omega⟩
      · exact ⟨by omega, by omega⟩
      · exact ⟨by omega, by omega⟩
      · exact h4 _ _ hb
theorem encs_byte (big : Bool) (l : List Ins) (h : ∀ i ∈ l, OkF i) : ∀ b ∈ encs big l, isByte b := by
  intro b hb
  obtain ⟨i, hi, hb⟩ := List.mem_flatMap.1 hb
  exact enc_byte big i (h i hi) b hb
/-- a row of the call's own, as bytes to read -/
theorem OwnB.bytes {w : World} {B : Nat} {A : Option Addr} {n c : Nat} {bs : List Int} (h : OwnB w B (.slice A n c) bs) (hb : ∀ b ∈ bs, isByte b) (m : Nat) (hm : m ≤ bs.length) : BytesAt w A (bs.take m) ∧ n = bs.length ∧ n ≤ c := by
  have hb' : ∀ b ∈ bs.take m, isByte b := fun b hm => hb b (List.mem_of_mem_take hm)
  rcases h.2 with ⟨e, h0⟩ | ⟨g, cap, cur, e, hg, hh, hc, _⟩
  · injection e with e1 e2 e3
    have hnil : bs = [] := List.eq_nil_of_length_eq_zero h0
    subst hnil
    exact ⟨⟨hb', .inl (by simp)⟩, by rw [e2]; rfl, by omega⟩
  · injection e with e1 e2 e3
    subst e1 e2 e3
    refine ⟨⟨hb', .inr ⟨g, 0, rfl, lt_of_blk hh, fun j v hj => ?_⟩⟩, rfl, hc⟩
    have hj2 : (u8s bs)[j]? = some v := by
      by_cases hjm : j < m
      · simpa [u8s, List.getElem?_take, hjm] using hj
      · simp [u8s, List.getElem?_take, hjm] at hj
    have := h.cells (g := g) rfl j v hj2
    rwa [add_off] at this
theorem encs_len_ge (big : Bool) (l : List Ins) : 8 * l.length ≤ (encs big l).length := by
  induction l with
  | nil => simp [encs]
  | cons i l ih =>
    have e : encs big (i :: l) = enc big i ++ encs big l := by simp [encs]
    have : 8 ≤ (enc big i).length := by rw [enc_len]; cases i.op == 24 <;> simp
    rw [e, List.length_append, List.length_cons]
    omega
theorem progOk_ok {xs : List Ins} (h : progOk xs = true) : xs.length ≤ 60 ∧ ∀ i ∈ xs, OkF i := by
  simp only [progOk, Bool.and_eq_true, decide_eq_true_eq, List.all_eq_true] at h
  exact ⟨h.1, fun i hi => okF (h.2 i hi)⟩
theorem encs_app (big : Bool) (a b : List Ins) : encs big (a ++ b) = encs big a ++ encs big b := by simp [encs]
set_option maxHeartbeats 1000000 in
theorem fnCut_all (big : Bool) (A : Option Addr) (n cap : Nat) (xs : List Ins) (y : Nat) (w : World) (E U : Addr) (h : InsAt w A n xs) (hn : n ≤ maxLen) (hcb : ∀ i ∈ xs, CBd i) (hy : y ≤ 255)
    (he : EofIn w E U) (hg2 : 2 < w.heap.size) (hg5 : 5 < w.heap.size) (hE : E.block < w.heap.size) (hU : U.block < w.heap.size) :
    Calls Tryd.prog 5 #[.slice A n cap, .bool big, .int .u8 (y : Int)] w fun e w' => e = .returned (.bool true) ∧ Below w.heap.size w w' := by
  have hn63 : n ≤ 9223372036854775807 := hn
  cases hz : (decide (n ≤ 2147483647) && xs.all fun i => zzIns i.sym i.ref)
  · have Z := Lib.hid (zzFits1_c A n cap xs w h hn63)
    rw [hz] at Z
    clear hz h hn hn63 he hcb
    go_enter Tryd.func5, Tryd.ntmps5
    go_wp2_with fail
    refine Z.out.mono ?_
    rintro e w1 ⟨rfl, hb1⟩
    have HB := Lib.hid hb1
    clear hb1
    go_wp2
    go_ret
    exact ⟨rfl, HB.out⟩
  · have hn31 : n ≤ 2147483647 := by simp only [Bool.and_eq_true, decide_eq_true_eq] at hz; exact hz.1
    cases hp : progOk xs
    · have Z := Lib.hid (zzFits1_c A n cap xs w h hn63)
      rw [hz] at Z
      have P := Lib.hid fun (W : World) (hb : Below w.heap.size w W) => programOk_c A n cap xs W (h.keep hb) hn31
      rw [hp] at P
      clear hz hp h hn hn63 he hcb
      go_enter Tryd.func5, Tryd.ntmps5
      go_wp2_with fail
      refine Z.out.mono ?_
      rintro e w1 ⟨rfl, hb1⟩
      have HB := Lib.hid hb1
      have hz1 := hb1.size
      have P1 := Lib.hid (P.out w1 hb1)
      clear hb1 P Z
      go_wp2_with fail
      refine P1.out.mono ?_
      rintro e w2 ⟨rfl, hb2⟩
      have HB2 := Lib.hid (HB.out.trans (hb2.mono hz1))
      clear hb2
      go_wp2
      go_ret
      exact ⟨rfl, HB2.out⟩
    · have Z := Lib.hid (zzFits1_c A n cap xs w h hn63)
      rw [hz] at Z
      have P := Lib.hid fun (W : World) (hb : Below w.heap.size w W) => programOk_c A n cap xs W (h.keep hb) hn31
      rw [hp] at P
      obtain ⟨hl60, hok⟩ := progOk_ok hp
      have hln := h.1
      rcases Nat.eq_zero_or_pos n with h0 | h0
      · subst h0
        clear hz hp h hn hn63 he hcb
        go_enter Tryd.func5, Tryd.ntmps5
        go_wp2_with fail
        refine Z.out.mono ?_
        rintro e w1 ⟨rfl, hb1⟩
        have HB := Lib.hid hb1
        have hz1 := hb1.size
        have P1 := Lib.hid (P.out w1 hb1)
        clear hb1 P Z
        go_wp2_with fail
        refine P1.out.mono ?_
        rintro e w2 ⟨rfl, hb2⟩
        have HB2 := Lib.hid (HB.out.trans (hb2.mono hz1))
        clear hb2
        go_wp2
        go_ret
        exact ⟨rfl, HB2.out⟩
      · obtain ⟨k, hk⟩ : ∃ k, k = 1 + y % 7 := ⟨_, rfl⟩
        have W1 := Lib.hid fun (W : World) (hb : Below w.heap.size w W) => Written_c big A n cap xs W (h.keep hb) (by omega) hok
        have hnz : ((n : Int) == 0) = false := by simp; omega
        have HEO := Lib.hid he
        have HOK := Lib.hid hok
        have HCB := Lib.hid hcb
        have HLN := Lib.hid hln
        have HK := Lib.hid hk
        clear hz hp h hn hn63 he hcb hok hln hk
        go_enter Tryd.func5, Tryd.ntmps5
        go_wp2_with fail
        refine Z.out.mono ?_
        rintro e w1 ⟨rfl, hb1⟩
        have HB := Lib.hid hb1
        have hz1 := hb1.size
        have P1 := Lib.hid (P.out w1 hb1)
        clear hb1 P Z
        go_wp2_with fail
        refine P1.out.mono ?_
        rintro e w2 ⟨rfl, hb2⟩
        have hbw2 := HB.out.trans (hb2.mono hz1)
        have HB2 := Lib.hid hbw2
        have W2 := Lib.hid (W1.out w2 hbw2)
        have hz2 := hbw2.size
        clear hb2 hbw2 W1 P1 HB
        go_wp2_with fail
        refine W2.out.mono ?_
        rintro e w3 ⟨v3, rfl, hv3, hb3⟩
        obtain ⟨A3, n3, c3, rfl, hn3⟩ := hv3.slice
        have hby := encs_byte big xs HOK.out
        obtain ⟨-, hn3', hc3⟩ := hv3.bytes hby 0 (Nat.zero_le _)
        have hlo := encs_len_ge big xs
        have hhi := encs_len_le big xs
        have hln := HLN.out
        have l3 : 8 ≤ n3 := by omega
        have u3 : n3 ≤ 16000 := by omega
        have i3 : (n3 : Int) ≤ (c3 : Int) := by omega
        have HN3 := Lib.hid hn3'
        have hb3w := HB2.out.trans (hb3.mono hz2)
        have HB3 := Lib.hid hb3w
        have HV3 := Lib.hid hv3
        have hz3 := hb3w.size
        clear hlo hhi hln hn3 hn3' hb3 hb3w hv3 hby W2
        obtain ⟨pre, last, hxs⟩ : ∃ pre last, xs = pre ++ [last] := by
          have hne : xs ≠ [] := fun h => by
            have := HLN.out
            rw [h] at this
            simp at this
            omega
          exact ⟨xs.dropLast, xs.getLast hne, (List.dropLast_concat_getLast hne).symm⟩
        have hby := encs_byte big xs HOK.out
        have hmod : y % 7 < 7 := Nat.mod_lt _ (by omega)
        have B1 := (HV3.out.bytes hby (n3 - (1 + y % 7)) (by have := HN3.out; omega)).1
        have B2 := (HV3.out.bytes hby n3 (by have := HN3.out; omega)).1
        have e2 : (encs big xs).take n3 = encs big xs := List.take_of_length_le (by have := HN3.out; omega)
        rw [e2] at B2
        have hle := enc_len big last
        have hl8 : 8 ≤ (enc big last).length := by rw [hle]; cases last.op == 24 <;> simp
        have hn3s : n3 = (encs big pre).length + (enc big last).length := by
          rw [HN3.out, hxs, encs_app, List.length_append]
          simp [encs]
        have e1 : (encs big xs).take (n3 - (1 + y % 7)) = encs big pre ++ (enc big last).take ((enc big last).length - (1 + y % 7)) := by
          have e0 : encs big xs = encs big pre ++ enc big last := by rw [hxs, encs_app]; simp [encs]
          rw [e0, List.take_append, List.take_of_length_le (by omega)]
          congr 2
          omega
        rw [e1] at B1
        have hkp : ∀ i ∈ pre, OkF i ∧ -9223372036854775808 ≤ i.c ∧ i.c ≤ 9223372036854775807 := fun i hi => ⟨HOK.out i (by rw [hxs]; simp [hi]), HCB.out i (by rw [hxs]; simp [hi])⟩
        have hka : ∀ i ∈ xs, OkF i ∧ -9223372036854775808 ≤ i.c ∧ i.c ≤ 9223372036854775807 := fun i hi => ⟨HOK.out i hi, HCB.out i hi⟩
        have heo3 := HEO.out.keep HB3.out hg2 hg5 hE hU
        have hpl : pre.length ≤ 60 := by rw [hxs, List.length_append] at hl60; omega
        have BAD := Lib.hid (UnmI_bad big A3 (n3 - (1 + y % 7)) c3 pre _ w3 E U B1 (by rw [List.length_append, List.length_take]; omega) (by omega) hkp (by omega) heo3 (by omega) (by omega) (by omega) (by omega)
          fun g X W s hg hs hX hgX hEo => unm_cut big last (1 + y % 7) (by omega) (by omega) E U g X W s hs hX hgX hEo (by omega) (by omega) (by omega) (by omega))
        have OK := Lib.hid fun (W : World) (hb : Below w3.heap.size w3 W) => UnmI_ok big A3 n3 c3 xs W E U (B2.keep hb) HN3.out.symm hka (by omega) (heo3.keep hb (by omega) (by omega) (by omega) (by omega)) (by have := hb.size; omega) (by have := hb.size; omega) (by have := hb.size; omega) (by have := hb.size; omega)
        clear hxs hby B1 B2 e1 e2 hle hl8 hn3s hkp hka heo3 hpl HV3
        go_wp2_with fail
        refine BAD.out.mono ?_
        rintro e w4 ⟨rfl, hb4⟩
        have OK4 := Lib.hid (OK.out w4 hb4)
        have hz4 := hb4.size
        have HB4 := Lib.hid (HB3.out.trans (hb4.mono hz3))
        clear hb4 OK BAD
        go_wp2_with fail
        refine OK4.out.mono ?_
        rintro e w5 ⟨v5, rfl, ho5, hb5⟩
        obtain ⟨A5, n5, c5, rfl, -⟩ := ho5.slice
        have HB5 := Lib.hid (HB4.out.trans (hb5.mono (by omega)))
        clear ho5 hb5
        go_wp2
        go_ret
        exact ⟨rfl, HB5.out⟩
end Go.Proofs.YtakigeichhngbaaDoor
namespace Go.Proofs.YtakigeichhngbaaDoor
open Go.RowKit
theorem ErrsIn.eofIn {w : World} {E U : Addr} (h : ErrsIn w E U) : EofIn w E U := ⟨h.errs, h.ne, h.e, h.u⟩
theorem fnCut_row (W : World) (A : Option Addr) (n cap : Nat) (xs : List Ins) (h : InsAt W A n xs ∧ n ≤ maxLen ∧ ∀ i ∈ xs, -9223372036854775808 ≤ i.c ∧ i.c ≤ 9223372036854775807) (big : Bool) (x : Int) (wx : (Lit.int .u8 x).wf = true)
    (hL : laidMetH Tryd.prog [("io.ErrShortBuffer", Rows.laid_io_ErrShortBuffer), ("io.EOF", Rows.laid_io_EOF), ("io.ErrUnexpectedEOF", Rows.laid_io_ErrUnexpectedEOF)] W) :
    Calls Tryd.prog 5 #[.slice A n cap, .bool big, .int .u8 x] W fun e w' => e = .returned (.bool true) ∧ Below W.heap.size W w' := by
  obtain ⟨E, U, hE⟩ := errs_of_laid hL
  obtain ⟨h2, h5⟩ := globals_lt hE.errs
  obtain ⟨x0, x1⟩ := bounds_u8 wx
  obtain ⟨y, rfl⟩ := Int.eq_ofNat_of_zero_le x0
  obtain ⟨c, t, he⟩ := hE.e
  obtain ⟨d, s, hu⟩ := hE.u
  exact fnCut_all big A n cap xs y W E U h.1 h.2.1 h.2.2 (by omega) hE.eofIn h2 h5 (lt_of_blk he) (lt_of_blk hu)
end Go.Proofs.YtakigeichhngbaaDoor
