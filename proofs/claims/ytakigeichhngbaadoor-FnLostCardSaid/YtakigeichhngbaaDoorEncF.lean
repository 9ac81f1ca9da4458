import Derived.Test.YtakigeichhngbaaDoorAll
import Derived.Test.YtakigeichhngbaaDoorMeta
import Derived.Test.YtakigeichhngbaaDoorAppI
import Derived.Deep.LoopGhost
import Derived.Carry
namespace Go.Proofs.YtakigeichhngbaaDoor
open Go.RowKit
set_option linter.unusedVariables false
set_option linter.unusedSimpArgs false
theorem InstrAt.of_block {w w' : World} {g o : Nat} {i : Ins} {p : Option Addr} (h : InstrAt w g o i p) (hb : w'.heap[g]? = w.heap[g]?) : InstrAt w' g o i p := by
  obtain ⟨h0, h1, h2, h3, h4, h5⟩ := h
  have k : ∀ j, w'.cell? ⟨g, j, none⟩ = w.cell? ⟨g, j, none⟩ := fun j => World.cell?_of_block hb
  exact ⟨(k _).trans h0, (k _).trans h1, (k _).trans h2, (k _).trans h3, (k _).trans h4, (k _).trans h5⟩
theorem sym_none (op dst src off c : Int) (w : World) : Calls Tryd.prog 66 #[.agg #[.int .u32 op, .int .u8 dst, .int .u8 src, .int .i16 off, .int .i64 c, .pointer none]] w
    fun e w' => e = .returned (.string ⟨#[]⟩) ∧ w.alloc (.cells #[.int .u32 op, .int .u8 dst, .int .u8 src, .int .i16 off, .int .i64 c, .pointer none] 65) = w' :=
  Symbol_c op dst src off c none [] w (meta_nil _) (by simp)
theorem ref_none (op dst src off c : Int) (w : World) : Calls Tryd.prog 67 #[.agg #[.int .u32 op, .int .u8 dst, .int .u8 src, .int .i16 off, .int .i64 c, .pointer none]] w
    fun e w' => e = .returned (.string ⟨#[]⟩) ∧ w.alloc (.cells #[.int .u32 op, .int .u8 dst, .int .u8 src, .int .i16 off, .int .i64 c, .pointer none] 65) = w' :=
  Reference_c op dst src off c none [] w (meta_nil _) (by simp)
def EncRel (w : World) (it g n cap : Nat) (l : List Ins) (gk : Nat) (wr : World) : Prop :=
  ∃ k, gk = n - k ∧ k ≤ n ∧ ItState wr it g n cap l k ∧ Below w.heap.size w wr
set_option maxRecDepth 100000 in
set_option maxHeartbeats 2000000 in
theorem EncF_zero (a : Option Addr) (c : Nat) (w : World) : Calls Tryd.prog 68 #[.slice a 0 c] w fun e w' => e = .returned .nilIface ∧ Below w.heap.size w w' := by
  have hmm := @run_makeMap Tryd.prog
  go_enter Tryd.func68, Tryd.ntmps68
  go_wp2_with fail
  have hb1 := (Below.refl w.heap.size w).alloc (Nat.le_refl _) (Obj.map #[] 0)
  revert hb1
  generalize w.alloc (Obj.map #[] 0) = w1
  intro hb1
  refine (Iterate_c _ _ ⟨_, _, _, rfl⟩).mono ?_
  rintro e w2 ⟨rfl, hw2⟩
  have hi2 := heap_alloc_new w1 (.cells #[.slice a 0 c, .pointer none, .int .i64 0, .int .u64 0] 149)
  have hb2 := hb1.alloc hb1.size (.cells #[.slice a 0 c, .pointer none, .int .i64 0, .int .u64 0] 149)
  rw [hw2] at hi2 hb2
  have NE := Lib.hid (Next_end w1.heap.size a c none 0 0 w2 hi2)
  clear hw2 hi2
  go_wp2_with fail
  refine wp_loop_rounds 1 ?_
  rw [rounds_succ]
  go_wp2_with fail
  refine NE.out.mono ?_
  rintro e w3 ⟨rfl, rfl⟩
  clear NE
  go_wp2_with fail
  refine (Iterate_c _ _ ⟨_, _, _, rfl⟩).mono ?_
  rintro e w4 ⟨rfl, hw4⟩
  have hi4 := heap_alloc_new w2 (.cells #[.slice a 0 c, .pointer none, .int .i64 0, .int .u64 0] 149)
  have hb4 := hb2.alloc hb2.size (.cells #[.slice a 0 c, .pointer none, .int .i64 0, .int .u64 0] 149)
  rw [hw4] at hi4 hb4
  have NE := Lib.hid (Next_end w2.heap.size a c none 0 0 w4 hi4)
  clear hw4 hi4
  go_wp2_with fail
  refine wp_loop_rounds 1 ?_
  rw [rounds_succ]
  go_wp2_with fail
  refine NE.out.mono ?_
  rintro e w5 ⟨rfl, rfl⟩
  clear NE
  go_wp2
  go_ret
  exact ⟨rfl, hb4⟩
set_option maxRecDepth 100000 in
set_option maxHeartbeats 4000000 in
theorem EncF_none (g n cap : Nat) (l : List Ins) (w : World) (hl : l.length = n) (hn : n ≤ 400) (hc : n ≤ cap) (hg : g < w.heap.size) (hi : ∀ j (hj : j < l.length), InstrAt w g (j * 6) l[j] none) :
    Calls Tryd.prog 68 #[.slice (some ⟨g, 0, none⟩) n cap] w fun e w' => e = .returned .nilIface ∧ Below w.heap.size w w' := by
  have hmm := @run_makeMap Tryd.prog
  have L := Lib.hid hl
  have HI := Lib.hid hi
  clear hl hi
  go_enter Tryd.func68, Tryd.ntmps68
  go_wp2_with fail
  have hb1 := (Below.refl w.heap.size w).alloc (Nat.le_refl _) (Obj.map #[] 0)
  revert hb1
  generalize w.alloc (Obj.map #[] 0) = w1
  intro hb1
  refine (Iterate_c _ _ ⟨_, _, _, rfl⟩).mono ?_
  rintro e w2 ⟨rfl, hw2⟩
  have hi2 := heap_alloc_new w1 (.cells #[.slice (some ⟨g, 0, none⟩) n cap, .pointer none, .int .i64 0, .int .u64 0] 149)
  have hb2 := hb1.alloc hb1.size (.cells #[.slice (some ⟨g, 0, none⟩) n cap, .pointer none, .int .i64 0, .int .u64 0] 149)
  rw [hw2] at hi2 hb2
  obtain ⟨it, hit⟩ : ∃ it, it = w1.heap.size := ⟨_, rfl⟩
  have hit0 : w.heap.size ≤ it := by rw [hit]; exact hb1.size
  have hgi : g ≠ it := by omega
  rw [← hit] at hi2 ⊢
  have R0 := Lib.hid (show EncRel w it g n cap l n w2 from ⟨0, rfl, Nat.zero_le _, ⟨0, fun _ => rfl, .inl ⟨rfl, hi2⟩⟩, hb2⟩)
  clear hw2 hi2 hb1 hb2 hit
  go_wp2_with fail
  go_loopg [] n (fun gk wr => EncRel w it g n cap l gk wr)
  case atStart => exact R0.out
  case round =>
    obtain ⟨k, hgk, hk, hst, hb⟩ := hrel
    have HST := Lib.hid hst
    have HGK := Lib.hid hgk
    have HB := Lib.hid hb
    clear hst hgk hb
    by_cases hk' : k < n
    · obtain ⟨iv, hiv⟩ : ∃ i, i = l[k]'(by rw [L.out]; exact hk') := ⟨_, rfl⟩
      have NS := Lib.hid (Next_step it g cap n l k _ HST.out L.out hn hc hk' hgi (fun j hj => (HB.out.cell (p := ⟨g, j * 6, none⟩) hg).trans (HI.out j hj).1))
      go_wp2_with fail
      refine NS.out.mono ?_
      rintro e y1 ⟨rfl, hst2, hg2⟩
      obtain ⟨q1, q2, q3⟩ := hst2.at_
      have hb2 : Below w.heap.size w y1 := HB.out.grown hg2 HB.out.size (fun b he => by injection he with he; omega)
      have hz := (HI.out k (by rw [L.out]; exact hk')).of_block (hb2.block g hg)
      rw [← hiv] at hz
      clear hiv
      obtain ⟨z0, z1, z2, z3, z4, z5⟩ := hz
      have SY := Lib.hid (sym_none iv.op iv.dst iv.src iv.off iv.c y1)
      have HST2 := Lib.hid hst2
      have HB2 := Lib.hid hb2
      clear hst2 hg2 hb2 NS
      go_wp2_with (first | (go_at_call 66; ((with_reducible refine SY.out.mono ?_); rintro e y2 ⟨rfl, hw2⟩)))
      have hb3 := HB2.out.alloc HB2.out.size (.cells #[.int .u32 iv.op, .int .u8 iv.dst, .int .u8 iv.src, .int .i16 iv.off, .int .i64 iv.c, .pointer none] 65)
      have hi3 := Below.heap_alloc y1 (.cells #[.int .u32 iv.op, .int .u8 iv.dst, .int .u8 iv.src, .int .i16 iv.off, .int .i64 iv.c, .pointer none] 65) it HST2.out.lt
      rw [hw2] at hb3 hi3
      have HB3 := Lib.hid hb3
      have HI3 := Lib.hid hi3
      clear hb3 hi3 hw2
      go_roundg (n - (k + 1))
      case rel => exact ⟨k + 1, rfl, by omega, HST2.out.of_block HI3.out, HB3.out⟩
      case measure => rw [HGK.out]; omega
    · have hkn : k = n := by omega
      rw [hkn] at HST
      have NE := Lib.hid (Next_done it g cap n l _ HST.out)
      go_wp2_with fail
      refine NE.out.mono ?_
      rintro e y1 ⟨rfl, rfl⟩
      clear NE
      go_wp2_with fail
      refine (Iterate_c _ _ ⟨_, _, _, rfl⟩).mono ?_
      rintro e y2 ⟨rfl, hw2⟩
      have hi2 := heap_alloc_new wr (.cells #[.slice (some ⟨g, 0, none⟩) n cap, .pointer none, .int .i64 0, .int .u64 0] 149)
      have hb2 := HB.out.alloc HB.out.size (.cells #[.slice (some ⟨g, 0, none⟩) n cap, .pointer none, .int .i64 0, .int .u64 0] 149)
      rw [hw2] at hi2 hb2
      obtain ⟨jt, hjt⟩ : ∃ it, it = wr.heap.size := ⟨_, rfl⟩
      have hjt0 : w.heap.size ≤ jt := by rw [hjt]; exact HB.out.size
      have hgj : g ≠ jt := by omega
      rw [← hjt] at hi2 ⊢
      have R1 := Lib.hid (show EncRel w jt g n cap l n y2 from ⟨0, rfl, Nat.zero_le _, ⟨0, fun _ => rfl, .inl ⟨rfl, hi2⟩⟩, hb2⟩)
      clear hw2 hi2 hb2 hjt HB HST HGK R0
      go_wp2_with fail
      go_loopg [] n (fun gk wr => EncRel w jt g n cap l gk wr)
      case atStart => exact R1.out
      case round =>
        obtain ⟨k, hgk, hk, hst, hb⟩ := hrel
        have HST := Lib.hid hst
        have HGK := Lib.hid hgk
        have HB := Lib.hid hb
        clear hst hgk hb
        by_cases hk' : k < n
        · obtain ⟨iv, hiv⟩ : ∃ i, i = l[k]'(by rw [L.out]; exact hk') := ⟨_, rfl⟩
          have NS := Lib.hid (Next_step jt g cap n l k _ HST.out L.out hn hc hk' hgj (fun j hj => (HB.out.cell (p := ⟨g, j * 6, none⟩) hg).trans (HI.out j hj).1))
          go_wp2_with fail
          refine NS.out.mono ?_
          rintro e y1 ⟨rfl, hst2, hg2⟩
          obtain ⟨q1, q2, q3⟩ := hst2.at_
          have hb2 : Below w.heap.size w y1 := HB.out.grown hg2 HB.out.size (fun b he => by injection he with he; omega)
          have hz := (HI.out k (by rw [L.out]; exact hk')).of_block (hb2.block g hg)
          rw [← hiv] at hz
          clear hiv
          obtain ⟨z0, z1, z2, z3, z4, z5⟩ := hz
          have SY := Lib.hid (ref_none iv.op iv.dst iv.src iv.off iv.c y1)
          have HST2 := Lib.hid hst2
          have HB2 := Lib.hid hb2
          clear hst2 hg2 hb2 NS
          go_wp2_with (first | (go_at_call 67; ((with_reducible refine SY.out.mono ?_); rintro e y2 ⟨rfl, hw2⟩)))
          have hb3 := HB2.out.alloc HB2.out.size (.cells #[.int .u32 iv.op, .int .u8 iv.dst, .int .u8 iv.src, .int .i16 iv.off, .int .i64 iv.c, .pointer none] 65)
          have hi3 := Below.heap_alloc y1 (.cells #[.int .u32 iv.op, .int .u8 iv.dst, .int .u8 iv.src, .int .i16 iv.off, .int .i64 iv.c, .pointer none] 65) jt HST2.out.lt
          rw [hw2] at hb3 hi3
          have HB3 := Lib.hid hb3
          have HI3 := Lib.hid hi3
          clear hb3 hi3 hw2
          go_roundg (n - (k + 1))
          case rel => exact ⟨k + 1, rfl, by omega, HST2.out.of_block HI3.out, HB3.out⟩
          case measure => rw [HGK.out]; omega
        · obtain rfl : k = n := by omega
          have NE := Lib.hid (Next_done jt g cap _ l _ HST.out)
          go_wp2_with fail
          refine NE.out.mono ?_
          rintro e y1 ⟨rfl, rfl⟩
          clear NE
          go_wp2
          go_ret
          exact ⟨rfl, HB.out⟩
end Go.Proofs.YtakigeichhngbaaDoor
