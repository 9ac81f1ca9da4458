import Derived.Test.YtakigeichhngbaaRefP
import Derived.Test.YtakigeichhngbaaXw
import Derived.Deep.RegionHeld3
import Derived.Deep.CutRange
namespace Go.Proofs.Ytakigeichhngbaa
open Go.RowKit Go.Maps
set_option linter.unusedVariables false
set_option linter.unusedSimpArgs false
theorem refI_is (i : Ins) (p : Option Addr) (W : World) (hm : MetaList W p i.metas) : Calls Try.prog 118 #[.agg #[.int .u32 i.op, .int .u8 i.dst, .int .u8 i.src, .int .i16 i.off, .int .i64 i.c, .pointer p]] W
    fun e w' => e = .returned (.string i.ref) ∧ W.alloc (.cells #[.int .u32 i.op, .int .u8 i.dst, .int .u8 i.src, .int .i16 i.off, .int .i64 i.c, .pointer p] 112) = w' := by
  have := Reference_c i.op i.dst i.src i.off i.c p i.metas W hm (metasI_len i)
  rw [show (getL 148 i.metas).getD ⟨#[]⟩ = i.ref from (symI_metas i).2] at this
  exact this
theorem zero_ints (w : World) : (zeroValue 25).run Try.prog w = .ok (.slice none 0 0) w := by kernel_rfl
theorem intR_info : (Try.prog.info? 3).map (fun i => (i.zero, i.size, i.bytes)) = some (some (.int .i64 0), 1, 8) := by kernel_rfl
abbrev ownG (w : World) (b n : Nat) (D : DataW Unit) : Prop := w.ownsGroups Try.prog 9 (b + 1) 3 .i64 b n D
theorem grow_none {w w' : World} {u : Option Nat} (h : w.grownBy w' none) : w.grownBy w' u := ⟨h.os, h.tape, h.output, h.size, fun k hk _ => h.block k hk (by simp)⟩
theorem grow_below {w w' : World} (h : Below w.heap.size w w') : w.grownBy w' none := ⟨h.os, h.tape, h.output, h.size, fun k hk _ => h.block k hk⟩
theorem ownG_kept {w w' : World} {b n : Nat} {D : DataW Unit} (h : ownG w b n D) (hg : w.grownBy w' none) : ownG w' b n D :=
  h.kept hg (by simp) (fun es clock _ x _ => by cases x.val.ownBlock <;> simp)
theorem ownG_mono {w : World} {b n : Nat} {D : DataW Unit} (h : ownG w b n D) : ownG w b (n + 1) D := by
  obtain ⟨es, clock, hb, F, hs, hD, hbb, hlen, hap⟩ := h
  exact ⟨es, clock, hb, F, by omega, hD, hbb, fun x hx zs ho => Nat.le_succ_of_le (hlen x hx zs ho), hap⟩
theorem ownG_isMap {w : World} {b n : Nat} {D : DataW Unit} (h : ownG w b n D) : IsMap D := by
  obtain ⟨es, clock, hb, F, hs, rfl, -⟩ := h
  exact ⟨_, rfl⟩
theorem keepL {X X' : World} {o r : Obj} {b : Nat} (hw : X.alloc o = X') (h : X.heap[b]? = some r) : X'.heap[b]? = some r := by
  subst hw
  exact (Below.heap_alloc _ _ _ (lt_of_blkS h)).trans h
/-- a world of the region: what has grown since y, the instruction's box -/
structure RPh (w y X : World) (b5 : Nat) (i : Ins) (p : Option Addr) (u : Option Nat) : Prop where
  grow : y.grownBy X u
  box : X.heap[b5]? = some (rowJ i p)
  below : Below w.heap.size w X
theorem RPh.alloc {w y X X' : World} {b5 : Nat} {i : Ins} {p : Option Addr} {u : Option Nat} {o : Obj} (h : RPh w y X b5 i p u) (hw : X.alloc o = X') : RPh w y X' b5 i p u := by
  subst hw
  exact ⟨h.grow.trans (World.grownBy_alloc _ _ _), (Below.heap_alloc _ _ _ (lt_of_blkS h.box)).trans h.box, h.below.alloc h.below.size _⟩
theorem RPh.al {w y X : World} {b5 : Nat} {i : Ins} {p : Option Addr} {u : Option Nat} (h : RPh w y X b5 i p u) (o : Obj) : RPh w y (X.alloc o) b5 i p u := h.alloc rfl
theorem RPh.step {w y X X' : World} {b5 : Nat} {i : Ins} {p : Option Addr} {u : Option Nat} (h : RPh w y X b5 i p none) (hg : X.grownBy X' u) (hne : u ≠ some b5) (hu : ∀ j, u = some j → w.heap.size ≤ j) : RPh w y X' b5 i p u :=
  ⟨(grow_none h.grow).trans hg, (hg.block _ (lt_of_blkS h.box) (fun e => hne e.symm)).trans h.box, h.below.grown hg h.below.size hu⟩
theorem RPh.cells {w y X : World} {b5 : Nat} {i : Ins} {p : Option Addr} {u : Option Nat} (h : RPh w y X b5 i p u) : X.cell? ⟨b5, 0, none⟩ = some (.int .u32 i.op) ∧ X.cell? ⟨b5, 1, none⟩ = some (.int .u8 i.dst) ∧ X.cell? ⟨b5, 2, none⟩ = some (.int .u8 i.src) ∧ X.cell? ⟨b5, 3, none⟩ = some (.int .i16 i.off) ∧ X.cell? ⟨b5, 4, none⟩ = some (.int .i64 i.c) ∧ X.cell? ⟨b5, 5, none⟩ = some (.pointer p) := by
  obtain ⟨x0, x1, x2, x3, x4, x5, -⟩ := cells6 h.box
  exact ⟨x0, x1, x2, x3, x4, x5⟩
theorem Reads.one1 {w : World} {B b : Nat} {x : Value} {t : TypeId} (hb : b < B) (h : w.heap[b]? = some (.cells #[x] t)) : Reads w B 1 (some ⟨b, 0, none⟩) 1 [x] := by
  refine ⟨rfl, fun _ => ⟨_, rfl, hb, fun j u hu => ?_⟩⟩
  have e : (⟨b, 0, none⟩ : Addr).add j = ⟨b, j, none⟩ := by unfold Addr.add; split <;> simp_all
  rw [e, cell_of_row _ _ _ _ _ _ h]
  simpa using hu
def RefEnd (w : World) (l : List Ins) (e : Ending) (w' : World) : Prop :=
  Below w.heap.size w w' ∧ ∃ (mb : Nat) (D : DataW Unit), e = .returned (.map (some mb)) ∧ w.heap.size ≤ mb ∧ ownG w' mb l.length D ∧ RefD l l.length D
/-- behind a round -/
def RefR (w : World) (mb : Nat) (l : List Ins) (k : Nat) (X : World) : Prop := ∃ D, Below w.heap.size w X ∧ ownG X mb k D ∧ RefD l k D ∧ mb + 1 ≤ X.heap.size
set_option maxRecDepth 100000 in
theorem RefOffs_nil (a : Option Addr) (c : Nat) (w : World) : Calls Try.prog 71 #[.slice a 0 c] w (RefEnd w []) := by
  have hmm := @run_makeMap Try.prog
  go_enter Try.func71, Try.ntmps71
  go_wp2_with fail
  refine wp_loop_rounds 1 ?_
  rw [rounds_succ]
  go_wp2
  go_ret
  exact ⟨(Below.refl _ _).alloc (Nat.le_refl _) _, _, .map [], rfl, Nat.le_refl _, World.ownsGroups_made _ _ _ _ _, RefD.start []⟩
set_option maxRecDepth 100000 in
set_option maxHeartbeats 4000000 in
theorem RefOffs_c (g n cap : Nat) (l : List Ins) (w : World) (hl : l.length = n) (hn : n ≤ 400) (hc : n ≤ cap) (hg : g < w.heap.size) (hi : InsN w g l) (hsz : ∀ i ∈ l, i.ref.size ≤ maxLen) :
    Calls Try.prog 71 #[.slice (some ⟨g, 0, none⟩) n cap] w (RefEnd w l) := by
  have hmm := @run_makeMap Try.prog
  obtain ⟨j0, gi0, gz0, gz1, gz2⟩ := info_parts intR_info
  have J0 := Lib.hid gi0
  have J1 := Lib.hid gz0
  have J2 := Lib.hid gz1
  have J3 := Lib.hid gz2
  have L := Lib.hid hl
  have HI := Lib.hid hi
  have HSZ := Lib.hid hsz
  have M0 : ownG (w.alloc (Obj.map #[] 0)) w.heap.size 0 (.map []) := World.ownsGroups_made _ _ _ _ _
  have M0 := Lib.hid M0
  clear hl hi hsz gi0 gz0 gz1 gz2
  go_enter Try.func71, Try.ntmps71
  go_wp2_with fail
  have hmb2 : w.heap.size + 1 ≤ (w.alloc (Obj.map #[] 0)).heap.size := by simp
  obtain ⟨mb, hmb⟩ : ∃ b, b = w.heap.size := ⟨_, rfl⟩
  rw [← hmb] at M0 hmb2 ⊢
  have hmb1 : w.heap.size ≤ mb := by omega
  clear hmb
  go_loopw [9] (fun i wr => ∃ k : Nat, k ≤ n ∧ i = .int .i64 k ∧ RefR w mb l k wr) (fun i _ => n - (intOf i).toNat)
  case atStart => exact ⟨0, Nat.zero_le _, rfl, .map [], (Below.refl _ _).alloc (Nat.le_refl _) _, M0.out, RefD.start l, hmb2⟩
  case round =>
    obtain ⟨k, hk, rfl, D, hb, hown, hsd, hws⟩ := hrel
    have HB := Lib.hid hb
    have HOWN := Lib.hid hown
    have HSD := Lib.hid hsd
    clear hb hown hsd hmb2
    by_cases hk' : k < n
    · have hkl : k < l.length := by rw [L.out]; exact hk'
      obtain ⟨iv, hiv⟩ : ∃ i, i = l[k] := ⟨_, rfl⟩
      have HIV := Lib.hid hiv
      obtain ⟨p, hz0, hm0⟩ := HI.out k hkl
      have hz := hz0.keep HB.out hg
      rw [← hiv] at hz hm0
      have hs20 : iv.ref.size ≤ maxLen := by rw [hiv]; exact HSZ.out _ (List.getElem_mem _)
      have SY := Lib.hid fun (W : World) (hb : Below w.heap.size w W) => refI_is iv p W (hm0.keep hb)
      clear hiv hz0 hm0
      obtain ⟨z0, z1, z2, z3, z4, z5⟩ := hz
      have hgw : g < wr.heap.size := Nat.lt_of_lt_of_le hg HB.out.size
      have hzw := HB.out.size
      have HBA := Lib.hid (HB.out.alloc hzw (rowJ iv p))
      go_wp2_with fail
      refine (SY.out _ HBA.out).mono ?_
      rintro e y0 ⟨rfl, hw2⟩
      have hgx : wr.grownBy y0 none := by rw [← hw2]; exact (World.grownBy_alloc _ _ _).trans (World.grownBy_alloc _ _ _)
      have hbx : y0.heap[wr.heap.size]? = some (rowJ iv p) := by rw [← hw2]; exact (Below.heap_alloc _ _ _ (by simp)).trans (heap_alloc_new wr _)
      have hbw : Below w.heap.size w y0 := HB.out.grown hgx hzw (by simp)
      have hownX := ownG_kept HOWN.out hgx
      have hsX : mb + 1 ≤ y0.heap.size := Nat.le_trans hws hgx.size
      cases hsn : iv.ref.toList.isEmpty
      · have hkey := strI_key hs20
        obtain ⟨v, zs, hlk0, hat, hoi, hzl, hback⟩ := hownX.at symI_law Try.underlying100 (zero_ints _) (by unfold maxLen; omega) hkey
        have hzs : zs = rAt (l.take k) iv.ref := rows_read hat hoi (HSD.out.val _ hsn)
        have hvb5 : v.ownBlock ≠ some wr.heap.size := fun e => by
          rcases hoi.1.2 with ⟨rfl, -⟩ | ⟨g', cap', cur', rfl, -, hh, -⟩
          · cases e
          · have e2 : g' = wr.heap.size := by simpa [Value.ownBlock] using e
            subst e2
            rw [hbx] at hh
            injection hh with hh
            injection hh with _ hh
            exact absurd hh (by decide)
        have hvlow : ∀ j, v.ownBlock = some j → w.heap.size ≤ j := fun j hj => by have := (hoi.1.lt j hj).1; omega
        have hwf : (Lit.int .i64 (k : Int)).wf = true := by simp [Lit.wf, IntKind.min, IntKind.max, IntKind.bits, IntKind.signed]; omega
        have LK := Lib.hid (fun (X : World) (hX : y0.grownBy X none) => look_stay hownX symI_law Try.underlying100 zero_ints hkey (hX.block mb (by omega) (by simp)) hlk0)
        have OI := Lib.hid (fun (X : World) (hX : y0.grownBy X none) => (hoi.kept hX (by cases v.ownBlock <;> simp) : X.ownsInts (mb + 1) 3 .i64 v zs))
        have FIN := Lib.hid (show ∀ (X : World) (v' : Value), RPh w y0 X wr.heap.size iv p v.ownBlock → X.ownsInts (mb + 1) 3 .i64 v' (zs ++ [(k : Int)]) → (v'.ownBlock = v.ownBlock ∨ ∃ g, v'.ownBlock = some g ∧ y0.heap.size ≤ g) →
            ∃ w2, (Instr.mapUpdate 100 (.map (some mb)) (.string iv.ref) v').run Try.prog X = .ok () w2 ∧ RefR w mb l (k + 1) w2 ∧ (w2.cell? ⟨wr.heap.size, 0, none⟩ = some (.int .u32 iv.op) ∧ w2.cell? ⟨wr.heap.size, 1, none⟩ = some (.int .u8 iv.dst) ∧ w2.cell? ⟨wr.heap.size, 2, none⟩ = some (.int .u8 iv.src) ∧ w2.cell? ⟨wr.heap.size, 3, none⟩ = some (.int .i16 iv.off) ∧ w2.cell? ⟨wr.heap.size, 4, none⟩ = some (.int .i64 iv.c) ∧ w2.cell? ⟨wr.heap.size, 5, none⟩ = some (.pointer p)) from fun X v' hR hO hl => by
          obtain ⟨w2, h1, h2, h3⟩ := hback X v' (zs ++ [(k : Int)]) hR.grow hO (by simp; omega) hl
          have hb2 := hR.below.grown h3 hR.below.size (fun j hj => by injection hj with hj; omega)
          refine ⟨w2, h1, ⟨_, hb2, h2, ?_, ?_⟩, ?_⟩
          · rw [hO.datum_pos (by simp), hzs, HIV.out]
            exact HSD.out.put (ownG_isMap hownX) hkl (by rw [← HIV.out]; exact hsn)
          · exact Nat.le_trans hsX (Nat.le_trans hR.grow.size h3.size)
          · have hx2 : w2.heap[wr.heap.size]? = some (rowJ iv p) := (h3.block _ (lt_of_blkS hR.box) (by simp; omega)).trans hR.box
            obtain ⟨x0, x1, x2, x3, x4, x5, -⟩ := cells6 hx2
            exact ⟨x0, x1, x2, x3, x4, x5⟩)
        have R : RPh w y0 y0.drew wr.heap.size iv p none := ⟨⟨rfl, rfl, rfl, Nat.le_refl _, fun _ _ _ => rfl⟩, hbx, hbw.drew⟩
        have LK1 := LK.out _ R.grow
        have LK2 := fun o => LK.out _ (R.al o).grow
        obtain ⟨x0, x1, x2, x3, x4, x5⟩ := R.cells
        clear hw2 hgx hbx hbw hownX z0 z1 z2 z3 z4 z5 hoi hback hlk0 hat hzs
        go_upto_region 6 with fail
        go_region_held3 (fun w' => w'.cell? ⟨wr.heap.size, 0, none⟩ = some (.int .u32 iv.op) ∧ w'.cell? ⟨wr.heap.size, 1, none⟩ = some (.int .u8 iv.dst) ∧ w'.cell? ⟨wr.heap.size, 2, none⟩ = some (.int .u8 iv.src) ∧ w'.cell? ⟨wr.heap.size, 3, none⟩ = some (.int .i16 iv.off) ∧ w'.cell? ⟨wr.heap.size, 4, none⟩ = some (.int .i64 iv.c) ∧ w'.cell? ⟨wr.heap.size, 5, none⟩ = some (.pointer p))
          (first | exact hC | exact R2.cells | exact (R2.al _).cells | exact R.cells | exact (R.al _).cells)
          (first
            | (go_at_call 118; go_must ((with_reducible refine (SY.out _ ?_).mono ?_); (first | exact R2.below | exact R.below | exact (R.al _).below); rintro e yX ⟨rfl, hw⟩; (first
                | (have R2 := R2.alloc hw; have O2 := (hw ▸ O2.alloc _ : yX.ownsInts (mb + 1) 3 .i64 _ (zs ++ [(k : Int)])); obtain ⟨w2, hup, hP, hC⟩ := FIN.out _ _ R2 O2 L2)
                | (have R := R.alloc hw; have LK1 := LK.out _ R.grow; have LK2 := (fun o => LK.out _ (R.al o).grow); try have HL := keepL hw HL)
                | (have R := (R.al _).alloc hw; have LK1 := LK.out _ R.grow; have LK2 := (fun o => LK.out _ (R.al o).grow); have HL := keepL hw (heap_alloc_new _ _)))))
            | ((refine step_append_any _ rfl (.tmp 23) (.tmp 25) 25 rfl (mb + 1) 3 j0 (.int .i64 0) 1 8 Try.underlying25 J0.out J1.out J2.out J3.out rfl (by decide) v zs.length (zs.map (Value.int .i64)) rfl ?c1 (yX.heap.size + 2) _ 1 1 [.int .i64 (k : Int)] rfl ?c2 ?c3 ?c4 ?c5 ?c6 ?_); go_must (
                (case c1 => (first | exact (OI.out _ R.grow).1 | exact (OI.out _ (R.al _).grow).1)); (case c2 => (first | exact Reads.one1 (by simp) (heap_alloc_new _ _) | exact Reads.one1 (by have := lt_of_blkS HL; omega) HL)); (case c3 => exact ints_oneCell .i64 [(k : Int)]); (case c4 => (unfold maxLen; omega)); (case c5 => omega); (case c6 => (first | exact Nat.le_trans hsX R.grow.size | exact Nat.le_trans hsX (R.al _).grow.size));
                intro v9 yX hown9 hg9 hloc9; have L2 : v9.ownBlock = v.ownBlock ∨ ∃ g, v9.ownBlock = some g ∧ y0.heap.size ≤ g := hloc9.imp id (fun h => ⟨_, h, by first | exact R.grow.size | exact (R.al _).grow.size⟩); have O2 := (OI.out _ R.grow).appended hown9 hwf; have R2 := (by first | exact R.step hg9 hvb5 hvlow | exact (R.al _).step hg9 hvb5 hvlow : RPh w _ yX wr.heap.size iv p v.ownBlock); obtain ⟨w2, hup, hP, hC⟩ := FIN.out _ _ R2 O2 L2)))
        all_goals
          go_wp2_with fail
          go_roundw
          case rel => exact ⟨k + 1, by omega, by go_num, hP⟩
          case measure => simp [intOf]; omega
      · have HBX := Lib.hid hbw
        have HOX := Lib.hid hownX
        have HSX := Lib.hid hsX
        clear hw2 hgx hbx hbw hownX hsX z0 z1 z2 z3 z4 z5
        go_wp2_with fail
        go_roundw
        case rel => exact ⟨k + 1, by omega, by go_num, D, HBX.out, ownG_mono HOX.out, HSD.out.skip hkl (by rw [← HIV.out]; exact hsn), HSX.out⟩
        case measure => simp [intOf]; omega
    · obtain rfl : k = n := by omega
      have hL := L.out
      go_wp2
      go_ret
      exact ⟨HB.out, mb, D, rfl, hmb1, by rw [hL]; exact HOWN.out, by rw [hL]; exact HSD.out⟩
end Go.Proofs.Ytakigeichhngbaa
