import Derived.Test.YtakigeichhngbaaDoorOrder
import Derived.Test.YtakigeichhngbaaDoorPutW
import Derived.Test.YtakigeichhngbaaDoorUnmF
import Derived.Test.YtakigeichhngbaaDoorPlOne
import Derived.Test.YtakigeichhngbaaDoorOp1
import Derived.Test.YtakigeichhngbaaDoorOneW
import Derived.Test.YtakigeichhngbaaDoorPlEnc
namespace Go.Proofs.YtakigeichhngbaaDoor
open Go.RowKit
set_option linter.unusedVariables false
set_option linter.unusedSimpArgs false

theorem or_reg8 (a b : Int) (a0 : 0 ≤ a) (a1 : a ≤ 10) (b0 : 0 ≤ b) (b1 : b ≤ 10) : bits .or .u8 (a * 16) (b % 16) = a * 16 + b := by
  have w8 : ∀ n : Int, 0 ≤ n → n < 2 ^ 8 → IntKind.u8.wrap n = n := fun n h0 h1 => IntWalk.u8_in _ (by omega)
  have g := (bits_nat .u8 8 (by decide) w8 (2 ^ 4 * a.toNat) b.toNat (by omega) (by omega)).2
  rw [← Nat.two_pow_add_eq_or_of_lt (by omega)] at g
  have e3 : ((b.toNat : Nat) : Int) = b % 16 := by omega
  have e4 : ((2 ^ 4 * a.toNat : Nat) : Int) = a * 16 := by omega
  rw [e3, e4] at g
  rw [g]
  omega
theorem newRegs_c (big : Bool) (dst src : Int) (d0 : 0 ≤ dst) (d1 : dst ≤ 10) (s0 : 0 ≤ src) (s1 : src ≤ 10) (w : World) :
    Calls Tryd.prog 76 #[.int .u8 dst, .int .u8 src, ordV big] w fun e w' => e = .returned (.tuple #[.int .u8 (bif big then dst * 16 + src else src * 16 + dst), .nilIface]) ∧ w = w' := by
  have e1 := or_reg8 dst src d0 d1 s0 s1
  have e2 := or_reg8 src dst s0 s1 d0 d1
  have q1 := fun (x y : Operand) (W : World) => ordG_le big x y W
  have q2 := fun (W : World) => ordB_le big W
  have q3 := fun (x y : Operand) (W : World) => ordG_be big x y W
  have q4 := fun (W : World) => ordB_be big W
  cases big
  · simp only [ordV, cond_false, Bool.not_false] at q1 q2 q3 q4 ⊢
    go_enter Tryd.func76, Tryd.ntmps76
    go_wp2
    go_ret2
    exact ⟨rfl, rfl⟩
  · simp only [ordV, cond_true, Bool.not_true] at q1 q2 q3 q4 ⊢
    go_enter Tryd.func76, Tryd.ntmps76
    go_wp2
    go_ret2
    exact ⟨rfl, rfl⟩
/-- a number of 2 bytes put at o -/
theorem PutLE16_c (D o cap : Nat) (x : Int) (w : World) (v0 v1 : Value) (hD : D < w.heap.size) (h0 : w.cell? ⟨D, o, none⟩ = some v0) (h1 : w.cell? ⟨D, o + 1, none⟩ = some v1) (hf0 : w.frozen? ⟨D, o, none⟩ = false) (hf1 : w.frozen? ⟨D, o + 1, none⟩ = false) :
    Calls Tryd.prog 133 #[.agg #[], .slice (some ⟨D, o, none⟩) 2 cap, .int .u16 x] w fun e w' => e = .returned (.tuple #[]) ∧ ((w.setCell ⟨D, o, none⟩ (.int .u8 (x % 256))).setCell ⟨D, o + 1, none⟩ (.int .u8 (x / 256 % 256))).alloc (.cells #[] 101) = w' := by
  have g0 := cell_old (.cells #[] 101) hD h0
  have g1 := cell_old (.cells #[] 101) hD h1
  go_enter Tryd.func133, Tryd.ntmps133
  go_wp2
  go_end0
  exact ⟨rfl, rfl⟩
/-- a number of 2 bytes put at o -/
theorem PutBE16_c (D o cap : Nat) (x : Int) (w : World) (v0 v1 : Value) (hD : D < w.heap.size) (h0 : w.cell? ⟨D, o, none⟩ = some v0) (h1 : w.cell? ⟨D, o + 1, none⟩ = some v1) (hf0 : w.frozen? ⟨D, o, none⟩ = false) (hf1 : w.frozen? ⟨D, o + 1, none⟩ = false) :
    Calls Tryd.prog 141 #[.agg #[], .slice (some ⟨D, o, none⟩) 2 cap, .int .u16 x] w fun e w' => e = .returned (.tuple #[]) ∧ ((w.setCell ⟨D, o, none⟩ (.int .u8 (x / 256 % 256))).setCell ⟨D, o + 1, none⟩ (.int .u8 (x % 256))).alloc (.cells #[] 102) = w' := by
  have g0 := cell_old (.cells #[] 102) hD h0
  have g1 := cell_old (.cells #[] 102) hD h1
  go_enter Tryd.func141, Tryd.ntmps141
  go_wp2
  go_end0
  exact ⟨rfl, rfl⟩
/-- a number of 4 bytes put at o -/
theorem PutLE32_c (D o cap : Nat) (x : Int) (w : World) (v0 v1 v2 v3 : Value) (hD : D < w.heap.size) (h0 : w.cell? ⟨D, o, none⟩ = some v0) (h1 : w.cell? ⟨D, o + 1, none⟩ = some v1) (h2 : w.cell? ⟨D, o + 2, none⟩ = some v2) (h3 : w.cell? ⟨D, o + 3, none⟩ = some v3) (hf0 : w.frozen? ⟨D, o, none⟩ = false) (hf1 : w.frozen? ⟨D, o + 1, none⟩ = false) (hf2 : w.frozen? ⟨D, o + 2, none⟩ = false) (hf3 : w.frozen? ⟨D, o + 3, none⟩ = false) :
    Calls Tryd.prog 134 #[.agg #[], .slice (some ⟨D, o, none⟩) 4 cap, .int .u32 x] w fun e w' => e = .returned (.tuple #[]) ∧ ((((w.setCell ⟨D, o, none⟩ (.int .u8 (x % 256))).setCell ⟨D, o + 1, none⟩ (.int .u8 (x / 256 % 256))).setCell ⟨D, o + 2, none⟩ (.int .u8 (x / 65536 % 256))).setCell ⟨D, o + 3, none⟩ (.int .u8 (x / 16777216 % 256))).alloc (.cells #[] 101) = w' := by
  have g0 := cell_old (.cells #[] 101) hD h0
  have g1 := cell_old (.cells #[] 101) hD h1
  have g2 := cell_old (.cells #[] 101) hD h2
  have g3 := cell_old (.cells #[] 101) hD h3
  go_enter Tryd.func134, Tryd.ntmps134
  go_wp2
  go_end0
  exact ⟨rfl, rfl⟩
/-- a number of 4 bytes put at o -/
theorem PutBE32_c (D o cap : Nat) (x : Int) (w : World) (v0 v1 v2 v3 : Value) (hD : D < w.heap.size) (h0 : w.cell? ⟨D, o, none⟩ = some v0) (h1 : w.cell? ⟨D, o + 1, none⟩ = some v1) (h2 : w.cell? ⟨D, o + 2, none⟩ = some v2) (h3 : w.cell? ⟨D, o + 3, none⟩ = some v3) (hf0 : w.frozen? ⟨D, o, none⟩ = false) (hf1 : w.frozen? ⟨D, o + 1, none⟩ = false) (hf2 : w.frozen? ⟨D, o + 2, none⟩ = false) (hf3 : w.frozen? ⟨D, o + 3, none⟩ = false) :
    Calls Tryd.prog 142 #[.agg #[], .slice (some ⟨D, o, none⟩) 4 cap, .int .u32 x] w fun e w' => e = .returned (.tuple #[]) ∧ ((((w.setCell ⟨D, o, none⟩ (.int .u8 (x / 16777216 % 256))).setCell ⟨D, o + 1, none⟩ (.int .u8 (x / 65536 % 256))).setCell ⟨D, o + 2, none⟩ (.int .u8 (x / 256 % 256))).setCell ⟨D, o + 3, none⟩ (.int .u8 (x % 256))).alloc (.cells #[] 102) = w' := by
  have g0 := cell_old (.cells #[] 102) hD h0
  have g1 := cell_old (.cells #[] 102) hD h1
  have g2 := cell_old (.cells #[] 102) hD h2
  have g3 := cell_old (.cells #[] 102) hD h3
  go_enter Tryd.func142, Tryd.ntmps142
  go_wp2
  go_end0
  exact ⟨rfl, rfl⟩
end Go.Proofs.YtakigeichhngbaaDoor
namespace Go.Proofs.YtakigeichhngbaaDoor
open Go.RowKit
set_option linter.unusedVariables false
set_option linter.unusedSimpArgs false

theorem valid_all : ((List.range 256).all fun n => pValid (n : Int) 255 && (bits .and .u32 (n : Int) 255 == (n : Int))) = true := by decide +kernel
theorem bpf_c (op : Int) (h0 : 0 ≤ op) (h1 : op ≤ 255) (w : World) : Calls Tryd.prog 96 #[.int .u32 op] w fun e w' => e = .returned (.tuple #[.int .u8 op, .nilIface]) ∧ w = w' := by
  have hv : pValid op 255 = true ∧ bits .and .u32 op 255 = op := by
    obtain ⟨n, rfl⟩ := Int.eq_ofNat_of_zero_le h0
    have := List.all_eq_true.1 valid_all n (List.mem_range.2 (by omega))
    simpa using this
  obtain ⟨v1, v2⟩ := hv
  have HV := Lib.hid v1
  clear v1
  go_enter Tryd.func96, Tryd.ntmps96
  go_wp2_with fail
  refine (valid_c op 255 _).mono ?_
  rintro e w' ⟨rfl, rfl⟩
  rw [HV.out]
  go_wp2
  go_ret2
  exact ⟨rfl, rfl⟩
/-- the sink's box g holds the bytes bs, in a row of its own from block B on -/
structure SinkAt (w : World) (g B : Nat) (v : Value) (bs : List Int) : Prop where
  box : w.heap[g]? = some (.cells #[v] 91 (0, 0))
  own : OwnB w B v bs
  lt : g < B
/-- of the blocks that were there only the sink's and its row have turned -/
structure SinkFr (w w' : World) (g : Nat) (v : Value) : Prop where
  below : ∀ C, C ≤ g → Below C w w'
  size : w.heap.size ≤ w'.heap.size
  other : ∀ j, j < w.heap.size → j ≠ g → some j ≠ v.ownBlock → w'.heap[j]? = w.heap[j]?
theorem set_grownS {a w : World} {g : Nat} (h : a.grownBy w (some g)) (j : Nat) (u : Value) : a.grownBy (w.setCell ⟨g, j, none⟩ u) (some g) :=
  ⟨h.os, h.tape, h.output, by simpa [World.setCell] using h.size, fun i hi hne => (Below.heap_setCell w ⟨g, j, none⟩ u i (fun e => hne (by rw [e]))).trans (h.block i hi hne)⟩
def WriteEnd (w : World) (g B : Nat) (v : Value) (bs : List Int) (m : Nat) (e : Ending) (w' : World) : Prop :=
  ∃ v', e = .returned (.tuple #[.int .i64 m, .nilIface]) ∧ SinkAt w' g B v' bs ∧ SinkFr w w' g v ∧ (v'.ownBlock = v.ownBlock ∨ ∃ j, v'.ownBlock = some j ∧ w.heap.size ≤ j)
set_option maxRecDepth 100000 in
set_option maxHeartbeats 1000000 in
theorem Write_c (g B : Nat) (v : Value) (bs ps : List Int) (A : Option Addr) (m cap : Nat) (w : World) (h : SinkAt w g B v bs) (hB : B ≤ w.heap.size) (hr : Reads w w.heap.size 1 A m (u8s ps)) (hl : bs.length + m ≤ 100000) :
    Calls Tryd.prog 131 #[.pointer (some ⟨g, 0, none⟩), .slice A m cap] w (WriteEnd w g B v (bs ++ ps) m) := by
  obtain ⟨hbox, hown, hgB⟩ := h
  obtain ⟨i0, hi0, hz0, hz1, hz2⟩ := info_parts u8_info
  have hm : m = ps.length := by have := hr.1; simp [u8s] at this; omega
  have s0 := cell_of_row _ _ 0 _ _ _ hbox
  have sf := frozen_of_row _ _ 0 _ _ hbox
  have hgl := lt_of_blk hbox
  obtain ⟨A0, n0, c0, rfl, hn0⟩ := hown.slice
  have HO := Lib.hid hown
  have HR := Lib.hid hr
  have HBX := Lib.hid hbox
  have HM := Lib.hid hm
  have hgn : (Value.slice A0 n0 c0).ownBlock ≠ some g := fun e => absurd (World.ownsRow.lt hown _ e).1 (by omega)
  have HGN := Lib.hid hgn
  clear hown hr hbox hn0 hm hgn
  go_enter Tryd.func131, Tryd.ntmps131
  go_wp2_with (first
    | (at_builtin
       go_loud (refine wpList_append_any _ rfl (.tmp 10) (.tmp 11) _ rfl B 5 i0 _ 1 1 Tryd.underlying22 hi0 hz0 hz1 hz2 rfl (by omega) _ _ _ rfl HO.out w.heap.size A m cap (u8s ps) rfl HR.out (oneCell_u8s _) (by simp only [maxLen]; omega) (by omega) hB ?_)
       intro v1 w1 hown1 hg1 hat1
       have hb1 : w1.heap[g]? = some (.cells #[.slice A0 n0 c0] 91 (0, 0)) := (hg1.block g hgl (fun e => HGN.out e.symm)).trans HBX.out
       have s1 := cell_of_row _ _ 0 _ _ _ hb1
       have sf1 := frozen_of_row _ _ 0 _ _ hb1
       have hown2 : OwnB w1 B v1 (bs ++ ps) := by unfold OwnB; rw [List.length_append, ← HM.out]; simpa [u8s] using hown1
       obtain ⟨A1, n1, k1, rfl, -⟩ := hown2.slice
       have HO1 := Lib.hid hown2
       have HG1 := Lib.hid hg1
       have HAT := Lib.hid hat1
       have HB1 := Lib.hid hb1
       clear hown1 hown2 hg1 hat1 hb1))
  go_ret2
  refine ⟨_, rfl, ⟨heap_setCell_same _ _ _ _ _ _ HB1.out, ?_, hgB⟩, ⟨fun C hC => ?_, ?_, fun j h1 h2 h3 => ?_⟩, ?_⟩
  · exact World.ownsRow.kept HO1.out (set_grownS (World.grownBy.refl w1 _) 0 _) (.inr (fun e => absurd (World.ownsRow.lt HO1.out _ e).1 (by omega)))
  · exact ((Below.refl C w).grown HG1.out (by omega) (fun k hk => by have := (World.ownsRow.lt HO.out k hk).1; omega)).setCell (p := ⟨g, 0, none⟩) hC _
  · simpa [World.setCell] using HG1.out.size
  · exact (heap_setCell_other _ _ _ _ h2).trans (HG1.out.block j h1 h3)
  · rcases HAT.out with h | h
    · exact .inl h
    · exact .inr ⟨_, h, Nat.le_refl _⟩
end Go.Proofs.YtakigeichhngbaaDoor
namespace Go.Proofs.YtakigeichhngbaaDoor
open Go.RowKit
set_option linter.unusedVariables false
set_option linter.unusedSimpArgs false
abbrev rowI (op dst src off c : Int) (p : Option Addr) : Obj := .cells #[.int .u32 op, .int .u8 dst, .int .u8 src, .int .i16 off, .int .i64 c, .pointer p] 65
/-- inside Marshal: the instruction's box behind the switch -/
def MarMid (w : World) (op dst src off c : Int) (p : Option Addr) (wx : World) : Prop :=
  wx.heap[w.heap.size]? = some (rowI op dst src off c p) ∧ Below w.heap.size w wx ∧ wx.heap.size = w.heap.size + 1
theorem MarMid.mk' (w : World) (op dst src off c : Int) (p : Option Addr) : MarMid w op dst src off c p (w.alloc (rowI op dst src off c p)) :=
  ⟨heap_alloc_new w _, (Below.refl _ _).alloc (Nat.le_refl _) _, by simp⟩
/-- inside Marshal: the instruction's box, and the eight bytes D -/
structure MSt (w W : World) (op dst src off c : Int) (p : Option Addr) (D : Nat) (d : List Value) : Prop where
  fr : Below w.heap.size w W
  x : W.heap[w.heap.size]? = some (rowI op dst src off c p)
  d : W.heap[D]? = some (.cells d.toArray 5 (0, 0))
  hXD : w.heap.size < D
section
variable {w W : World} {op dst src off c : Int} {p : Option Addr} {D : Nat} {d : List Value}
theorem MSt.init (h : MarMid w op dst src off c p W) (d : List Value) : MSt w (W.alloc (.cells d.toArray 5)) op dst src off c p W.heap.size d :=
  have hb := (Below.refl W.heap.size W).alloc (Nat.le_refl _) (.cells d.toArray 5)
  ⟨h.2.1.trans (hb.mono h.2.1.size), (hb.block _ (by have := h.2.2; omega)).trans h.1, heap_alloc_new W _, by have := h.2.2; omega⟩
theorem MSt.set (h : MSt w W op dst src off c p D d) (j : Nat) (v : Value) : MSt w (W.setCell ⟨D, j, none⟩ v) op dst src off c p D (d.set j v) :=
  ⟨h.fr.setCell (p := ⟨D, j, none⟩) (Nat.le_of_lt h.hXD) v, (heap_setCell_other _ _ _ _ (Nat.ne_of_lt h.hXD)).trans h.x, by rw [heap_setCell_same _ _ _ _ _ _ h.d]; simp, h.hXD⟩
theorem MSt.grow {W' : World} (h : MSt w W op dst src off c p D d) (hb : Below W.heap.size W W') : MSt w W' op dst src off c p D d :=
  ⟨h.fr.trans (hb.mono h.fr.size), (hb.block _ (lt_of_blk h.x)).trans h.x, (hb.block _ (lt_of_blk h.d)).trans h.d, h.hXD⟩
theorem MSt.new (h : MSt w W op dst src off c p D d) (o : Obj) : MSt w (W.alloc o) op dst src off c p D d := h.grow ((Below.refl _ _).alloc (Nat.le_refl _) o)
theorem MSt.drew (h : MSt w W op dst src off c p D d) : MSt w W.drew op dst src off c p D d := h.grow (Below.refl _ _).drew
theorem SinkAt.below {g B : Nat} {v : Value} {bs : List Int} (h : SinkAt w g B v bs) (hb : Below w.heap.size w W) : SinkAt W g B v bs :=
  ⟨(hb.block _ (lt_of_blk h.box)).trans h.box, World.ownsRow.kept h.own (row := none) ⟨hb.os, hb.tape, hb.output, hb.size, fun k hk _ => hb.block k hk⟩ (by cases v.ownBlock <;> simp), h.lt⟩
theorem reads8 {W : World} {D : Nat} {a b c d e f g h : Value} (hd : W.heap[D]? = some (.cells #[a, b, c, d, e, f, g, h] 5 (0, 0))) : Reads W W.heap.size 1 (some ⟨D, 0, none⟩) 8 [a, b, c, d, e, f, g, h] := by
  obtain ⟨d0, d1, d2, d3, d4, d5, d6, d7⟩ := cells8u hd
  refine ⟨rfl, fun _ => ⟨_, rfl, lt_of_blk hd, ?_⟩⟩
  intro j u hj
  match j, hj with
  | 0, hj => simp at hj; subst hj; exact d0
  | 1, hj => simp at hj; subst hj; exact d1
  | 2, hj => simp at hj; subst hj; exact d2
  | 3, hj => simp at hj; subst hj; exact d3
  | 4, hj => simp at hj; subst hj; exact d4
  | 5, hj => simp at hj; subst hj; exact d5
  | 6, hj => simp at hj; subst hj; exact d6
  | 7, hj => simp at hj; subst hj; exact d7
/-- grown first, written then -/
theorem SinkFr.after {W' : World} {g B : Nat} {v : Value} {bs : List Int} (hs : SinkAt w g B v bs) (hB : B ≤ w.heap.size) (hb : Below w.heap.size w W) (h : SinkFr W W' g v) : SinkFr w W' g v :=
  have hg := lt_of_blk hs.box
  ⟨fun C hC => (hb.mono (by omega)).trans (h.below C hC), Nat.le_trans hb.size h.size, fun j h1 h2 h3 => (h.other j (Nat.lt_of_lt_of_le h1 hb.size) h2 h3).trans (hb.block j h1)⟩
/-- written twice -/
theorem SinkFr.then {W' : World} {g : Nat} {v v' : Value} (h : SinkFr w W g v) (ho : v'.ownBlock = v.ownBlock ∨ ∃ j, v'.ownBlock = some j ∧ w.heap.size ≤ j) (h' : SinkFr W W' g v') : SinkFr w W' g v :=
  ⟨fun C hC => (h.below C hC).trans (h'.below C hC), Nat.le_trans h.size h'.size, fun j h1 h2 h3 => (h'.other j (Nat.lt_of_lt_of_le h1 h.size) h2 (by
    rcases ho with ho | ⟨k, ho, hk⟩
    · rw [ho]; exact h3
    · rw [ho]; intro e; injection e with e; omega)).trans (h.other j h1 h2 h3)⟩
theorem ho_of {v v' : Value} (h : v'.ownBlock = v.ownBlock ∨ ∃ j, v'.ownBlock = some j ∧ W.heap.size ≤ j) (hs : w.heap.size ≤ W.heap.size) : v'.ownBlock = v.ownBlock ∨ ∃ j, v'.ownBlock = some j ∧ w.heap.size ≤ j :=
  h.imp_right fun ⟨j, h1, h2⟩ => ⟨j, h1, Nat.le_trans hs h2⟩
end
theorem uw16 (x : Int) : IntKind.u16.wrap x = x % 65536 := by simp [IntKind.wrap, IntKind.bits, IntKind.signed]
theorem uw32 (x : Int) : IntKind.u32.wrap x = x % 4294967296 := by simp [IntKind.wrap, IntKind.bits, IntKind.signed]
theorem wrap32_mod (c : Int) : wrap32 c % 4294967296 = c % 4294967296 := by unfold wrap32; omega
/-- behind Marshal: the count of bytes, no error, the sink longer -/
def WriteEnd8 (w : World) (g B : Nat) (v : Value) (bs : List Int) (m : Int) (e : Ending) (w' : World) : Prop :=
  ∃ v', e = .returned (.tuple #[.int .u64 m, .nilIface]) ∧ SinkAt w' g B v' bs ∧ SinkFr w w' g v ∧ (v'.ownBlock = v.ownBlock ∨ ∃ j, v'.ownBlock = some j ∧ w.heap.size ≤ j)
end Go.Proofs.YtakigeichhngbaaDoor
namespace Go.Proofs.YtakigeichhngbaaDoor
open Go.RowKit
set_option linter.unusedVariables false
set_option linter.unusedSimpArgs false
theorem i32u32 (c : Int) : wrap32 (c % 4294967296) = wrap32 c := by unfold wrap32; omega
/-- inside Marshal, behind the first write: the instruction's box X, the eight bytes D, all else as it was -/
structure MSt2 (w W : World) (X D : Nat) (rowX : Obj) (d : List Value) : Prop where
  fr : Below D w W
  other : ∀ j, j < w.heap.size → j ≠ D → W.heap[j]? = w.heap[j]?
  x : W.heap[X]? = some rowX
  d : W.heap[D]? = some (.cells d.toArray 5 (0, 0))
  hXD : X < D
  hD : D < w.heap.size
section
variable {w w5 w6 W : World} {X D : Nat} {rowX : Obj} {d : List Value} {g B : Nat} {v v' : Value} {bs bs' : List Int}
theorem MSt2.init {op dst src off c : Int} {p : Option Addr} (h : MSt w w5 op dst src off c p D d) (hs : SinkAt w g B v bs) (hf : SinkFr w5 w6 g v) : MSt2 w6 w6 w.heap.size D (rowI op dst src off c p) d :=
  have h1 := h.hXD
  have hg := lt_of_blk hs.box
  have h5 := lt_of_blk h.d
  have ho : ∀ j, w.heap.size ≤ j → some j ≠ v.ownBlock := fun j hj e => by have := (World.ownsRow.lt hs.own j e.symm).2; omega
  ⟨Below.refl _ _, fun _ _ _ => rfl, (hf.other _ (by omega) (by omega) (ho _ (Nat.le_refl _))).trans h.x, (hf.other _ h5 (by omega) (ho _ (by omega))).trans h.d, h1, Nat.lt_of_lt_of_le h5 hf.size⟩
theorem MSt2.set (h : MSt2 w W X D rowX d) (j : Nat) (u : Value) : MSt2 w (W.setCell ⟨D, j, none⟩ u) X D rowX (d.set j u) :=
  ⟨h.fr.setCell (p := ⟨D, j, none⟩) (Nat.le_refl _) u, fun k h1 h2 => (heap_setCell_other _ _ _ _ h2).trans (h.other k h1 h2), (heap_setCell_other _ _ _ _ (Nat.ne_of_lt h.hXD)).trans h.x, by rw [heap_setCell_same _ _ _ _ _ _ h.d]; simp, h.hXD, h.hD⟩
theorem MSt2.grow {W' : World} (h : MSt2 w W X D rowX d) (hb : Below W.heap.size W W') : MSt2 w W' X D rowX d :=
  have h1 := lt_of_blk h.d
  ⟨h.fr.trans (hb.mono (by omega)), fun k h2 h3 => (hb.block k (Nat.lt_of_lt_of_le h2 h.fr.size)).trans (h.other k h2 h3), (hb.block _ (lt_of_blk h.x)).trans h.x, (hb.block _ h1).trans h.d, h.hXD, h.hD⟩
theorem MSt2.new (h : MSt2 w W X D rowX d) (o : Obj) : MSt2 w (W.alloc o) X D rowX d := h.grow ((Below.refl _ _).alloc (Nat.le_refl _) o)
theorem MSt2.drew (h : MSt2 w W X D rowX d) : MSt2 w W.drew X D rowX d := h.grow (Below.refl _ _).drew
theorem MSt2.sink (h : MSt2 w W X D rowX d) (hs : SinkAt w g B v bs) (hg : g < D) (ho : v.ownBlock ≠ some D) : SinkAt W g B v bs :=
  ⟨(h.fr.block _ hg).trans hs.box, World.ownsRow.kept hs.own (row := some D) ⟨h.fr.os, h.fr.tape, h.fr.output, h.fr.size, fun k hk h2 => h.other k hk (fun e => h2 (by rw [e]))⟩ (.inr ho), hs.lt⟩
theorem MSt2.frame {w0 : World} (h : MSt2 w W X D rowX d) (hf : SinkFr w0 w g v) (h0 : w0.heap.size ≤ D) (hg : g < D) : SinkFr w0 W g v :=
  ⟨fun C hC => (hf.below C hC).trans (h.fr.mono (by omega)), Nat.le_trans hf.size h.fr.size, fun j h1 h2 h3 => (h.other j (Nat.lt_of_lt_of_le h1 hf.size) (by omega)).trans (hf.other j h1 h2 h3)⟩
theorem notD {w0 : World} {j0 : Nat} (hs : SinkAt w0 g B v bs) (ho : v'.ownBlock = v.ownBlock ∨ ∃ j, v'.ownBlock = some j ∧ j0 ≤ j) (h0 : w0.heap.size ≤ D) (hD : D < j0) : v'.ownBlock ≠ some D := by
  intro e
  rcases ho with ho | ⟨j, ho, hj⟩
  · rw [ho] at e; have := (World.ownsRow.lt hs.own D e).2; omega
  · rw [ho] at e; injection e with e; omega
end
end Go.Proofs.YtakigeichhngbaaDoor
