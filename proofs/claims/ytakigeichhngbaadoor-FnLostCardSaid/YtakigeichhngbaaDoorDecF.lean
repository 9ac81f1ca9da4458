import Derived.Test.YtakigeichhngbaaDoorPlOne
import Derived.Test.YtakigeichhngbaaDoorBytes
import Derived.Test.YtakigeichhngbaaDoorUnmF
import Derived.Test.YtakigeichhngbaaDoorSp
import Derived.Deep.RegionWith
import Derived.Deep.RegionHeld3
import Derived.Handy
import Derived.Deep.DeepCutAuto
import Derived.Laws.ResultCell
namespace Go.Proofs.YtakigeichhngbaaDoor
open Go.RowKit
set_option linter.unusedVariables false
set_option linter.unusedSimpArgs false

theorem registers_c (x : Int) (big : Bool) (w : World) (hx : isByte x) : Calls Tryd.prog 26 #[.int .u8 x, .bool big] w fun e w' => e = .returned (.tuple #[.int .i64 (bif big then x / 16 else x % 16), .int .i64 (bif big then x % 16 else x / 16)]) ∧ w = w' := by
  obtain ⟨h0, h1⟩ := hx
  cases big
  all_goals
    go_enter Tryd.func26, Tryd.ntmps26
    go_wp2
    go_ret2
    exact ⟨rfl, rfl⟩
theorem map32_c (off : Int) (w : World) : Calls Tryd.prog 55 #[.int .i64 off] w fun e w' => e = .returned (.int .i64 (sMap32 off)) ∧ w = w' := by
  cases h8 : (off == 8)
  · cases h16 : (off == 16)
    · cases h32 : (off == 32)
      all_goals
        go_enter Tryd.func55, Tryd.ntmps55
        go_wp2
        go_ret
        exact ⟨by simp [sMap32, h8, h16, h32], rfl⟩
    · go_enter Tryd.func55, Tryd.ntmps55
      go_wp2
      go_ret
      exact ⟨by simp [sMap32, h8, h16], rfl⟩
  · go_enter Tryd.func55, Tryd.ntmps55
    go_wp2
    go_ret
    exact ⟨by simp [sMap32, h8], rfl⟩
theorem sMap32_bd (off : Int) : 0 ≤ sMap32 off ∧ sMap32 off ≤ 3 := by
  unfold sMap32
  cases off == 8 <;> cases off == 16 <;> cases off == 32 <;> simp
theorem extended_c (op off : Int) (w : World) : Calls Tryd.prog 28 #[.int .i64 op, .int .i64 off] w fun e w' => e = .returned (.tuple #[.int .i64 (sExtOp op off), .bool (sExtOk op off)]) ∧ w = w' := by
  obtain ⟨m0, m1⟩ := sMap32_bd off
  cases h0 : (off == 0)
  · cases a : (bits .and .i64 op 240 == 48)
    · cases b : (bits .and .i64 op 240 == 144)
      · cases c : (bits .and .i64 op 240 == 176)
        · go_enter Tryd.func28, Tryd.ntmps28
          go_wp2_with (first | (go_at_call 55; ((with_reducible refine (map32_c _ _).mono ?_); rintro e w' ⟨rfl, rfl⟩)))
          go_ret2
          exact ⟨by simp [sExtOp, sExtOk, h0, a, b, c], rfl⟩
        · by_cases d : 0 < sMap32 off
          · go_enter Tryd.func28, Tryd.ntmps28
            go_wp2_with (first | (go_at_call 55; ((with_reducible refine (map32_c _ _).mono ?_); rintro e w' ⟨rfl, rfl⟩)))
            go_ret2
            exact ⟨by simp [sExtOp, sExtOk, h0, a, b, c, d], rfl⟩
          · have d' : decide (0 < sMap32 off) = false := by simpa using d
            go_enter Tryd.func28, Tryd.ntmps28
            go_wp2_with (first | (go_at_call 55; ((with_reducible refine (map32_c _ _).mono ?_); rintro e w' ⟨rfl, rfl⟩)))
            go_ret2
            have s1 : sExtOp op off = bits .or .i64 op (sMap32 off * 256) := by simp only [sExtOp, h0, a, b, c, cond_true, cond_false, Bool.or_self]
            have s2 : sExtOk op off = false := by simp only [sExtOk, h0, a, b, c, d', cond_true, cond_false, Bool.or_self, Bool.false_and]
            rw [s1, s2]
            exact ⟨rfl, rfl⟩
      · go_enter Tryd.func28, Tryd.ntmps28
        go_wp2_with (first | (go_at_call 55; ((with_reducible refine (map32_c _ _).mono ?_); rintro e w' ⟨rfl, rfl⟩)))
        go_ret2
        exact ⟨by simp [sExtOp, sExtOk, h0, a, b], rfl⟩
    · go_enter Tryd.func28, Tryd.ntmps28
      go_wp2_with (first | (go_at_call 55; ((with_reducible refine (map32_c _ _).mono ?_); rintro e w' ⟨rfl, rfl⟩)))
      go_ret2
      exact ⟨by simp [sExtOp, sExtOk, h0, a], rfl⟩
  · go_enter Tryd.func28, Tryd.ntmps28
    go_wp2_with (first | (go_at_call 55; ((with_reducible refine (map32_c _ _).mono ?_); rintro e w' ⟨rfl, rfl⟩)))
    go_ret2
    exact ⟨by simp [sExtOp, sExtOk, h0], rfl⟩
/-- a slice's bytes -/
def BytesAt (w : World) (A : Option Addr) (bs : List Int) : Prop :=
  (∀ b ∈ bs, isByte b) ∧ (bs = [] ∨ ∃ B o, A = some ⟨B, o, none⟩ ∧ B < w.heap.size ∧ ∀ j v, (u8s bs)[j]? = some v → w.cell? ⟨B, o + j, none⟩ = some v)
theorem BytesAt.keep {w w' : World} {A : Option Addr} {bs : List Int} (h : BytesAt w A bs) (hb : Below w.heap.size w w') : BytesAt w' A bs := by
  obtain ⟨hy, h⟩ := h
  refine ⟨hy, ?_⟩
  rcases h with h | ⟨B, o, rfl, hl, hc⟩
  · exact .inl h
  · exact .inr ⟨B, o, rfl, Nat.lt_of_lt_of_le hl hb.size, fun j v hv => (hb.cell (p := ⟨B, o + j, none⟩) hl).trans (hc j v hv)⟩
/-- an instruction, as a value -/
abbrev insV (op dst src off c : Int) (sym ref : ByteArray) : Value := .agg #[.int .i64 op, .int .i64 dst, .int .i64 src, .int .i64 off, .int .i64 c, .string sym, .string ref]
abbrev noIns : Value := insV 0 0 0 0 0 ⟨#[]⟩ ⟨#[]⟩
theorem results_ctt {P : Program} {fn : Func} {p u s : Tmp} {ty : TypeId} (h : fn.results = #[.cell p ty, .tmp u, .tmp s]) (tmps : Array Value) (w : World) (g : Nat) (t : TypeId) (cs : Array Value) (fr : Nat × Nat) (d : TypeDesc) (v1 v2 : Value)
    (hd : (match d with | .struct _ | .array _ _ => true | _ => false) = true) (hp : tmps.getD p undef = .pointer (some ⟨g, 0, none⟩)) (hg : w.heap[g]? = some (.cells cs t fr))
    (hu : P.underlying ty = some d) (hi : (P.info? ty).map (·.size) = some cs.size) (hv : tmps.getD u undef = v1) (hw : tmps.getD s undef = v2) :
    (results fn tmps).run P w = .ok (.tuple #[.agg cs, v1, v2]) w := by
  have hp' : tmps[p]?.getD undef = .pointer (some ⟨g, 0, none⟩) := by simpa using hp
  have hv' : tmps[u]?.getD undef = v1 := by simpa using hv
  have hw' : tmps[s]?.getD undef = v2 := by simpa using hw
  simp [results, h, hp', hv', hw', asAddr, run_loadVar_row w g t ty cs fr d hg hu (by cases d <;> first | rfl | cases hd) hi, Sem.run_bind, Result.andThen]
theorem Decode_short (big : Bool) (A : Option Addr) (n cap : Nat) (w : World) (hn : n < 8) :
    Calls Tryd.prog 8 #[.slice A n cap, .bool big] w fun e w' => e = .returned (.tuple #[noIns, .int .i64 0, .int .i64 1]) ∧ Below w.heap.size w w' := by
  have hn' : (n : Int) < 8 := by omega
  go_enter Tryd.func8, Tryd.ntmps8
  go_wp2
  exact bodyPost_ret (results_ctt Tryd.results8 _ _ w.heap.size 24 _ (0, 0) _ _ _ rfl rfl (heap_alloc_new w _) Tryd.underlying24 (by kernel_rfl) rfl rfl) rfl ⟨rfl, (Below.refl _ _).alloc (Nat.le_refl _) _⟩
/-- the first eight bytes, as cells -/
theorem cells_bytes {w : World} {B o : Nat} {bs : List Int} (h : ∀ j v, (u8s bs)[j]? = some v → w.cell? ⟨B, o + j, none⟩ = some v) (j : Nat) (b : Int) (hb : bs[j]? = some b) : w.cell? ⟨B, o + j, none⟩ = some (.int .u8 b) :=
  h j _ (by simp [u8s, hb])
theorem cell7 {W : World} {b : Nat} {t : TypeId} {u0 u1 u2 u3 u4 u5 u6 : Value} (h : W.heap[b]? = some (.cells #[u0, u1, u2, u3, u4, u5, u6] t (0, 0))) :
    W.cell? ⟨b, 0, none⟩ = some u0 ∧ W.cell? ⟨b, 1, none⟩ = some u1 ∧ W.cell? ⟨b, 2, none⟩ = some u2 ∧ W.cell? ⟨b, 3, none⟩ = some u3 ∧ W.cell? ⟨b, 4, none⟩ = some u4 ∧ W.cell? ⟨b, 5, none⟩ = some u5 ∧ W.cell? ⟨b, 6, none⟩ = some u6 ∧ ∀ j, W.frozen? ⟨b, j, none⟩ = false :=
  ⟨cell_of_row _ _ _ _ _ _ h, cell_of_row _ _ _ _ _ _ h, cell_of_row _ _ _ _ _ _ h, cell_of_row _ _ _ _ _ _ h, cell_of_row _ _ _ _ _ _ h, cell_of_row _ _ _ _ _ _ h, cell_of_row _ _ _ _ _ _ h, fun j => frozen_of_row _ _ _ _ _ h⟩
theorem w16 (n : Int) : -32768 ≤ IntKind.i16.wrap n ∧ IntKind.i16.wrap n ≤ 32767 := by
  simp only [IntKind.wrap, IntKind.bits, IntKind.signed]
  simp
  split <;> omega
theorem seven_blk (W : World) (b : Nat) (t : TypeId) (u0 u1 u2 u3 u4 u5 u6 v0 v1 v2 v3 v4 v5 v6 : Value) (h : W.heap[b]? = some (.cells #[u0, u1, u2, u3, u4, u5, u6] t (0, 0))) : (((((((W.setCell ⟨b, 0, none⟩ v0).setCell ⟨b, 1, none⟩ v1).setCell ⟨b, 2, none⟩ v2).setCell ⟨b, 3, none⟩ v3).setCell ⟨b, 4, none⟩ v4).setCell ⟨b, 5, none⟩ v5).setCell ⟨b, 6, none⟩ v6).heap[b]? = some (.cells #[v0, v1, v2, v3, v4, v5, v6] t (0, 0)) := by
  have h0 : (W.setCell ⟨b, 0, none⟩ v0).heap[b]? = some (.cells #[v0, u1, u2, u3, u4, u5, u6] t (0, 0)) := heap_setCell_same _ _ _ _ _ _ h
  have h1 : ((W.setCell ⟨b, 0, none⟩ v0).setCell ⟨b, 1, none⟩ v1).heap[b]? = some (.cells #[v0, v1, u2, u3, u4, u5, u6] t (0, 0)) := heap_setCell_same _ _ _ _ _ _ h0
  have h2 : (((W.setCell ⟨b, 0, none⟩ v0).setCell ⟨b, 1, none⟩ v1).setCell ⟨b, 2, none⟩ v2).heap[b]? = some (.cells #[v0, v1, v2, u3, u4, u5, u6] t (0, 0)) := heap_setCell_same _ _ _ _ _ _ h1
  have h3 : ((((W.setCell ⟨b, 0, none⟩ v0).setCell ⟨b, 1, none⟩ v1).setCell ⟨b, 2, none⟩ v2).setCell ⟨b, 3, none⟩ v3).heap[b]? = some (.cells #[v0, v1, v2, v3, u4, u5, u6] t (0, 0)) := heap_setCell_same _ _ _ _ _ _ h2
  have h4 : (((((W.setCell ⟨b, 0, none⟩ v0).setCell ⟨b, 1, none⟩ v1).setCell ⟨b, 2, none⟩ v2).setCell ⟨b, 3, none⟩ v3).setCell ⟨b, 4, none⟩ v4).heap[b]? = some (.cells #[v0, v1, v2, v3, v4, u5, u6] t (0, 0)) := heap_setCell_same _ _ _ _ _ _ h3
  have h5 : ((((((W.setCell ⟨b, 0, none⟩ v0).setCell ⟨b, 1, none⟩ v1).setCell ⟨b, 2, none⟩ v2).setCell ⟨b, 3, none⟩ v3).setCell ⟨b, 4, none⟩ v4).setCell ⟨b, 5, none⟩ v5).heap[b]? = some (.cells #[v0, v1, v2, v3, v4, v5, u6] t (0, 0)) := heap_setCell_same _ _ _ _ _ _ h4
  exact heap_setCell_same _ _ _ _ _ _ h5
theorem seven_below {B : Nat} {w W : World} (h : Below B w W) (b : Nat) (hb : B ≤ b) (v0 v1 v2 v3 v4 v5 v6 : Value) : Below B w (((((((W.setCell ⟨b, 0, none⟩ v0).setCell ⟨b, 1, none⟩ v1).setCell ⟨b, 2, none⟩ v2).setCell ⟨b, 3, none⟩ v3).setCell ⟨b, 4, none⟩ v4).setCell ⟨b, 5, none⟩ v5).setCell ⟨b, 6, none⟩ v6) :=
  ((((((h.setCell (p := ⟨b, 0, none⟩) hb v0).setCell (p := ⟨b, 1, none⟩) hb v1).setCell (p := ⟨b, 2, none⟩) hb v2).setCell (p := ⟨b, 3, none⟩) hb v3).setCell (p := ⟨b, 4, none⟩) hb v4).setCell (p := ⟨b, 5, none⟩) hb v5).setCell (p := ⟨b, 6, none⟩) hb v6
/-- inside Decode: the two blocks: the result's r, the instruction's x -/
structure DSt (w W : World) (r x : Nat) (op d s off c : Int) : Prop where
  below : Below w.heap.size w W
  rr : W.heap[r]? = some (.cells #[.int .i64 0, .int .i64 0, .int .i64 0, .int .i64 0, .int .i64 0, .string ⟨#[]⟩, .string ⟨#[]⟩] 24 (0, 0))
  xx : W.heap[x]? = some (.cells #[.int .i64 op, .int .i64 d, .int .i64 s, .int .i64 off, .int .i64 c, .string ⟨#[]⟩, .string ⟨#[]⟩] 24 (0, 0))
  hr : r = w.heap.size
  hx : r < x
section
variable {w W : World} {r x : Nat} {op d s off c : Int}
theorem DSt.set0 (h : DSt w W r x op d s off c) (v : Int) : DSt w (W.setCell ⟨x, 0, none⟩ (.int .i64 v)) r x v d s off c :=
  ⟨h.below.setCell (p := ⟨x, 0, none⟩) (show w.heap.size ≤ x by have := h.hr; have := h.hx; omega) _, (heap_setCell_other _ _ _ _ (Nat.ne_of_lt h.hx)).trans h.rr, heap_setCell_same _ _ _ _ _ _ h.xx, h.hr, h.hx⟩
theorem DSt.set1 (h : DSt w W r x op d s off c) (v : Int) : DSt w (W.setCell ⟨x, 1, none⟩ (.int .i64 v)) r x op v s off c :=
  ⟨h.below.setCell (p := ⟨x, 1, none⟩) (show w.heap.size ≤ x by have := h.hr; have := h.hx; omega) _, (heap_setCell_other _ _ _ _ (Nat.ne_of_lt h.hx)).trans h.rr, heap_setCell_same _ _ _ _ _ _ h.xx, h.hr, h.hx⟩
theorem DSt.set2 (h : DSt w W r x op d s off c) (v : Int) : DSt w (W.setCell ⟨x, 2, none⟩ (.int .i64 v)) r x op d v off c :=
  ⟨h.below.setCell (p := ⟨x, 2, none⟩) (show w.heap.size ≤ x by have := h.hr; have := h.hx; omega) _, (heap_setCell_other _ _ _ _ (Nat.ne_of_lt h.hx)).trans h.rr, heap_setCell_same _ _ _ _ _ _ h.xx, h.hr, h.hx⟩
theorem DSt.set3 (h : DSt w W r x op d s off c) (v : Int) : DSt w (W.setCell ⟨x, 3, none⟩ (.int .i64 v)) r x op d s v c :=
  ⟨h.below.setCell (p := ⟨x, 3, none⟩) (show w.heap.size ≤ x by have := h.hr; have := h.hx; omega) _, (heap_setCell_other _ _ _ _ (Nat.ne_of_lt h.hx)).trans h.rr, heap_setCell_same _ _ _ _ _ _ h.xx, h.hr, h.hx⟩
theorem DSt.set4 (h : DSt w W r x op d s off c) (v : Int) : DSt w (W.setCell ⟨x, 4, none⟩ (.int .i64 v)) r x op d s off v :=
  ⟨h.below.setCell (p := ⟨x, 4, none⟩) (show w.heap.size ≤ x by have := h.hr; have := h.hx; omega) _, (heap_setCell_other _ _ _ _ (Nat.ne_of_lt h.hx)).trans h.rr, heap_setCell_same _ _ _ _ _ _ h.xx, h.hr, h.hx⟩
theorem DSt.drew (h : DSt w W r x op d s off c) : DSt w W.drew r x op d s off c := ⟨h.below.drew, h.rr, h.xx, h.hr, h.hx⟩
end
/-- inside Decode: the instruction's block behind its making -/
def DecMid (W : World) (op off c : Int) (s : Value) (wx : World) : Prop :=
  s = .pointer (some ⟨W.heap.size, 0, none⟩) ∧ wx.heap[W.heap.size]? = some (.cells #[.int .i64 op, .int .i64 0, .int .i64 0, .int .i64 off, .int .i64 c, .string ⟨#[]⟩, .string ⟨#[]⟩] 24 (0, 0)) ∧ Below W.heap.size W wx
def decV (op dst src off c n told : Int) : Value := .tuple #[insV op dst src off c ⟨#[]⟩ ⟨#[]⟩, .int .i64 n, .int .i64 told]
def decode24 (big : Bool) (dst src off lo : Int) : List Int → Value
  | c0 :: c1 :: c2 :: c3 :: c4 :: c5 :: c6 :: c7 :: _ => bif (bif big then n32 c3 c2 c1 c0 else n32 c0 c1 c2 c3) == 0 then decV 24 dst src off (dC (bif big then n32 c7 c6 c5 c4 else n32 c4 c5 c6 c7) lo) 16 0 else decV 0 0 0 0 0 0 2
  | _ => decV 0 0 0 0 0 0 1
def decode8 (big : Bool) (op dst src off c : Int) : Value := bif dOpen op off c then decV 0 0 0 0 0 0 2 else decV (dOp op off c) dst src (dOff op off) c 8 0
end Go.Proofs.YtakigeichhngbaaDoor
