import Derived.Test.YtakigeichhngbaaDoorMeta2
namespace Go.Proofs.YtakigeichhngbaaDoor
open Go.RowKit
set_option linter.unusedVariables false
set_option linter.unusedSimpArgs false

theorem SetMeta_c (a : TypeId) (b o : Nat) (p : Option Addr) (l : List (TypeId × ByteArray)) (s : ByteArray) (w : World) (ha : isKey a) (hm : w.cell? ⟨b, o, none⟩ = some (.pointer p)) (hf : w.frozen? ⟨b, o, none⟩ = false) (hb : b < w.heap.size) (hl : MetaList w p l) (h2 : l.length ≤ 2)
    (hg : getL a l = none) :
    Calls Tryd.prog 93 #[.pointer (some ⟨b, o, none⟩), .iface a (.agg #[]), .iface 9 (.string s)] w
      fun e w' => e = .returned (.tuple #[]) ∧ (w.setCell ⟨b, o, none⟩ (.pointer (some ⟨w.heap.size, 0, none⟩))).alloc (.cells #[.pointer p, .iface a (.agg #[]), .iface 9 (.string s)] 173) = w' := by
  have F := Lib.hid (find_c a b o p l w ha hm hl h2)
  clear hl
  have hfa : ∀ X, (w.alloc X).frozen? ⟨b, o, none⟩ = false := fun X => (World.frozen?_alloc_old w X _ (Nat.ne_of_lt hb)).trans hf
  have hca : ∀ X, (w.alloc X).cell? ⟨b, o, none⟩ = some (.pointer p) := fun X => (World.cell?_alloc_lt w X _ hb).trans hm
  go_enter Tryd.func93, Tryd.ntmps93
  go_wp2_with fail
  refine F.out.mono ?_
  rintro e w' ⟨⟨-, rfl⟩ | ⟨s', g, hs, rfl, hgl, hc⟩, rfl⟩
  · go_wp2
    go_end0
    exact ⟨rfl, rfl⟩
  · rw [hg] at hs; cases hs
theorem Elem.new (W : World) (p : Option Addr) (a : TypeId) (s : ByteArray) : Elem (W.alloc (.cells #[.pointer p, .iface a (.agg #[]), .iface 9 (.string s)] 173)) W.heap.size p a s := heap_alloc_new W _
/-- what a function that makes an instruction hands back -/
def InstrEnd (op dst src off c : Int) (l : List (TypeId × ByteArray)) (e : Ending) (w' : World) : Prop :=
  ∃ p, e = .returned (.agg #[.int .u32 op, .int .u8 dst, .int .u8 src, .int .i16 off, .int .i64 c, .pointer p]) ∧ MetaList w' p l
theorem WithSymbol_c (op dst src off c : Int) (p : Option Addr) (l : List (TypeId × ByteArray)) (s : ByteArray) (w : World) (hl : MetaList w p l) (h2 : l.length ≤ 2) (hg : getL 142 l = none) :
    Calls Tryd.prog 74 #[.agg #[.int .u32 op, .int .u8 dst, .int .u8 src, .int .i16 off, .int .i64 c, .pointer p], .string s] w
    fun e w' => InstrEnd op dst src off c ((142, s) :: l) e w' ∧ Below w.heap.size w w' := by
  have G := Lib.hid fun (X : World) (hb : Below w.heap.size w X) (hm : X.cell? ⟨w.heap.size, 5, none⟩ = some (.pointer p)) (hf : X.frozen? ⟨w.heap.size, 5, none⟩ = false) (hz : w.heap.size < X.heap.size) => SetMeta_c 142 w.heap.size 5 p l s X (by simp [isKey]) hm hf hz (hl.keep hb) h2 hg
  have HL := Lib.hid hl
  clear hl hg
  go_enter Tryd.func74, Tryd.ntmps74
  go_wp2_with fail
  refine (G.out _ (((Below.refl _ _).alloc (Nat.le_refl _) _).alloc (by simp) _) (by go_simp) (by go_simp) (by simp; omega)).mono ?_
  rintro e w' ⟨rfl, rfl⟩
  go_wp2
  have e1 := Elem.new ((w.alloc (.cells #[.int .u32 op, .int .u8 dst, .int .u8 src, .int .i16 off, .int .i64 c, .pointer (some ⟨w.heap.size + 1 + 1, 0, none⟩)] 65)).alloc (.cells #[.int .u32 op, .int .u8 dst, .int .u8 src, .int .i16 off, .int .i64 c, .pointer (some ⟨w.heap.size + 1 + 1, 0, none⟩)] 65)) p 142 s
  simp only [World.size_alloc] at e1
  have hB : ∀ X Y Z : Obj, Below w.heap.size w (((w.alloc X).alloc Y).alloc Z) := fun X Y Z => (((Below.refl _ _).alloc (Nat.le_refl _) _).alloc (by simp) _).alloc (by simp; omega) _
  exact bodyPost_ret (v := .agg #[.int .u32 op, .int .u8 dst, .int .u8 src, .int .i16 off, .int .i64 c, .pointer (some ⟨w.heap.size + 1 + 1, 0, none⟩)]) (by simp [results, Tryd.results74, go_sem]) rfl ⟨⟨_, rfl, by simp [isKey], _, p, rfl, e1, HL.out.keep (hB _ _ _)⟩, hB _ _ _⟩
theorem WithReference_c (op dst src off c : Int) (p : Option Addr) (l : List (TypeId × ByteArray)) (s : ByteArray) (w : World) (hl : MetaList w p l) (h2 : l.length ≤ 2) (hg : getL 143 l = none) :
    Calls Tryd.prog 75 #[.agg #[.int .u32 op, .int .u8 dst, .int .u8 src, .int .i16 off, .int .i64 c, .pointer p], .string s] w
    fun e w' => InstrEnd op dst src off c ((143, s) :: l) e w' ∧ Below w.heap.size w w' := by
  have G := Lib.hid fun (X : World) (hb : Below w.heap.size w X) (hm : X.cell? ⟨w.heap.size, 5, none⟩ = some (.pointer p)) (hf : X.frozen? ⟨w.heap.size, 5, none⟩ = false) (hz : w.heap.size < X.heap.size) => SetMeta_c 143 w.heap.size 5 p l s X (by simp [isKey]) hm hf hz (hl.keep hb) h2 hg
  have HL := Lib.hid hl
  clear hl hg
  go_enter Tryd.func75, Tryd.ntmps75
  go_wp2_with fail
  refine (G.out _ (((Below.refl _ _).alloc (Nat.le_refl _) _).alloc (by simp) _) (by go_simp) (by go_simp) (by simp; omega)).mono ?_
  rintro e w' ⟨rfl, rfl⟩
  go_wp2
  have e1 := Elem.new ((w.alloc (.cells #[.int .u32 op, .int .u8 dst, .int .u8 src, .int .i16 off, .int .i64 c, .pointer (some ⟨w.heap.size + 1 + 1, 0, none⟩)] 65)).alloc (.cells #[.int .u32 op, .int .u8 dst, .int .u8 src, .int .i16 off, .int .i64 c, .pointer (some ⟨w.heap.size + 1 + 1, 0, none⟩)] 65)) p 143 s
  simp only [World.size_alloc] at e1
  have hB : ∀ X Y Z : Obj, Below w.heap.size w (((w.alloc X).alloc Y).alloc Z) := fun X Y Z => (((Below.refl _ _).alloc (Nat.le_refl _) _).alloc (by simp) _).alloc (by simp; omega) _
  exact bodyPost_ret (v := .agg #[.int .u32 op, .int .u8 dst, .int .u8 src, .int .i16 off, .int .i64 c, .pointer (some ⟨w.heap.size + 1 + 1, 0, none⟩)]) (by simp [results, Tryd.results75, go_sem]) rfl ⟨⟨_, rfl, by simp [isKey], _, p, rfl, e1, HL.out.keep (hB _ _ _)⟩, hB _ _ _⟩
end Go.Proofs.YtakigeichhngbaaDoor
