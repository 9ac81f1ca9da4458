import Derived.Test.YtakigeichhngbaaDoorInsOf
import Derived.Deep.RegionHeld3
import Derived.Handy
namespace Go.Proofs.YtakigeichhngbaaDoor
open Go.RowKit
set_option linter.unusedVariables false
set_option linter.unusedSimpArgs false

def symOf (l : List (TypeId × ByteArray)) : ByteArray := (getL 142 l).getD ⟨#[]⟩
def refOf (l : List (TypeId × ByteArray)) : ByteArray := (getL 143 l).getD ⟨#[]⟩
theorem heap4 (w : World) (X Y Z V : Obj) : ((((w.alloc X).alloc Y).alloc Z).alloc V).heap[w.heap.size + 1]? = some Y := by
  rw [Below.heap_alloc _ _ _ (by simp only [World.size_alloc]; omega), Below.heap_alloc _ _ _ (by simp only [World.size_alloc]; omega)]
  have := heap_alloc_new (w.alloc X) Y
  simpa only [World.size_alloc] using this
set_option maxHeartbeats 1000000 in
theorem told_c (op dst src off c : Int) (p : Option Addr) (l : List (TypeId × ByteArray)) (w : World) (hl : MetaList w p l) (h2 : l.length ≤ 2) (hF : (0 ≤ op ∧ op ≤ 4294967295) ∧ (0 ≤ dst ∧ dst ≤ 255) ∧ (0 ≤ src ∧ src ≤ 255) ∧ -32768 ≤ off ∧ off ≤ 32767) :
    Calls Tryd.prog 37 #[.agg #[.int .u32 op, .int .u8 dst, .int .u8 src, .int .i16 off, .int .i64 c, .pointer p]] w
      fun e w' => e = .returned (.agg #[.int .i64 op, .int .i64 dst, .int .i64 src, .int .i64 off, .int .i64 c, .string (symOf l), .string (refOf l)]) ∧ Below w.heap.size w w' := by
  have HL := Lib.hid hl
  clear hl
  obtain ⟨s, hs⟩ : ∃ s, s = symOf l := ⟨_, rfl⟩
  obtain ⟨r, hr⟩ : ∃ r, r = refOf l := ⟨_, rfl⟩
  rw [← hs, ← hr]
  have SC := Lib.hid fun (W : World) (hb : Below w.heap.size w W) => (hs ▸ Symbol_c op dst src off c p l W (HL.out.keep hb) h2 : Calls Tryd.prog 66 #[.agg #[.int .u32 op, .int .u8 dst, .int .u8 src, .int .i16 off, .int .i64 c, .pointer p]] W fun e w' => e = .returned (.string s) ∧ W.alloc (.cells #[.int .u32 op, .int .u8 dst, .int .u8 src, .int .i16 off, .int .i64 c, .pointer p] 65) = w')
  have RC := Lib.hid fun (W : World) (hb : Below w.heap.size w W) => (hr ▸ Reference_c op dst src off c p l W (HL.out.keep hb) h2 : Calls Tryd.prog 67 #[.agg #[.int .u32 op, .int .u8 dst, .int .u8 src, .int .i16 off, .int .i64 c, .pointer p]] W fun e w' => e = .returned (.string r) ∧ W.alloc (.cells #[.int .u32 op, .int .u8 dst, .int .u8 src, .int .i16 off, .int .i64 c, .pointer p] 65) = w')
  clear hs hr HL
  obtain ⟨⟨o0, o1⟩, ⟨d0, d1⟩, ⟨s0, s1⟩, f0, f1⟩ := hF
  have u0 := IntWalk.i64_in op (by omega)
  have u1 := IntWalk.i64_in dst (by omega)
  have u2 := IntWalk.i64_in src (by omega)
  have u3 := IntWalk.i64_in off (by omega)
  go_enter Tryd.func37, Tryd.ntmps37
  go_wp2
  go_region_held3 (fun w' => w'.cell? ⟨w.heap.size, 0, none⟩ = some (.int .u32 op) ∧ w'.cell? ⟨w.heap.size, 1, none⟩ = some (.int .u8 dst) ∧ w'.cell? ⟨w.heap.size, 2, none⟩ = some (.int .u8 src) ∧ w'.cell? ⟨w.heap.size, 3, none⟩ = some (.int .i16 off) ∧ w'.cell? ⟨w.heap.size, 4, none⟩ = some (.int .i64 c) ∧ w'.cell? ⟨w.heap.size, 5, none⟩ = some (.pointer p) ∧ w.heap.size < w'.heap.size)
    (refine ⟨?_, ?_, ?_, ?_, ?_, ?_, ?_⟩ <;> first | (simp only [World.size_alloc, World.size_drew]; omega) | (refine Below.drew ?_; refine Below.alloc ?_ ?_ _ <;> first | assumption | omega | (go_grown; done)) | (refine Below.alloc ?_ ?_ _ <;> first | assumption | omega | (go_grown; done)) | go_keep)
    (first | (go_at_call 66; ((with_reducible refine (SC.out _ (by go_grown)).mono ?_); rintro e w' ⟨rfl, rfl⟩)) | (go_at_call 67; ((with_reducible refine (RC.out _ (by go_grown)).mono ?_); rintro e w' ⟨rfl, rfl⟩)))
  clear u0 u1 u2 u3
  go_wp2
  exact bodyPost_ret (results_cell_row Tryd.results37 _ _ (w.heap.size + 1) 24 _ (0, 0) _ rfl (heap4 _ _ _ _ _) Tryd.underlying24 rfl (by kernel_rfl)) rfl ⟨rfl, by go_grown⟩
end Go.Proofs.YtakigeichhngbaaDoor
