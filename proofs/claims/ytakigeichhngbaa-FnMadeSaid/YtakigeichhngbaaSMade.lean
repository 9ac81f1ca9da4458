import Derived.Test.YtakigeichhngbaaTold
import Derived.Test.YtakigeichhngbaaOp1
import Derived.Laws.ResultCell
namespace Go.Proofs.Ytakigeichhngbaa
open Go.RowKit
set_option linter.unusedVariables false
set_option linter.unusedSimpArgs false

def mALU (op : Int) : Bool := (decide (op ≥ 0) && decide (op ≤ 192) && op % 16 == 0) || op == 304 || op == 400 || op == 432 || op == 688 || op == 944
def mJump (op : Int) : Bool := decide (op ≥ 16) && decide (op ≤ 208) && op % 16 == 0 && op != 128 && op != 144
def mSize (z : Int) : Bool := z == 0 || z == 8 || z == 16 || z == 24
def mBits (z : Int) : Int := bif z == 0 then 32 else bif z == 8 then 16 else bif z == 16 then 8 else 64
theorem ALUName_c (op : Int) (w : World) (h : 0 ≤ op) : Calls Try.prog 74 #[.int .i64 op] w fun e w' => e = .returned (.bool (mALU op)) ∧ w = w' := by
  go_enter Try.func74, Try.ntmps74
  go_wp2
  all_goals (go_ret; refine ⟨congrArg (fun b => Ending.returned (Value.bool b)) ?_, rfl⟩; grind [mALU])
theorem JumpName_c (op : Int) (w : World) (h : 0 ≤ op) : Calls Try.prog 77 #[.int .i64 op] w fun e w' => e = .returned (.bool (mJump op)) ∧ w = w' := by
  go_enter Try.func77, Try.ntmps77
  go_wp2
  all_goals (go_ret; refine ⟨congrArg (fun b => Ending.returned (Value.bool b)) ?_, rfl⟩; grind [mJump])
theorem sizeOk_c (z : Int) (w : World) : Calls Try.prog 75 #[.int .i64 z] w fun e w' => e = .returned (.bool (mSize z)) ∧ w = w' := by
  go_enter Try.func75, Try.ntmps75
  go_wp2
  all_goals (go_ret; refine ⟨congrArg (fun b => Ending.returned (Value.bool b)) ?_, rfl⟩; grind [mSize])
theorem bits_c (z : Int) (w : World) : Calls Try.prog 78 #[.int .i64 z] w fun e w' => e = .returned (.int .i64 (mBits z)) ∧ w = w' := by
  cases h : (z == 0) <;> cases h2 : (z == 8) <;> cases h3 : (z == 16)
  all_goals
    go_enter Try.func78, Try.ntmps78
    go_wp2
    go_ret
    exact ⟨by simp [mBits, h, h2, h3], rfl⟩
/-- what a function hands back that makes an instruction and a truth -/
def MadeEnd (w : World) (op d s o v : Int) (r : ByteArray) (b : Bool) (e : Ending) (w' : World) : Prop :=
  e = .returned (.tuple #[.agg #[.int .i64 op, .int .i64 d, .int .i64 s, .int .i64 o, .int .i64 v, .string ⟨#[]⟩, .string r], .bool b]) ∧ Below w.heap.size w w'
theorem results_made {P : Program} {fn : Func} {p u : Tmp} {ty : TypeId} (h : fn.results = #[.cell p ty, .tmp u]) (tmps : Array Value) (w : World) (g : Nat) (t : TypeId) (cs : Array Value) (fr : Nat × Nat) (d : TypeDesc) (v : Value)
    (hd : (match d with | .struct _ | .array _ _ => true | _ => false) = true) (hp : tmps.getD p undef = .pointer (some ⟨g, 0, none⟩)) (hg : w.heap[g]? = some (.cells cs t fr))
    (hu : P.underlying ty = some d) (hi : (P.info? ty).map (·.size) = some cs.size) (hv : tmps.getD u undef = v) :
    (results fn tmps).run P w = .ok (.tuple #[.agg cs, v]) w := by
  rw [results_cell_tmp h, hp, ← hv]
  simp only [asAddr, Sem.run_pure, Result.andThen_ok, run_loadVar_row w g t ty cs fr d hg hu (by cases d <;> first | rfl | cases hd) hi]
theorem heap_alloc_1 (w : World) (X Y : Obj) : ((w.alloc X).alloc Y).heap[w.heap.size]? = some X := by
  rw [Below.heap_alloc _ _ _ (by simp only [World.size_alloc]; omega)]
  exact heap_alloc_new w X
theorem heap_alloc_2 (w : World) (X Y Z : Obj) : (((w.alloc X).alloc Y).alloc Z).heap[w.heap.size]? = some X := by
  rw [Below.heap_alloc _ _ _ (by simp only [World.size_alloc]; omega)]
  exact heap_alloc_1 w X Y
end Go.Proofs.Ytakigeichhngbaa
