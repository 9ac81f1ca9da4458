import Derived.Test.YtakigeichhngbaaDoorMeta
import Derived.Test.YtakigeichhngbaaDoorSp
import Derived.Laws.ResultCell
namespace Go.Proofs.YtakigeichhngbaaDoor
open Go.RowKit
set_option linter.unusedVariables false
set_option linter.unusedSimpArgs false

def GetEnd (o : Option ByteArray) (e : Ending) : Prop :=
  (o = none ∧ e = .returned .nilIface) ∨ ∃ s, o = some s ∧ e = .returned (.iface 9 (.string s))
theorem Get_c (a : TypeId) (b o : Nat) (p : Option Addr) (l : List (TypeId × ByteArray)) (w : World) (ha : isKey a) (hm : w.cell? ⟨b, o, none⟩ = some (.pointer p)) (hl : MetaList w p l) (h2 : l.length ≤ 2) :
    Calls Tryd.prog 84 #[.pointer (some ⟨b, o, none⟩), .iface a (.agg #[])] w fun e w' => GetEnd (getL a l) e ∧ w = w' := by
  have F := Lib.hid (find_c a b o p l w ha hm hl h2)
  cases hg : getL a l with
  | none =>
    go_enter Tryd.func84, Tryd.ntmps84
    go_wp2_with (first | (go_at_call 102; ((with_reducible refine (F.out).mono ?_); rintro e w' ⟨⟨-, rfl⟩ | ⟨s, g, hs, rfl, -, -⟩, rfl⟩)))
    all_goals first | (rw [hg] at hs; cases hs; done) | skip
    go_ret
    exact ⟨.inl ⟨rfl, rfl⟩, rfl⟩
  | some s0 =>
    go_enter Tryd.func84, Tryd.ntmps84
    go_wp2_with fail
    refine F.out.mono ?_
    rintro e w' ⟨⟨hs, rfl⟩ | ⟨s, g, hs, rfl, hgl, hc⟩, rfl⟩
    · rw [hg] at hs; cases hs
    · have hss : s0 = s := by rw [hg] at hs; exact Option.some.inj hs
      subst hss
      clear hs hg
      go_wp2
      go_ret
      exact ⟨.inr ⟨s0, rfl, rfl⟩, rfl⟩
theorem assert_string (s : ByteArray) (W : World) : (Instr.typeAssert (.iface 9 (.string s)) 20 9 true).run Tryd.prog W = .ok (.tuple #[.string s, .bool true]) W := by kernel_rfl
theorem assert_nil (W : World) : (Instr.typeAssert .nilIface 20 9 true).run Tryd.prog W = .ok (.tuple #[.string ⟨#[]⟩, .bool false]) W := by kernel_rfl
theorem Symbol_c (op dst src off c : Int) (p : Option Addr) (l : List (TypeId × ByteArray)) (w : World) (hl : MetaList w p l) (h2 : l.length ≤ 2) :
    Calls Tryd.prog 66 #[.agg #[.int .u32 op, .int .u8 dst, .int .u8 src, .int .i16 off, .int .i64 c, .pointer p]] w
    fun e w' => e = .returned (.string ((getL 142 l).getD ⟨#[]⟩)) ∧ w.alloc (.cells #[.int .u32 op, .int .u8 dst, .int .u8 src, .int .i16 off, .int .i64 c, .pointer p] 65) = w' := by
  have T1 := assert_string
  have T2 := assert_nil
  have G := Lib.hid fun (X : Obj) (hm : (w.alloc X).cell? ⟨w.heap.size, 5, none⟩ = some (.pointer p)) => Get_c 142 w.heap.size 5 p l (w.alloc X) (by simp [isKey]) hm (hl.keep ((Below.refl _ _).alloc (Nat.le_refl _) _)) h2
  clear hl
  cases hg : getL 142 l with
  | none =>
    go_enter Tryd.func66, Tryd.ntmps66
    go_wp2_with fail
    refine (G.out _ (by go_simp)).mono ?_
    rintro e w' ⟨⟨-, rfl⟩ | ⟨s, hs, rfl⟩, rfl⟩
    · go_wp2
      go_ret
      exact ⟨rfl, rfl⟩
    · rw [hg] at hs; cases hs
  | some s0 =>
    go_enter Tryd.func66, Tryd.ntmps66
    go_wp2_with fail
    refine (G.out _ (by go_simp)).mono ?_
    rintro e w' ⟨⟨hs, rfl⟩ | ⟨s, hs, rfl⟩, rfl⟩
    · rw [hg] at hs; cases hs
    · have hss : s0 = s := by rw [hg] at hs; exact Option.some.inj hs
      subst hss
      clear hs hg
      go_wp2
      go_ret
      exact ⟨rfl, rfl⟩
theorem Reference_c (op dst src off c : Int) (p : Option Addr) (l : List (TypeId × ByteArray)) (w : World) (hl : MetaList w p l) (h2 : l.length ≤ 2) :
    Calls Tryd.prog 67 #[.agg #[.int .u32 op, .int .u8 dst, .int .u8 src, .int .i16 off, .int .i64 c, .pointer p]] w
    fun e w' => e = .returned (.string ((getL 143 l).getD ⟨#[]⟩)) ∧ w.alloc (.cells #[.int .u32 op, .int .u8 dst, .int .u8 src, .int .i16 off, .int .i64 c, .pointer p] 65) = w' := by
  have T1 := assert_string
  have T2 := assert_nil
  have G := Lib.hid fun (X : Obj) (hm : (w.alloc X).cell? ⟨w.heap.size, 5, none⟩ = some (.pointer p)) => Get_c 143 w.heap.size 5 p l (w.alloc X) (by simp [isKey]) hm (hl.keep ((Below.refl _ _).alloc (Nat.le_refl _) _)) h2
  clear hl
  cases hg : getL 143 l with
  | none =>
    go_enter Tryd.func67, Tryd.ntmps67
    go_wp2_with fail
    refine (G.out _ (by go_simp)).mono ?_
    rintro e w' ⟨⟨-, rfl⟩ | ⟨s, hs, rfl⟩, rfl⟩
    · go_wp2
      go_ret
      exact ⟨rfl, rfl⟩
    · rw [hg] at hs; cases hs
  | some s0 =>
    go_enter Tryd.func67, Tryd.ntmps67
    go_wp2_with fail
    refine (G.out _ (by go_simp)).mono ?_
    rintro e w' ⟨⟨hs, rfl⟩ | ⟨s, hs, rfl⟩, rfl⟩
    · rw [hg] at hs; cases hs
    · have hss : s0 = s := by rw [hg] at hs; exact Option.some.inj hs
      subst hss
      clear hs hg
      go_wp2
      go_ret
      exact ⟨rfl, rfl⟩
end Go.Proofs.YtakigeichhngbaaDoor
