import Derived.Test.YtakigeichhngbaaDoorDecF
import Derived.Test.YtakigeichhngbaaDoorSp
import Derived.Laws.StructEq
namespace Go.Proofs.YtakigeichhngbaaDoor
open Go.RowKit
set_option linter.unusedVariables false
set_option linter.unusedSimpArgs false

/-- it reads as the reference: true -/
theorem law_right (big : Bool) (A : Option Addr) (n cap : Nat) (op d s o c sz : Int) (w : World) (h16 : n ≤ 16)
    (hD : Calls Tryd.prog 8 #[.slice A n cap, .bool big] w fun e w' => e = .returned (.tuple #[insV op d s o c ⟨#[]⟩ ⟨#[]⟩, .int .i64 sz, .int .i64 0]) ∧ Below w.heap.size w w')
    (hI : sInsOk op d s o c ⟨#[]⟩ ⟨#[]⟩ = true)
    (hO : ∀ W, Below w.heap.size w W → Calls Tryd.prog 10 #[.slice A n cap, .bool big] W fun e w' => e = .returned (.tuple #[insV op d s o c ⟨#[]⟩ ⟨#[]⟩, .int .i64 sz, .bool true]) ∧ Below W.heap.size W w') :
    Calls Tryd.prog 3 #[.slice A n cap, .bool big] w fun e w' => e = .returned (.bool true) ∧ Below w.heap.size w w' := by
  have n1 : (n : Int) ≤ 16 := by omega
  have HD := Lib.hid hD
  have HO := Lib.hid hO
  have HI := Lib.hid hI
  clear hD hO hI
  go_enter Tryd.func3, Tryd.ntmps3
  go_wp2_with fail
  refine HD.out.mono ?_
  rintro e w1 ⟨rfl, hb1⟩
  have hz1 := hb1.size
  have HB1 := Lib.hid hb1
  clear hb1
  go_wp2_with fail
  refine (sInsOk_c op d s o c ⟨#[]⟩ ⟨#[]⟩ _).mono ?_
  rintro e w2 ⟨rfl, hb2⟩
  rw [HI.out]
  have hx := (hb2.block w1.heap.size (by simp)).trans (heap_alloc_new w1 (.cells #[.int .i64 op, .int .i64 d, .int .i64 s, .int .i64 o, .int .i64 c, .string ⟨#[]⟩, .string ⟨#[]⟩] 24))
  have hbw : Below w.heap.size w w2 := (HB1.out.alloc hz1 _).trans (hb2.mono (by simp; omega))
  have HO2 := Lib.hid (HO.out w2 hbw)
  have hz2 := hbw.size
  have HX := Lib.hid hx
  have HBW := Lib.hid hbw
  have hl2 := lt_of_blk hx
  clear hb2 hx hbw
  go_wp2_with fail
  refine HO2.out.mono ?_
  rintro e w3 ⟨rfl, hb3⟩
  obtain ⟨x0, x1, x2, x3, x4, x5, x6, -⟩ := cell7 ((hb3.block _ hl2).trans HX.out)
  have HB3 := Lib.hid hb3
  have hz3 := hb3.size
  clear hb3
  have hx3 : w1.heap.size < w3.heap.size := by omega
  go_wp2
  go_ret
  exact ⟨rfl, (HBW.out.trans (HB3.out.mono hz2)).alloc (by omega) _⟩
/-- an instruction of which nothing is spoken: true at once -/
theorem law_skip (big : Bool) (A : Option Addr) (n cap : Nat) (op d s o c sz : Int) (w : World) (h16 : n ≤ 16)
    (hD : Calls Tryd.prog 8 #[.slice A n cap, .bool big] w fun e w' => e = .returned (.tuple #[insV op d s o c ⟨#[]⟩ ⟨#[]⟩, .int .i64 sz, .int .i64 0]) ∧ Below w.heap.size w w')
    (hI : sInsOk op d s o c ⟨#[]⟩ ⟨#[]⟩ = false) :
    Calls Tryd.prog 3 #[.slice A n cap, .bool big] w fun e w' => e = .returned (.bool true) ∧ Below w.heap.size w w' := by
  have n1 : (n : Int) ≤ 16 := by omega
  have HD := Lib.hid hD
  have HI := Lib.hid hI
  clear hD hI
  go_enter Tryd.func3, Tryd.ntmps3
  go_wp2_with fail
  refine HD.out.mono ?_
  rintro e w1 ⟨rfl, hb1⟩
  have hz1 := hb1.size
  have HB1 := Lib.hid hb1
  clear hb1
  go_wp2_with fail
  refine (sInsOk_c op d s o c ⟨#[]⟩ ⟨#[]⟩ _).mono ?_
  rintro e w2 ⟨rfl, hb2⟩
  rw [HI.out]
  have hbw : Below w.heap.size w w2 := (HB1.out.alloc hz1 _).trans (hb2.mono (by simp; omega))
  have HBW := Lib.hid hbw
  clear hb2 hbw
  go_wp2
  go_ret
  exact ⟨rfl, HBW.out⟩
/-- where the reference leaves it open: true at once -/
theorem law_open (big : Bool) (A : Option Addr) (n cap : Nat) (w : World) (h16 : n ≤ 16)
    (hD : Calls Tryd.prog 8 #[.slice A n cap, .bool big] w fun e w' => e = .returned (.tuple #[noIns, .int .i64 0, .int .i64 2]) ∧ Below w.heap.size w w') :
    Calls Tryd.prog 3 #[.slice A n cap, .bool big] w fun e w' => e = .returned (.bool true) ∧ Below w.heap.size w w' := by
  have n1 : (n : Int) ≤ 16 := by omega
  have HD := Lib.hid hD
  clear hD
  go_enter Tryd.func3, Tryd.ntmps3
  go_wp2_with fail
  refine HD.out.mono ?_
  rintro e w1 ⟨rfl, hb1⟩
  have hz1 := hb1.size
  have HB1 := Lib.hid hb1
  clear hb1
  go_wp2
  go_ret
  exact ⟨rfl, HB1.out.alloc hz1 _⟩
/-- too few bytes: both say so -/
theorem law_wrong (big : Bool) (A : Option Addr) (n cap : Nat) (w : World) (h16 : n ≤ 16)
    (hD : Calls Tryd.prog 8 #[.slice A n cap, .bool big] w fun e w' => e = .returned (.tuple #[noIns, .int .i64 0, .int .i64 1]) ∧ Below w.heap.size w w')
    (hO : ∀ W, Below w.heap.size w W → Calls Tryd.prog 10 #[.slice A n cap, .bool big] W fun e w' => e = .returned (.tuple #[noIns, .int .i64 0, .bool false]) ∧ Below W.heap.size W w') :
    Calls Tryd.prog 3 #[.slice A n cap, .bool big] w fun e w' => e = .returned (.bool true) ∧ Below w.heap.size w w' := by
  have n1 : (n : Int) ≤ 16 := by omega
  have HD := Lib.hid hD
  have HO := Lib.hid hO
  clear hD hO
  go_enter Tryd.func3, Tryd.ntmps3
  go_wp2_with fail
  refine HD.out.mono ?_
  rintro e w1 ⟨rfl, hb1⟩
  have hz1 := hb1.size
  have hbw := hb1.alloc hz1 (.cells #[.int .i64 0, .int .i64 0, .int .i64 0, .int .i64 0, .int .i64 0, .string ⟨#[]⟩, .string ⟨#[]⟩] 24)
  have HBW := Lib.hid hbw
  have HO2 := Lib.hid (HO.out _ hbw)
  clear hb1 hbw HO
  go_wp2_with fail
  refine HO2.out.mono ?_
  rintro e w3 ⟨rfl, hb3⟩
  have HB3 := Lib.hid hb3
  have hz3 := hb3.size
  have hz4 := HBW.out.size
  clear hb3
  go_wp2
  go_ret
  exact ⟨rfl, (HBW.out.trans (HB3.out.mono (by simpa using hz4))).alloc (by simp at hz3; omega) _⟩
theorem law_long (big : Bool) (A : Option Addr) (n cap : Nat) (w : World) (h16 : 16 < n) :
    Calls Tryd.prog 3 #[.slice A n cap, .bool big] w fun e w' => e = .returned (.bool true) ∧ Below w.heap.size w w' := by
  have n1 : (16 : Int) < n := by omega
  by_cases hm : 2147483647 < n
  · have n2 : (2147483647 : Int) < n := by omega
    go_enter Tryd.func3, Tryd.ntmps3
    go_wp2
    go_ret
    exact ⟨rfl, Below.refl _ _⟩
  · have n2 : decide ((2147483647 : Int) < n) = false := by simp; omega
    go_enter Tryd.func3, Tryd.ntmps3
    go_wp2
    go_ret
    exact ⟨rfl, Below.refl _ _⟩
end Go.Proofs.YtakigeichhngbaaDoor
