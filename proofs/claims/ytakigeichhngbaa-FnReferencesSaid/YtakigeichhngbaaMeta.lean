import Derived.Test.YtakigeichhngbaaMem
import Derived.Test.YtakigeichhngbaaSp
import Derived.Laws.ResultCell
namespace Go.Proofs.Ytakigeichhngbaa
open Go.RowKit
set_option linter.unusedVariables false
set_option linter.unusedSimpArgs false

/-- the two keys under which an instruction keeps texts -/
abbrev kS : TypeId := 152
abbrev kR : TypeId := 148
def isKey (a : TypeId) : Prop := a = 152 ∨ a = 148
def Elem (w : World) (g : Nat) (next : Option Addr) (a : TypeId) (s : ByteArray) : Prop :=
  w.heap[g]? = some (.cells #[.pointer next, .iface a (.agg #[]), .iface 9 (.string s)] 159 (0, 0))
theorem lt_of_heap {w : World} {g : Nat} {o : Obj} (h : w.heap[g]? = some o) : g < w.heap.size := by
  rcases Nat.lt_or_ge g w.heap.size with hlt | hge
  · exact hlt
  · rw [Array.getElem?_eq_none hge] at h; cases h
theorem Elem.facts {w : World} {g : Nat} {q : Option Addr} {a : TypeId} {s : ByteArray} (h : Elem w g q a s) :
    g < w.heap.size ∧ w.cell? ⟨g, 0, none⟩ = some (.pointer q) ∧ w.cell? ⟨g, 1, none⟩ = some (.iface a (.agg #[])) ∧ w.cell? ⟨g, 2, none⟩ = some (.iface 9 (.string s)) :=
  ⟨lt_of_heap h, cell_of_row _ _ _ _ _ _ h, cell_of_row _ _ _ _ _ _ h, cell_of_row _ _ _ _ _ _ h⟩
def MetaList (w : World) : Option Addr → List (TypeId × ByteArray) → Prop
  | p, [] => p = none
  | p, x :: r => isKey x.1 ∧ ∃ g q, p = some ⟨g, 0, none⟩ ∧ Elem w g q x.1 x.2 ∧ MetaList w q r
theorem Elem.keep {w w' : World} {g : Nat} {q : Option Addr} {a : TypeId} {s : ByteArray} (h : Elem w g q a s) (hb : Below w.heap.size w w') : Elem w' g q a s :=
  (hb.block g (lt_of_heap h)).trans h
theorem MetaList.keep {w w' : World} (hb : Below w.heap.size w w') : ∀ {l : List (TypeId × ByteArray)} {p : Option Addr}, MetaList w p l → MetaList w' p l
  | [], _, h => h
  | _ :: _, _, ⟨hk, g, q, hp, he, hr⟩ => ⟨hk, g, q, hp, he.keep hb, hr.keep hb⟩
def getL (a : TypeId) (l : List (TypeId × ByteArray)) : Option ByteArray := (l.find? (fun x => x.1 == a)).map (·.2)
theorem eqKey (a b : TypeId) (ha : isKey a) (hb : isKey b) (w : World) : (binOp .eql 20 (.iface a (.agg #[])) (.iface b (.agg #[]))).run Try.prog w = .ok (.bool (a == b)) w := by
  rcases ha with rfl | rfl <;> rcases hb with rfl | rfl <;> kernel_rfl
def FindEnd (w : World) (o : Option ByteArray) (e : Ending) : Prop :=
  (o = none ∧ e = .returned (.pointer none)) ∨ ∃ s g, o = some s ∧ e = .returned (.pointer (some ⟨g, 0, none⟩)) ∧ g < w.heap.size ∧ w.cell? ⟨g, 2, none⟩ = some (.iface 9 (.string s))
theorem find_c (a : TypeId) (b o : Nat) (p : Option Addr) (l : List (TypeId × ByteArray)) (w : World) (ha : isKey a) (hm : w.cell? ⟨b, o, none⟩ = some (.pointer p)) (hl : MetaList w p l) (h2 : l.length ≤ 2) :
    Calls Try.prog 139 #[.pointer (some ⟨b, o, none⟩), .iface a (.agg #[])] w fun e w' => FindEnd w (getL a l) e ∧ w = w' := by
  match l, hl, h2 with
  | [], hl, _ =>
    obtain rfl : p = none := hl
    go_enter Try.func139, Try.ntmps139
    go_wp2
    go_rounds 1
    go_ret
    exact ⟨.inl ⟨rfl, rfl⟩, rfl⟩
  | [(k1, s1)], ⟨hk1, g1, q1, hp1, he1, hl1⟩, _ =>
    obtain ⟨e10, e11, e12, e13⟩ := he1.facts
    clear he1
    obtain rfl : q1 = none := hl1
    subst hp1
    have K1 := eqKey k1 a hk1 ha
    cases h1 : (k1 == a)
    · go_enter Try.func139, Try.ntmps139
      go_wp2
      go_rounds 2
      go_ret
      exact ⟨.inl ⟨by simp [getL, h1], rfl⟩, rfl⟩
    · go_enter Try.func139, Try.ntmps139
      go_wp2
      go_rounds 2
      go_ret
      exact ⟨.inr ⟨s1, g1, by simp [getL, h1], rfl, e10, e13⟩, rfl⟩
  | [(k1, s1), (k2, s2)], ⟨hk1, g1, q1, hp1, he1, hk2, g2, q2, hp2, he2, hl2⟩, _ =>
    obtain ⟨e10, e11, e12, e13⟩ := he1.facts
    obtain ⟨e20, e21, e22, e23⟩ := he2.facts
    clear he1 he2
    obtain rfl : q2 = none := hl2
    subst hp1 hp2
    have K1 := eqKey k1 a hk1 ha
    have K2 := eqKey k2 a hk2 ha
    cases h1 : (k1 == a)
    · cases h2 : (k2 == a)
      · go_enter Try.func139, Try.ntmps139
        go_wp2
        go_rounds 3
        go_ret
        exact ⟨.inl ⟨by simp [getL, h1, h2], rfl⟩, rfl⟩
      · go_enter Try.func139, Try.ntmps139
        go_wp2
        go_rounds 3
        go_ret
        exact ⟨.inr ⟨s2, g2, by simp [getL, h1, h2], rfl, e20, e23⟩, rfl⟩
    · go_enter Try.func139, Try.ntmps139
      go_wp2
      go_rounds 3
      go_ret
      exact ⟨.inr ⟨s1, g1, by simp [getL, h1], rfl, e10, e13⟩, rfl⟩
end Go.Proofs.Ytakigeichhngbaa
namespace Go.Proofs.Ytakigeichhngbaa
open Go.RowKit
set_option linter.unusedVariables false
set_option linter.unusedSimpArgs false

def GetEnd (o : Option ByteArray) (e : Ending) : Prop :=
  (o = none ∧ e = .returned .nilIface) ∨ ∃ s, o = some s ∧ e = .returned (.iface 9 (.string s))
theorem Get_c (a : TypeId) (b o : Nat) (p : Option Addr) (l : List (TypeId × ByteArray)) (w : World) (ha : isKey a) (hm : w.cell? ⟨b, o, none⟩ = some (.pointer p)) (hl : MetaList w p l) (h2 : l.length ≤ 2) :
    Calls Try.prog 135 #[.pointer (some ⟨b, o, none⟩), .iface a (.agg #[])] w fun e w' => GetEnd (getL a l) e ∧ w = w' := by
  have F := Lib.hid (find_c a b o p l w ha hm hl h2)
  cases hg : getL a l with
  | none =>
    go_enter Try.func135, Try.ntmps135
    go_wp2_with (first | (go_at_call 139; ((with_reducible refine (F.out).mono ?_); rintro e w' ⟨⟨-, rfl⟩ | ⟨s, g, hs, rfl, -, -⟩, rfl⟩)))
    all_goals first | (rw [hg] at hs; cases hs; done) | skip
    go_ret
    exact ⟨.inl ⟨rfl, rfl⟩, rfl⟩
  | some s0 =>
    go_enter Try.func135, Try.ntmps135
    go_wp2_with fail
    refine F.out.mono ?_
    rintro e w' ⟨⟨hs, rfl⟩ | ⟨s, g, hs, rfl, hgl, hc⟩, rfl⟩
    · rw [hg] at hs; cases hs
    · have hss : s0 = s := by rw [hg] at hs; exact Option.some.inj hs
      subst hss
      clear hs hg
      go_wp2
      go_ret
      exact ⟨.inr ⟨s0, rfl, rfl⟩, rfl⟩
theorem assert_string (s : ByteArray) (W : World) : (Instr.typeAssert (.iface 9 (.string s)) 20 9 true).run Try.prog W = .ok (.tuple #[.string s, .bool true]) W := by kernel_rfl
theorem assert_nil (W : World) : (Instr.typeAssert .nilIface 20 9 true).run Try.prog W = .ok (.tuple #[.string ⟨#[]⟩, .bool false]) W := by kernel_rfl
theorem Symbol_c (op dst src off c : Int) (p : Option Addr) (l : List (TypeId × ByteArray)) (w : World) (hl : MetaList w p l) (h2 : l.length ≤ 2) :
    Calls Try.prog 132 #[.agg #[.int .u32 op, .int .u8 dst, .int .u8 src, .int .i16 off, .int .i64 c, .pointer p]] w
    fun e w' => e = .returned (.string ((getL 152 l).getD ⟨#[]⟩)) ∧ w.alloc (.cells #[.int .u32 op, .int .u8 dst, .int .u8 src, .int .i16 off, .int .i64 c, .pointer p] 112) = w' := by
  have T1 := assert_string
  have T2 := assert_nil
  have G := Lib.hid fun (X : Obj) (hm : (w.alloc X).cell? ⟨w.heap.size, 5, none⟩ = some (.pointer p)) => Get_c 152 w.heap.size 5 p l (w.alloc X) (by simp [isKey]) hm (hl.keep ((Below.refl _ _).alloc (Nat.le_refl _) _)) h2
  clear hl
  cases hg : getL 152 l with
  | none =>
    go_enter Try.func132, Try.ntmps132
    go_wp2_with fail
    refine (G.out _ (by go_simp)).mono ?_
    rintro e w' ⟨⟨-, rfl⟩ | ⟨s, hs, rfl⟩, rfl⟩
    · go_wp2
      go_ret
      exact ⟨rfl, rfl⟩
    · rw [hg] at hs; cases hs
  | some s0 =>
    go_enter Try.func132, Try.ntmps132
    go_wp2_with fail
    refine (G.out _ (by go_simp)).mono ?_
    rintro e w' ⟨⟨hs, rfl⟩ | ⟨s, hs, rfl⟩, rfl⟩
    · rw [hg] at hs; cases hs
    · have hss : s0 = s := by rw [hg] at hs; exact Option.some.inj hs
      subst hss
      clear hs hg
      go_wp2
      go_ret
      exact ⟨rfl, rfl⟩
theorem Reference_c (op dst src off c : Int) (p : Option Addr) (l : List (TypeId × ByteArray)) (w : World) (hl : MetaList w p l) (h2 : l.length ≤ 2) :
    Calls Try.prog 118 #[.agg #[.int .u32 op, .int .u8 dst, .int .u8 src, .int .i16 off, .int .i64 c, .pointer p]] w
    fun e w' => e = .returned (.string ((getL 148 l).getD ⟨#[]⟩)) ∧ w.alloc (.cells #[.int .u32 op, .int .u8 dst, .int .u8 src, .int .i16 off, .int .i64 c, .pointer p] 112) = w' := by
  have T1 := assert_string
  have T2 := assert_nil
  have G := Lib.hid fun (X : Obj) (hm : (w.alloc X).cell? ⟨w.heap.size, 5, none⟩ = some (.pointer p)) => Get_c 148 w.heap.size 5 p l (w.alloc X) (by simp [isKey]) hm (hl.keep ((Below.refl _ _).alloc (Nat.le_refl _) _)) h2
  clear hl
  cases hg : getL 148 l with
  | none =>
    go_enter Try.func118, Try.ntmps118
    go_wp2_with fail
    refine (G.out _ (by go_simp)).mono ?_
    rintro e w' ⟨⟨-, rfl⟩ | ⟨s, hs, rfl⟩, rfl⟩
    · go_wp2
      go_ret
      exact ⟨rfl, rfl⟩
    · rw [hg] at hs; cases hs
  | some s0 =>
    go_enter Try.func118, Try.ntmps118
    go_wp2_with fail
    refine (G.out _ (by go_simp)).mono ?_
    rintro e w' ⟨⟨hs, rfl⟩ | ⟨s, hs, rfl⟩, rfl⟩
    · rw [hg] at hs; cases hs
    · have hss : s0 = s := by rw [hg] at hs; exact Option.some.inj hs
      subst hss
      clear hs hg
      go_wp2
      go_ret
      exact ⟨rfl, rfl⟩
end Go.Proofs.Ytakigeichhngbaa
namespace Go.Proofs.Ytakigeichhngbaa
open Go.RowKit
set_option linter.unusedVariables false
set_option linter.unusedSimpArgs false

theorem SetMeta_c (a : TypeId) (b o : Nat) (p : Option Addr) (l : List (TypeId × ByteArray)) (s : ByteArray) (w : World) (ha : isKey a) (hm : w.cell? ⟨b, o, none⟩ = some (.pointer p)) (hf : w.frozen? ⟨b, o, none⟩ = false) (hb : b < w.heap.size) (hl : MetaList w p l) (h2 : l.length ≤ 2)
    (hg : getL a l = none) :
    Calls Try.prog 138 #[.pointer (some ⟨b, o, none⟩), .iface a (.agg #[]), .iface 9 (.string s)] w
      fun e w' => e = .returned (.tuple #[]) ∧ (w.setCell ⟨b, o, none⟩ (.pointer (some ⟨w.heap.size, 0, none⟩))).alloc (.cells #[.pointer p, .iface a (.agg #[]), .iface 9 (.string s)] 159) = w' := by
  have F := Lib.hid (find_c a b o p l w ha hm hl h2)
  clear hl
  have hfa : ∀ X, (w.alloc X).frozen? ⟨b, o, none⟩ = false := fun X => (World.frozen?_alloc_old w X _ (Nat.ne_of_lt hb)).trans hf
  have hca : ∀ X, (w.alloc X).cell? ⟨b, o, none⟩ = some (.pointer p) := fun X => (World.cell?_alloc_lt w X _ hb).trans hm
  go_enter Try.func138, Try.ntmps138
  go_wp2_with fail
  refine F.out.mono ?_
  rintro e w' ⟨⟨-, rfl⟩ | ⟨s', g, hs, rfl, hgl, hc⟩, rfl⟩
  · go_wp2
    go_end0
    exact ⟨rfl, rfl⟩
  · rw [hg] at hs; cases hs
theorem Elem.new (W : World) (p : Option Addr) (a : TypeId) (s : ByteArray) : Elem (W.alloc (.cells #[.pointer p, .iface a (.agg #[]), .iface 9 (.string s)] 159)) W.heap.size p a s := heap_alloc_new W _
/-- what a function that makes an instruction hands back -/
def InstrEnd (op dst src off c : Int) (l : List (TypeId × ByteArray)) (e : Ending) (w' : World) : Prop :=
  ∃ p, e = .returned (.agg #[.int .u32 op, .int .u8 dst, .int .u8 src, .int .i16 off, .int .i64 c, .pointer p]) ∧ MetaList w' p l
theorem WithSymbol_c (op dst src off c : Int) (p : Option Addr) (l : List (TypeId × ByteArray)) (s : ByteArray) (w : World) (hl : MetaList w p l) (h2 : l.length ≤ 2) (hg : getL 152 l = none) :
    Calls Try.prog 134 #[.agg #[.int .u32 op, .int .u8 dst, .int .u8 src, .int .i16 off, .int .i64 c, .pointer p], .string s] w
    fun e w' => InstrEnd op dst src off c ((152, s) :: l) e w' ∧ Below w.heap.size w w' := by
  have G := Lib.hid fun (X : World) (hb : Below w.heap.size w X) (hm : X.cell? ⟨w.heap.size, 5, none⟩ = some (.pointer p)) (hf : X.frozen? ⟨w.heap.size, 5, none⟩ = false) (hz : w.heap.size < X.heap.size) => SetMeta_c 152 w.heap.size 5 p l s X (by simp [isKey]) hm hf hz (hl.keep hb) h2 hg
  have HL := Lib.hid hl
  clear hl hg
  go_enter Try.func134, Try.ntmps134
  go_wp2_with fail
  refine (G.out _ (((Below.refl _ _).alloc (Nat.le_refl _) _).alloc (by simp) _) (by go_simp) (by go_simp) (by simp; omega)).mono ?_
  rintro e w' ⟨rfl, rfl⟩
  go_wp2
  have e1 := Elem.new ((w.alloc (.cells #[.int .u32 op, .int .u8 dst, .int .u8 src, .int .i16 off, .int .i64 c, .pointer (some ⟨w.heap.size + 1 + 1, 0, none⟩)] 112)).alloc (.cells #[.int .u32 op, .int .u8 dst, .int .u8 src, .int .i16 off, .int .i64 c, .pointer (some ⟨w.heap.size + 1 + 1, 0, none⟩)] 112)) p 152 s
  simp only [World.size_alloc] at e1
  have hB : ∀ X Y Z : Obj, Below w.heap.size w (((w.alloc X).alloc Y).alloc Z) := fun X Y Z => (((Below.refl _ _).alloc (Nat.le_refl _) _).alloc (by simp) _).alloc (by simp; omega) _
  exact bodyPost_ret (v := .agg #[.int .u32 op, .int .u8 dst, .int .u8 src, .int .i16 off, .int .i64 c, .pointer (some ⟨w.heap.size + 1 + 1, 0, none⟩)]) (by simp [results, Try.results134, go_sem]) rfl ⟨⟨_, rfl, by simp [isKey], _, p, rfl, e1, HL.out.keep (hB _ _ _)⟩, hB _ _ _⟩
theorem WithReference_c (op dst src off c : Int) (p : Option Addr) (l : List (TypeId × ByteArray)) (s : ByteArray) (w : World) (hl : MetaList w p l) (h2 : l.length ≤ 2) (hg : getL 148 l = none) :
    Calls Try.prog 130 #[.agg #[.int .u32 op, .int .u8 dst, .int .u8 src, .int .i16 off, .int .i64 c, .pointer p], .string s] w
    fun e w' => InstrEnd op dst src off c ((148, s) :: l) e w' ∧ Below w.heap.size w w' := by
  have G := Lib.hid fun (X : World) (hb : Below w.heap.size w X) (hm : X.cell? ⟨w.heap.size, 5, none⟩ = some (.pointer p)) (hf : X.frozen? ⟨w.heap.size, 5, none⟩ = false) (hz : w.heap.size < X.heap.size) => SetMeta_c 148 w.heap.size 5 p l s X (by simp [isKey]) hm hf hz (hl.keep hb) h2 hg
  have HL := Lib.hid hl
  clear hl hg
  go_enter Try.func130, Try.ntmps130
  go_wp2_with fail
  refine (G.out _ (((Below.refl _ _).alloc (Nat.le_refl _) _).alloc (by simp) _) (by go_simp) (by go_simp) (by simp; omega)).mono ?_
  rintro e w' ⟨rfl, rfl⟩
  go_wp2
  have e1 := Elem.new ((w.alloc (.cells #[.int .u32 op, .int .u8 dst, .int .u8 src, .int .i16 off, .int .i64 c, .pointer (some ⟨w.heap.size + 1 + 1, 0, none⟩)] 112)).alloc (.cells #[.int .u32 op, .int .u8 dst, .int .u8 src, .int .i16 off, .int .i64 c, .pointer (some ⟨w.heap.size + 1 + 1, 0, none⟩)] 112)) p 148 s
  simp only [World.size_alloc] at e1
  have hB : ∀ X Y Z : Obj, Below w.heap.size w (((w.alloc X).alloc Y).alloc Z) := fun X Y Z => (((Below.refl _ _).alloc (Nat.le_refl _) _).alloc (by simp) _).alloc (by simp; omega) _
  exact bodyPost_ret (v := .agg #[.int .u32 op, .int .u8 dst, .int .u8 src, .int .i16 off, .int .i64 c, .pointer (some ⟨w.heap.size + 1 + 1, 0, none⟩)]) (by simp [results, Try.results130, go_sem]) rfl ⟨⟨_, rfl, by simp [isKey], _, p, rfl, e1, HL.out.keep (hB _ _ _)⟩, hB _ _ _⟩
end Go.Proofs.Ytakigeichhngbaa
