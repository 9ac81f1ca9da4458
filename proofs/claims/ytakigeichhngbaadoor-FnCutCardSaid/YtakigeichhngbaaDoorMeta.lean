import Derived.Test.YtakigeichhngbaaDoorMem
namespace Go.Proofs.YtakigeichhngbaaDoor
open Go.RowKit
set_option linter.unusedVariables false
set_option linter.unusedSimpArgs false

/-- the two keys under which an instruction keeps texts -/
abbrev kS : TypeId := 142
abbrev kR : TypeId := 143
def isKey (a : TypeId) : Prop := a = 142 ∨ a = 143
def Elem (w : World) (g : Nat) (next : Option Addr) (a : TypeId) (s : ByteArray) : Prop :=
  w.heap[g]? = some (.cells #[.pointer next, .iface a (.agg #[]), .iface 9 (.string s)] 173 (0, 0))
theorem lt_of_heap {w : World} {g : Nat} {o : Obj} (h : w.heap[g]? = some o) : g < w.heap.size := by
  rcases Nat.lt_or_ge g w.heap.size with hlt | hge
  · exact hlt
  · rw [Array.getElem?_eq_none hge] at h; cases h
theorem Elem.facts {w : World} {g : Nat} {q : Option Addr} {a : TypeId} {s : ByteArray} (h : Elem w g q a s) :
    g < w.heap.size ∧ w.cell? ⟨g, 0, none⟩ = some (.pointer q) ∧ w.cell? ⟨g, 1, none⟩ = some (.iface a (.agg #[])) ∧ w.cell? ⟨g, 2, none⟩ = some (.iface 9 (.string s)) :=
  ⟨lt_of_heap h, cell_of_row _ _ _ _ _ _ h, cell_of_row _ _ _ _ _ _ h, cell_of_row _ _ _ _ _ _ h⟩
def MetaList (w : World) : Option Addr → List (TypeId × ByteArray) → Prop
  | p, [] => p = none
  | p, x :: r => isKey x.1 ∧ ∃ g q, p = some ⟨g, 0, none⟩ ∧ Elem w g q x.1 x.2 ∧ MetaList w q r
theorem Elem.keep {w w' : World} {g : Nat} {q : Option Addr} {a : TypeId} {s : ByteArray} (h : Elem w g q a s) (hb : Below w.heap.size w w') : Elem w' g q a s :=
  (hb.block g (lt_of_heap h)).trans h
theorem MetaList.keep {w w' : World} (hb : Below w.heap.size w w') : ∀ {l : List (TypeId × ByteArray)} {p : Option Addr}, MetaList w p l → MetaList w' p l
  | [], _, h => h
  | _ :: _, _, ⟨hk, g, q, hp, he, hr⟩ => ⟨hk, g, q, hp, he.keep hb, hr.keep hb⟩
def getL (a : TypeId) (l : List (TypeId × ByteArray)) : Option ByteArray := (l.find? (fun x => x.1 == a)).map (·.2)
theorem eqKey (a b : TypeId) (ha : isKey a) (hb : isKey b) (w : World) : (binOp .eql 20 (.iface a (.agg #[])) (.iface b (.agg #[]))).run Tryd.prog w = .ok (.bool (a == b)) w := by
  rcases ha with rfl | rfl <;> rcases hb with rfl | rfl <;> kernel_rfl
def FindEnd (w : World) (o : Option ByteArray) (e : Ending) : Prop :=
  (o = none ∧ e = .returned (.pointer none)) ∨ ∃ s g, o = some s ∧ e = .returned (.pointer (some ⟨g, 0, none⟩)) ∧ g < w.heap.size ∧ w.cell? ⟨g, 2, none⟩ = some (.iface 9 (.string s))
theorem find_c (a : TypeId) (b o : Nat) (p : Option Addr) (l : List (TypeId × ByteArray)) (w : World) (ha : isKey a) (hm : w.cell? ⟨b, o, none⟩ = some (.pointer p)) (hl : MetaList w p l) (h2 : l.length ≤ 2) :
    Calls Tryd.prog 102 #[.pointer (some ⟨b, o, none⟩), .iface a (.agg #[])] w fun e w' => FindEnd w (getL a l) e ∧ w = w' := by
  match l, hl, h2 with
  | [], hl, _ =>
    obtain rfl : p = none := hl
    go_enter Tryd.func102, Tryd.ntmps102
    go_wp2
    go_rounds 1
    go_ret
    exact ⟨.inl ⟨rfl, rfl⟩, rfl⟩
  | [(k1, s1)], ⟨hk1, g1, q1, hp1, he1, hl1⟩, _ =>
    obtain ⟨e10, e11, e12, e13⟩ := he1.facts
    clear he1
    obtain rfl : q1 = none := hl1
    subst hp1
    have K1 := eqKey k1 a hk1 ha
    cases h1 : (k1 == a)
    · go_enter Tryd.func102, Tryd.ntmps102
      go_wp2
      go_rounds 2
      go_ret
      exact ⟨.inl ⟨by simp [getL, h1], rfl⟩, rfl⟩
    · go_enter Tryd.func102, Tryd.ntmps102
      go_wp2
      go_rounds 2
      go_ret
      exact ⟨.inr ⟨s1, g1, by simp [getL, h1], rfl, e10, e13⟩, rfl⟩
  | [(k1, s1), (k2, s2)], ⟨hk1, g1, q1, hp1, he1, hk2, g2, q2, hp2, he2, hl2⟩, _ =>
    obtain ⟨e10, e11, e12, e13⟩ := he1.facts
    obtain ⟨e20, e21, e22, e23⟩ := he2.facts
    clear he1 he2
    obtain rfl : q2 = none := hl2
    subst hp1 hp2
    have K1 := eqKey k1 a hk1 ha
    have K2 := eqKey k2 a hk2 ha
    cases h1 : (k1 == a)
    · cases h2 : (k2 == a)
      · go_enter Tryd.func102, Tryd.ntmps102
        go_wp2
        go_rounds 3
        go_ret
        exact ⟨.inl ⟨by simp [getL, h1, h2], rfl⟩, rfl⟩
      · go_enter Tryd.func102, Tryd.ntmps102
        go_wp2
        go_rounds 3
        go_ret
        exact ⟨.inr ⟨s2, g2, by simp [getL, h1, h2], rfl, e20, e23⟩, rfl⟩
    · go_enter Tryd.func102, Tryd.ntmps102
      go_wp2
      go_rounds 3
      go_ret
      exact ⟨.inr ⟨s1, g1, by simp [getL, h1], rfl, e10, e13⟩, rfl⟩
end Go.Proofs.YtakigeichhngbaaDoor
