import Derived.Test.YtakigeichhngbaaDoorMem
import Derived.Test.YtakigeichhngbaaDoorOrder
import Derived.Laws.BitsLemmas
namespace Go.Proofs.YtakigeichhngbaaDoor
open Go.RowKit
set_option linter.unusedVariables false
set_option linter.unusedSimpArgs false

def isByte (a : Int) : Prop := 0 ≤ a ∧ a ≤ 255
/-- the numbers that bytes say, the lowest first -/
def n16 (a b : Int) : Int := a + 256 * b
def n32 (a b c d : Int) : Int := a + 256 * b + 65536 * c + 16777216 * d
theorem cell_old {w : World} {B o : Nat} {v : Value} (X : Obj) (hB : B < w.heap.size) (h : w.cell? ⟨B, o, none⟩ = some v) : (w.alloc X).cell? ⟨B, o, none⟩ = some v :=
  ((((Below.refl w.heap.size w).alloc (Nat.le_refl _) X).cell (p := ⟨B, o, none⟩) hB)).trans h
theorem orAdd (k : IntKind) (j i : Nat) (hj : j ≤ k.bits) (hk : ∀ n : Int, 0 ≤ n → n < 2 ^ j → k.wrap n = n) (x y : Nat) (hx : x < 2 ^ i) (h : x + 2 ^ i * y < 2 ^ j) :
    bits .or k (x : Int) ((2 ^ i * y : Nat) : Int) = ((x + 2 ^ i * y : Nat) : Int) := by
  rw [(bits_nat k j hj hk x (2 ^ i * y) (by omega) (by omega)).2, Nat.or_comm, ← Nat.two_pow_add_eq_or_of_lt hx, Nat.add_comm]
theorem wu16 (n : Int) (h0 : 0 ≤ n) (h1 : n < 2 ^ 16) : IntKind.u16.wrap n = n := by rw [IntKind.wrap_u16]; omega
theorem wu32 (n : Int) (h0 : 0 ≤ n) (h1 : n < 2 ^ 32) : IntKind.u32.wrap n = n := by rw [IntKind.wrap_u32]; omega
theorem wu64 (n : Int) (h0 : 0 ≤ n) (h1 : n < 2 ^ 64) : IntKind.u64.wrap n = n := by rw [IntKind.wrap_u64]; omega
theorem or16 (a b : Int) (ha : isByte a) (hb : isByte b) : bits .or .u16 a (b * 256) = n16 a b := by
  obtain ⟨a0, a1⟩ := ha
  obtain ⟨b0, b1⟩ := hb
  have h := orAdd .u16 16 8 (by decide) wu16 a.toNat b.toNat (by omega) (by omega)
  have e1 : ((a.toNat : Nat) : Int) = a := by omega
  have e2 : ((2 ^ 8 * b.toNat : Nat) : Int) = b * 256 := by omega
  rw [e1, e2] at h
  rw [h, n16]
  omega
theorem or32 (k : IntKind) (hk : k = .u32 ∨ k = .u64) (a b c d : Int) (ha : isByte a) (hb : isByte b) (hc : isByte c) (hd : isByte d) : bits .or k (bits .or k (bits .or k a (b * 256)) (c * 65536)) (d * 16777216) = n32 a b c d := by
  obtain ⟨a0, a1⟩ := ha
  obtain ⟨b0, b1⟩ := hb
  obtain ⟨c0, c1⟩ := hc
  obtain ⟨d0, d1⟩ := hd
  have hj : 32 ≤ k.bits := by rcases hk with rfl | rfl <;> decide
  have hw : ∀ n : Int, 0 ≤ n → n < 2 ^ 32 → k.wrap n = n := by
    rcases hk with rfl | rfl
    · exact wu32
    · exact fun n h0 h1 => wu64 n h0 (by omega)
  have h1 := orAdd k 32 8 hj hw a.toNat b.toNat (by omega) (by omega)
  have h2 := orAdd k 32 16 hj hw (a.toNat + 2 ^ 8 * b.toNat) c.toNat (by omega) (by omega)
  have h3 := orAdd k 32 24 hj hw (a.toNat + 2 ^ 8 * b.toNat + 2 ^ 16 * c.toNat) d.toNat (by omega) (by omega)
  have e1 : ((a.toNat : Nat) : Int) = a := by omega
  have e2 : ((2 ^ 8 * b.toNat : Nat) : Int) = b * 256 := by omega
  have e3 : ((2 ^ 16 * c.toNat : Nat) : Int) = c * 65536 := by omega
  have e4 : ((2 ^ 24 * d.toNat : Nat) : Int) = d * 16777216 := by omega
  rw [e1, e2] at h1
  rw [e3] at h2
  rw [e4] at h3
  rw [h1, h2, h3, n32]
  omega
theorem LE16_c (B o cap : Nat) (a b : Int) (w : World) (hB : B < w.heap.size) (h0 : w.cell? ⟨B, o, none⟩ = some (.int .u8 a)) (h1 : w.cell? ⟨B, o + 1, none⟩ = some (.int .u8 b)) (ha : isByte a) (hb : isByte b) :
    Calls Tryd.prog 137 #[.agg #[], .slice (some ⟨B, o, none⟩) 2 cap] w fun e w' => e = .returned (.int .u16 (n16 a b)) ∧ Below w.heap.size w w' := by
  rw [← or16 a b ha hb]
  obtain ⟨a0, a1⟩ := ha
  obtain ⟨b0, b1⟩ := hb
  have g0 := cell_old (.cells #[] 101) hB h0
  have g1 := cell_old (.cells #[] 101) hB h1
  go_enter Tryd.func137, Tryd.ntmps137
  go_wp2
  go_quiet (fail)
  go_wp2
  go_ret
  exact ⟨rfl, below_drewN ((Below.refl _ _).alloc (Nat.le_refl _) _) _⟩
theorem BE16_c (B o cap : Nat) (a b : Int) (w : World) (hB : B < w.heap.size) (h0 : w.cell? ⟨B, o, none⟩ = some (.int .u8 a)) (h1 : w.cell? ⟨B, o + 1, none⟩ = some (.int .u8 b)) (ha : isByte a) (hb : isByte b) :
    Calls Tryd.prog 145 #[.agg #[], .slice (some ⟨B, o, none⟩) 2 cap] w fun e w' => e = .returned (.int .u16 (n16 b a)) ∧ Below w.heap.size w w' := by
  rw [← or16 b a hb ha]
  obtain ⟨a0, a1⟩ := ha
  obtain ⟨b0, b1⟩ := hb
  have g0 := cell_old (.cells #[] 102) hB h0
  have g1 := cell_old (.cells #[] 102) hB h1
  go_enter Tryd.func145, Tryd.ntmps145
  go_wp2
  go_quiet (fail)
  go_wp2
  go_ret
  exact ⟨rfl, below_drewN ((Below.refl _ _).alloc (Nat.le_refl _) _) _⟩
theorem LE32_c (B o cap : Nat) (a b c d : Int) (w : World) (hB : B < w.heap.size) (h0 : w.cell? ⟨B, o, none⟩ = some (.int .u8 a)) (h1 : w.cell? ⟨B, o + 1, none⟩ = some (.int .u8 b)) (h2 : w.cell? ⟨B, o + 2, none⟩ = some (.int .u8 c)) (h3 : w.cell? ⟨B, o + 3, none⟩ = some (.int .u8 d)) (ha : isByte a) (hb : isByte b) (hc : isByte c) (hd : isByte d) :
    Calls Tryd.prog 138 #[.agg #[], .slice (some ⟨B, o, none⟩) 4 cap] w fun e w' => e = .returned (.int .u32 (n32 a b c d)) ∧ Below w.heap.size w w' := by
  rw [← or32 .u32 (.inl rfl) a b c d ha hb hc hd]
  obtain ⟨a0, a1⟩ := ha
  obtain ⟨b0, b1⟩ := hb
  obtain ⟨c0, c1⟩ := hc
  obtain ⟨d0, d1⟩ := hd
  have g0 := cell_old (.cells #[] 101) hB h0
  have g1 := cell_old (.cells #[] 101) hB h1
  have g2 := cell_old (.cells #[] 101) hB h2
  have g3 := cell_old (.cells #[] 101) hB h3
  go_enter Tryd.func138, Tryd.ntmps138
  go_wp2
  go_quiet (fail)
  go_wp2
  go_ret
  exact ⟨rfl, below_drewN ((Below.refl _ _).alloc (Nat.le_refl _) _) _⟩
theorem BE32_c (B o cap : Nat) (a b c d : Int) (w : World) (hB : B < w.heap.size) (h0 : w.cell? ⟨B, o, none⟩ = some (.int .u8 a)) (h1 : w.cell? ⟨B, o + 1, none⟩ = some (.int .u8 b)) (h2 : w.cell? ⟨B, o + 2, none⟩ = some (.int .u8 c)) (h3 : w.cell? ⟨B, o + 3, none⟩ = some (.int .u8 d)) (ha : isByte a) (hb : isByte b) (hc : isByte c) (hd : isByte d) :
    Calls Tryd.prog 146 #[.agg #[], .slice (some ⟨B, o, none⟩) 4 cap] w fun e w' => e = .returned (.int .u32 (n32 d c b a)) ∧ Below w.heap.size w w' := by
  rw [← or32 .u32 (.inl rfl) d c b a hd hc hb ha]
  obtain ⟨a0, a1⟩ := ha
  obtain ⟨b0, b1⟩ := hb
  obtain ⟨c0, c1⟩ := hc
  obtain ⟨d0, d1⟩ := hd
  have g0 := cell_old (.cells #[] 102) hB h0
  have g1 := cell_old (.cells #[] 102) hB h1
  have g2 := cell_old (.cells #[] 102) hB h2
  have g3 := cell_old (.cells #[] 102) hB h3
  go_enter Tryd.func146, Tryd.ntmps146
  go_wp2
  go_quiet (fail)
  go_wp2
  go_ret
  exact ⟨rfl, below_drewN ((Below.refl _ _).alloc (Nat.le_refl _) _) _⟩
end Go.Proofs.YtakigeichhngbaaDoor
namespace Go.Proofs.YtakigeichhngbaaDoor
open Go.RowKit
set_option linter.unusedVariables false
set_option linter.unusedSimpArgs false

theorem or0 (a : Int) (ha : isByte a) : bits .or .u64 0 a = a := by
  obtain ⟨a0, a1⟩ := ha
  have h := (bits_nat .u64 64 (by decide) wu64 0 a.toNat (by decide) (by omega)).2
  have e1 : ((a.toNat : Nat) : Int) = a := by omega
  rw [e1] at h
  rw [show (0 : Int) = ((0 : Nat) : Int) from rfl, h, Nat.zero_or, e1]
theorem orUp (x b : Int) (x0 : 0 ≤ x) (x1 : x < 72057594037927936) (hb : isByte b) : bits .or .u64 (IntKind.u64.wrap (x * 256)) b = 256 * x + b := by
  obtain ⟨b0, b1⟩ := hb
  rw [wu64 _ (by omega) (by omega)]
  have h := (bits_nat .u64 64 (by decide) wu64 (2 ^ 8 * x.toNat) b.toNat (by omega) (by omega)).2
  rw [← Nat.two_pow_add_eq_or_of_lt (by omega)] at h
  have e1 : ((b.toNat : Nat) : Int) = b := by omega
  have e2 : ((2 ^ 8 * x.toNat : Nat) : Int) = x * 256 := by omega
  rw [e1, e2] at h
  rw [h]
  omega
theorem or16_64 (a b : Int) (ha : isByte a) (hb : isByte b) : bits .or .u64 a (b * 256) = n16 a b := by
  obtain ⟨a0, a1⟩ := ha
  obtain ⟨b0, b1⟩ := hb
  have h := orAdd .u64 64 8 (by decide) wu64 a.toNat b.toNat (by omega) (by omega)
  have e1 : ((a.toNat : Nat) : Int) = a := by omega
  have e2 : ((2 ^ 8 * b.toNat : Nat) : Int) = b * 256 := by omega
  rw [e1, e2] at h
  rw [h, n16]
  omega
theorem number2_c (big : Bool) (B o cap : Nat) (a b : Int) (w : World) (h0 : w.cell? ⟨B, o, none⟩ = some (.int .u8 a)) (h1 : w.cell? ⟨B, o + 1, none⟩ = some (.int .u8 b)) (ha : isByte a) (hb : isByte b) :
    Calls Tryd.prog 25 #[.slice (some ⟨B, o, none⟩) 2 cap, .bool big] w fun e w' => e = .returned (.int .u64 (bif big then n16 b a else n16 a b)) ∧ w = w' := by
  have e1 : bits .or .u64 (bits .or .u64 0 a) (b * 256) = n16 a b := by rw [or0 a ha, or16_64 a b ha hb]
  have e2 : bits .or .u64 (IntKind.u64.wrap (bits .or .u64 0 a * 256)) b = n16 b a := by
    rw [or0 a ha, orUp a b ha.1 (by have := ha.2; omega) hb, n16]; omega
  obtain ⟨a0, a1⟩ := ha
  obtain ⟨b0, b1⟩ := hb
  cases big
  · go_enter Tryd.func25, Tryd.ntmps25
    go_wp2
    go_rounds 3
    go_ret
    exact ⟨rfl, rfl⟩
  · go_enter Tryd.func25, Tryd.ntmps25
    go_wp2
    go_rounds 3
    go_ret
    exact ⟨rfl, rfl⟩
set_option maxHeartbeats 1000000 in
theorem number4_c (big : Bool) (B o cap : Nat) (a b c d : Int) (w : World) (h0 : w.cell? ⟨B, o, none⟩ = some (.int .u8 a)) (h1 : w.cell? ⟨B, o + 1, none⟩ = some (.int .u8 b)) (h2 : w.cell? ⟨B, o + 2, none⟩ = some (.int .u8 c)) (h3 : w.cell? ⟨B, o + 3, none⟩ = some (.int .u8 d)) (ha : isByte a) (hb : isByte b) (hc : isByte c) (hd : isByte d) :
    Calls Tryd.prog 25 #[.slice (some ⟨B, o, none⟩) 4 cap, .bool big] w fun e w' => e = .returned (.int .u64 (bif big then n32 d c b a else n32 a b c d)) ∧ w = w' := by
  have e1 : bits .or .u64 (bits .or .u64 (bits .or .u64 (bits .or .u64 0 a) (b * 256)) (c * 65536)) (d * 16777216) = n32 a b c d := by rw [or0 a ha, or32 .u64 (.inr rfl) a b c d ha hb hc hd]
  have e2 : bits .or .u64 (IntKind.u64.wrap (bits .or .u64 (IntKind.u64.wrap (bits .or .u64 (IntKind.u64.wrap (bits .or .u64 0 a * 256)) b * 256)) c * 256)) d = n32 d c b a := by
    have ha' := ha
    have hb' := hb
    have hc' := hc
    have hd' := hd
    obtain ⟨a0, a1⟩ := ha'
    obtain ⟨b0, b1⟩ := hb'
    obtain ⟨c0, c1⟩ := hc'
    obtain ⟨d0, d1⟩ := hd'
    rw [or0 a ha, orUp a b (by omega) (by omega) hb, orUp _ c (by omega) (by omega) hc, orUp _ d (by omega) (by omega) hd, n32]; omega
  obtain ⟨a0, a1⟩ := ha
  obtain ⟨b0, b1⟩ := hb
  obtain ⟨c0, c1⟩ := hc
  obtain ⟨d0, d1⟩ := hd
  cases big
  · go_enter Tryd.func25, Tryd.ntmps25
    go_wp2
    go_rounds 5
    go_ret
    exact ⟨rfl, rfl⟩
  · go_enter Tryd.func25, Tryd.ntmps25
    go_wp2
    go_rounds 5
    go_ret
    exact ⟨rfl, rfl⟩
end Go.Proofs.YtakigeichhngbaaDoor
