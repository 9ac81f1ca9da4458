import Derived.Test.YtakigeichhngbaaDoorBytes
namespace Go.Proofs.YtakigeichhngbaaDoor
open Go.RowKit
set_option linter.unusedVariables false
set_option linter.unusedSimpArgs false

theorem or0 (a : Int) (ha : isByte a) : bits .or .u64 0 a = a := by
  obtain ⟨a0, a1⟩ := ha
  have h := (bits_nat .u64 64 (by decide) wu64 0 a.toNat (by decide) (by omega)).2
  have e1 : ((a.toNat : Nat) : Int) = a := by omega
  rw [e1] at h
  rw [show (0 : Int) = ((0 : Nat) : Int) from rfl, h, Nat.zero_or, e1]
theorem orUp (x b : Int) (x0 : 0 ≤ x) (x1 : x < 72057594037927936) (hb : isByte b) : bits .or .u64 (IntKind.u64.wrap (x * 256)) b = 256 * x + b := by
  obtain ⟨b0, b1⟩ := hb
  rw [wu64 _ (by omega) (by omega)]
  have h := (bits_nat .u64 64 (by decide) wu64 (2 ^ 8 * x.toNat) b.toNat (by omega) (by omega)).2
  rw [← Nat.two_pow_add_eq_or_of_lt (by omega)] at h
  have e1 : ((b.toNat : Nat) : Int) = b := by omega
  have e2 : ((2 ^ 8 * x.toNat : Nat) : Int) = x * 256 := by omega
  rw [e1, e2] at h
  rw [h]
  omega
theorem or16_64 (a b : Int) (ha : isByte a) (hb : isByte b) : bits .or .u64 a (b * 256) = n16 a b := by
  obtain ⟨a0, a1⟩ := ha
  obtain ⟨b0, b1⟩ := hb
  have h := orAdd .u64 64 8 (by decide) wu64 a.toNat b.toNat (by omega) (by omega)
  have e1 : ((a.toNat : Nat) : Int) = a := by omega
  have e2 : ((2 ^ 8 * b.toNat : Nat) : Int) = b * 256 := by omega
  rw [e1, e2] at h
  rw [h, n16]
  omega
theorem number2_c (big : Bool) (B o cap : Nat) (a b : Int) (w : World) (h0 : w.cell? ⟨B, o, none⟩ = some (.int .u8 a)) (h1 : w.cell? ⟨B, o + 1, none⟩ = some (.int .u8 b)) (ha : isByte a) (hb : isByte b) :
    Calls Tryd.prog 25 #[.slice (some ⟨B, o, none⟩) 2 cap, .bool big] w fun e w' => e = .returned (.int .u64 (bif big then n16 b a else n16 a b)) ∧ w = w' := by
  have e1 : bits .or .u64 (bits .or .u64 0 a) (b * 256) = n16 a b := by rw [or0 a ha, or16_64 a b ha hb]
  have e2 : bits .or .u64 (IntKind.u64.wrap (bits .or .u64 0 a * 256)) b = n16 b a := by
    rw [or0 a ha, orUp a b ha.1 (by have := ha.2; omega) hb, n16]; omega
  obtain ⟨a0, a1⟩ := ha
  obtain ⟨b0, b1⟩ := hb
  cases big
  · go_enter Tryd.func25, Tryd.ntmps25
    go_wp2
    go_rounds 3
    go_ret
    exact ⟨rfl, rfl⟩
  · go_enter Tryd.func25, Tryd.ntmps25
    go_wp2
    go_rounds 3
    go_ret
    exact ⟨rfl, rfl⟩
set_option maxHeartbeats 1000000 in
theorem number4_c (big : Bool) (B o cap : Nat) (a b c d : Int) (w : World) (h0 : w.cell? ⟨B, o, none⟩ = some (.int .u8 a)) (h1 : w.cell? ⟨B, o + 1, none⟩ = some (.int .u8 b)) (h2 : w.cell? ⟨B, o + 2, none⟩ = some (.int .u8 c)) (h3 : w.cell? ⟨B, o + 3, none⟩ = some (.int .u8 d)) (ha : isByte a) (hb : isByte b) (hc : isByte c) (hd : isByte d) :
    Calls Tryd.prog 25 #[.slice (some ⟨B, o, none⟩) 4 cap, .bool big] w fun e w' => e = .returned (.int .u64 (bif big then n32 d c b a else n32 a b c d)) ∧ w = w' := by
  have e1 : bits .or .u64 (bits .or .u64 (bits .or .u64 (bits .or .u64 0 a) (b * 256)) (c * 65536)) (d * 16777216) = n32 a b c d := by rw [or0 a ha, or32 .u64 (.inr rfl) a b c d ha hb hc hd]
  have e2 : bits .or .u64 (IntKind.u64.wrap (bits .or .u64 (IntKind.u64.wrap (bits .or .u64 (IntKind.u64.wrap (bits .or .u64 0 a * 256)) b * 256)) c * 256)) d = n32 d c b a := by
    have ha' := ha
    have hb' := hb
    have hc' := hc
    have hd' := hd
    obtain ⟨a0, a1⟩ := ha'
    obtain ⟨b0, b1⟩ := hb'
    obtain ⟨c0, c1⟩ := hc'
    obtain ⟨d0, d1⟩ := hd'
    rw [or0 a ha, orUp a b (by omega) (by omega) hb, orUp _ c (by omega) (by omega) hc, orUp _ d (by omega) (by omega) hd, n32]; omega
  obtain ⟨a0, a1⟩ := ha
  obtain ⟨b0, b1⟩ := hb
  obtain ⟨c0, c1⟩ := hc
  obtain ⟨d0, d1⟩ := hd
  cases big
  · go_enter Tryd.func25, Tryd.ntmps25
    go_wp2
    go_rounds 5
    go_ret
    exact ⟨rfl, rfl⟩
  · go_enter Tryd.func25, Tryd.ntmps25
    go_wp2
    go_rounds 5
    go_ret
    exact ⟨rfl, rfl⟩
end Go.Proofs.YtakigeichhngbaaDoor
