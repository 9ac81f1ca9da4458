import Derived.Test.YtakigeichhngbaaPl
/-! The plain law of FnSet: by going through all codes below 256 and all parts. -/
namespace Go.Proofs.Ytakigeichhngbaa
open Go.RowKit

def vOf (k : Nat) : List Int :=
  match k with
  | 0 | 1 => [0, 16, 32, 48, 64, 80, 96, 112, 128, 144, 160, 176, 192, 208, 224, 240]
  | 2 => [0, 8]
  | 3 => [0, 8, 16, 24]
  | _ => [0, 32, 64, 96, 128, 160, 192, 224]
def maskOf : Nat → Int | 0 | 1 => 240 | 2 => 8 | 3 => 24 | _ => 224
def okOf (k : Nat) (op : Int) : Bool :=
  match k with
  | 0 => sIsALU op
  | 1 => sIsJump op
  | 2 => sIsALU op || sIsJump op
  | _ => decide (sCls op ≤ 3)
def clearOf : Nat → Int | 0 => 65520 | 1 => 240 | 2 => 8 | 3 => 24 | _ => 224
def setOf (k : Nat) (op v : Int) : Int :=
  match k with
  | 0 => pSetALUOp op v
  | 1 => pSetJumpOp op v
  | 2 => pSetSource op v
  | 3 => pSetSize op v
  | _ => pSetMode op v
def skipOf (k : Nat) (op v : Int) : Bool :=
  match k with
  | 1 => sCls op == 6 && (v == 128 || v == 144)
  | 2 => sIsALU op && bits .and .i64 op 240 == 208
  | _ => false
def lawOf (k : Nat) (op v : Int) : Bool :=
  skipOf k op v || (wrap64 (setOf k op v) == bif okOf k op then sSetV op (clearOf k) v else 65535)

theorem mask_all : (List.range 5).all (fun k => (List.range 256).all fun x => (vOf k).contains (bits .and .i64 (x : Int) (maskOf k))) = true := by decide +kernel
theorem law_all : (List.range 5).all (fun k => (List.range 256).all fun x => (vOf k).all fun v => lawOf k (x : Int) v) = true := by decide +kernel
theorem nonneg_all : (List.range 5).all (fun k => (vOf k).all fun v => decide (0 ≤ v) && decide (v ≤ 255)) = true := by decide +kernel

theorem law_set (k : Nat) (hk : k < 5) (op x : Int) (h0 : 0 ≤ op) (h1 : op ≤ 255) (h2 : 0 ≤ x) (h3 : x ≤ 255) :
    0 ≤ bits .and .i64 x (maskOf k) ∧ bits .and .i64 x (maskOf k) ≤ 255 ∧ lawOf k op (bits .and .i64 x (maskOf k)) = true := by
  obtain ⟨n, rfl⟩ := Int.eq_ofNat_of_zero_le h0
  obtain ⟨m, rfl⟩ := Int.eq_ofNat_of_zero_le h2
  have a1 := List.all_eq_true.1 mask_all k (List.mem_range.2 hk)
  have a2 := List.all_eq_true.1 a1 m (List.mem_range.2 (by omega))
  have hv : bits .and .i64 (m : Int) (maskOf k) ∈ vOf k := by simpa using a2
  have b1 := List.all_eq_true.1 law_all k (List.mem_range.2 hk)
  have b2 := List.all_eq_true.1 b1 n (List.mem_range.2 (by omega))
  have b3 := List.all_eq_true.1 b2 _ hv
  have c1 := List.all_eq_true.1 nonneg_all k (List.mem_range.2 hk)
  have c2 := List.all_eq_true.1 c1 _ hv
  simp only [Bool.and_eq_true, decide_eq_true_eq] at c2
  exact ⟨c2.1, c2.2, b3⟩
end Go.Proofs.Ytakigeichhngbaa
