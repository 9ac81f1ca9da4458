import Derived.Laws.BitsLemmas
import Derived.Test.YtakigeichhngbaaSMadeA
import Derived.Test.YtakigeichhngbaaSMadeB
import Derived.Test.YtakigeichhngbaaSMadeC
import Derived.Test.YtakigeichhngbaaIMadeA
import Derived.Test.YtakigeichhngbaaIMadeB
import Derived.Test.YtakigeichhngbaaIMadeC
import Derived.Test.YtakigeichhngbaaIMadeD
namespace Go.Proofs.Ytakigeichhngbaa
open Go.RowKit
set_option linter.unusedVariables false
set_option linter.unusedSimpArgs false
set_option maxRecDepth 100000

theorem mapValue_eq (o v : Int) (o0 : 0 ≤ o) (o1 : o ≤ 32767) (v0 : 0 ≤ v) (v1 : v ≤ 2147483647) : pMapValue o v = bits .or .i64 (v * 4294967296) o := by
  have hp : (2 : Nat) ^ 63 = 9223372036854775808 := by decide
  have hp' : (2 : Int) ^ 63 = 9223372036854775808 := by decide
  have h1 := (bits_nat .u64 63 (by decide) (fun n h₀ h₁ => by rw [IntKind.wrap_u64]; omega) (v.toNat * 4294967296) o.toNat (by omega) (by omega)).2
  have h2 := (bits_nat .i64 63 (by decide) (fun n h₀ h₁ => by rw [IntKind.wrap_i64]; (try simp only [wrap64]); omega) (v.toNat * 4294967296) o.toNat (by omega) (by omega)).2
  have h3 : v.toNat * 4294967296 ||| o.toNat < 2 ^ 63 := Nat.or_lt_two_pow (by omega) (by omega)
  have e1 : ((v.toNat * 4294967296 : Nat) : Int) = v * 4294967296 := by omega
  have e2 : ((o.toNat : Nat) : Int) = o := by omega
  rw [e1, e2] at h1 h2
  unfold pMapValue
  rw [h1, h2]
  simp only [wrap64]
  omega
def aluNames : List Int := [0, 16, 32, 48, 64, 80, 96, 112, 128, 144, 160, 176, 192, 304, 400, 432, 688, 944]
def jumpNames : List Int := [16, 32, 48, 64, 80, 96, 112, 160, 176, 192, 208]
def sizeCodes : List Int := [0, 8, 16, 24]
theorem alu_in (op : Int) (h : mALU op = true) : op ∈ aluNames := by
  simp only [mALU, Bool.or_eq_true, Bool.and_eq_true, decide_eq_true_eq, beq_iff_eq] at h
  simp only [aluNames, List.mem_cons, List.not_mem_nil, or_false]
  omega
theorem jump_in (op : Int) (h : mJump op = true) : op ∈ jumpNames := by
  simp only [mJump, Bool.and_eq_true, decide_eq_true_eq, beq_iff_eq, bne_iff_ne, ne_eq] at h
  simp only [jumpNames, List.mem_cons, List.not_mem_nil, or_false]
  omega
theorem size_in (z : Int) (h : mSize z = true) : z ∈ sizeCodes := by
  simp only [mSize, Bool.or_eq_true, beq_iff_eq] at h
  simp only [sizeCodes, List.mem_cons, List.not_mem_nil, or_false]
  omega
def eqIn (a b : Int) : Bool := a == b && decide (0 ≤ b) && decide (b ≤ 65535)
theorem eqIn_at {l : List Int} {f g : Int → Int} (h : l.all (fun x => eqIn (f x) (g x)) = true) {x : Int} (hx : x ∈ l) : f x = g x ∧ 0 ≤ g x ∧ g x ≤ 65535 := by
  have := List.all_eq_true.1 h x hx
  simp only [eqIn, Bool.and_eq_true, beq_iff_eq, decide_eq_true_eq] at this
  exact ⟨this.1.1, this.1.2, this.2⟩
/-- both make the same, or the document's function knows none -/
def Same (k op d s o v z : Int) (r : ByteArray) : Prop :=
  (∃ x d' s' o' v' r', (∀ w, Calls Try.prog 26 #[.int .i64 k, .int .i64 op, .int .i64 d, .int .i64 s, .int .i64 o, .int .i64 v, .int .i64 z, .string r] w (MadeEnd w x d' s' o' v' r' true)) ∧ ∀ w, Calls Try.prog 27 #[.int .i64 k, .int .i64 op, .int .i64 d, .int .i64 s, .int .i64 o, .int .i64 v, .int .i64 z, .string r] w (MadeEnd w x d' s' o' v' r' true)) ∨
    ∃ x d' s' o' v' r', ∀ w, Calls Try.prog 26 #[.int .i64 k, .int .i64 op, .int .i64 d, .int .i64 s, .int .i64 o, .int .i64 v, .int .i64 z, .string r] w (MadeEnd w x d' s' o' v' r' false)
set_option maxHeartbeats 1000000 in
theorem same0 (op d s o v z : Int) (r : ByteArray) (op0 : 0 ≤ op) (op1 : op ≤ 65535) (d0 : 0 ≤ d) (d1 : d ≤ 10) (s0 : 0 ≤ s) (s1 : s ≤ 10) (o0 : -32768 ≤ o) (o1 : o ≤ 32767) (v0 : -2147483648 ≤ v) (v1 : v ≤ 2147483647) (z0 : 0 ≤ z) (z1 : z ≤ 255) : Same 0 op d s o v z r := by
  obtain ⟨hx, x0, x1⟩ : pSetSource (pSetALUOp 7 176) 0 = 183 ∧ (0 : Int) ≤ 183 ∧ (183 : Int) ≤ 65535 := by decide +kernel
  exact .inl ⟨_, _, _, _, _, _, fun w => specMade0 op d s o v z r w op0 op1 d0 d1 s0 s1 o0 o1 v0 v1 z0 z1 , fun w => implMade0 op d s o v z _ r w op0 op1 d0 d1 s0 s1 o0 o1 v0 v1 z0 z1  hx x0 x1⟩
set_option maxHeartbeats 1000000 in
theorem same1 (op d s o v z : Int) (r : ByteArray) (op0 : 0 ≤ op) (op1 : op ≤ 65535) (d0 : 0 ≤ d) (d1 : d ≤ 10) (s0 : 0 ≤ s) (s1 : s ≤ 10) (o0 : -32768 ≤ o) (o1 : o ≤ 32767) (v0 : -2147483648 ≤ v) (v1 : v ≤ 2147483647) (z0 : 0 ≤ z) (z1 : z ≤ 255) : Same 1 op d s o v z r := by
  obtain ⟨hx, x0, x1⟩ : pSetSource (pSetALUOp 7 176) 8 = 191 ∧ (0 : Int) ≤ 191 ∧ (191 : Int) ≤ 65535 := by decide +kernel
  exact .inl ⟨_, _, _, _, _, _, fun w => specMade1 op d s o v z r w op0 op1 d0 d1 s0 s1 o0 o1 v0 v1 z0 z1 , fun w => implMade1 op d s o v z _ r w op0 op1 d0 d1 s0 s1 o0 o1 v0 v1 z0 z1  hx x0 x1⟩
set_option maxHeartbeats 1000000 in
theorem same2 (op d s o v z : Int) (r : ByteArray) (op0 : 0 ≤ op) (op1 : op ≤ 65535) (d0 : 0 ≤ d) (d1 : d ≤ 10) (s0 : 0 ≤ s) (s1 : s ≤ 10) (o0 : -32768 ≤ o) (o1 : o ≤ 32767) (v0 : -2147483648 ≤ v) (v1 : v ≤ 2147483647) (z0 : 0 ≤ z) (z1 : z ≤ 255) : Same 2 op d s o v z r := by
  cases hA : mALU op
  · exact .inr ⟨_, _, _, _, _, _, fun w => specNone2a op d s o v z r w op0 op1 d0 d1 s0 s1 o0 o1 v0 v1 z0 z1 hA⟩
  · cases hB : decide (400 < op)
    · obtain ⟨hx, x0, x1⟩ := eqIn_at (l := aluNames) (f := fun x => pSetSource (pSetALUOp 7 x) 0) (g := fun x => (bits .or .i64 x 7)) (by decide +kernel) (alu_in op hA)
      exact .inl ⟨_, _, _, _, _, _, fun w => specMade2 op d s o v z r w op0 op1 d0 d1 s0 s1 o0 o1 v0 v1 z0 z1 hA hB, fun w => implMade2 op d s o v z _ r w op0 op1 d0 d1 s0 s1 o0 o1 v0 v1 z0 z1  hx x0 x1⟩
    · exact .inr ⟨_, _, _, _, _, _, fun w => specNone2b op d s o v z r w op0 op1 d0 d1 s0 s1 o0 o1 v0 v1 z0 z1 hA hB⟩
set_option maxHeartbeats 1000000 in
theorem same3 (op d s o v z : Int) (r : ByteArray) (op0 : 0 ≤ op) (op1 : op ≤ 65535) (d0 : 0 ≤ d) (d1 : d ≤ 10) (s0 : 0 ≤ s) (s1 : s ≤ 10) (o0 : -32768 ≤ o) (o1 : o ≤ 32767) (v0 : -2147483648 ≤ v) (v1 : v ≤ 2147483647) (z0 : 0 ≤ z) (z1 : z ≤ 255) : Same 3 op d s o v z r := by
  cases hA : mALU op
  · exact .inr ⟨_, _, _, _, _, _, fun w => specNone3a op d s o v z r w op0 op1 d0 d1 s0 s1 o0 o1 v0 v1 z0 z1 hA⟩
  · cases hB : (op == 128)
    · obtain ⟨hx, x0, x1⟩ := eqIn_at (l := aluNames) (f := fun x => pSetSource (pSetALUOp 7 x) 8) (g := fun x => (bits .or .i64 x 15)) (by decide +kernel) (alu_in op hA)
      exact .inl ⟨_, _, _, _, _, _, fun w => specMade3 op d s o v z r w op0 op1 d0 d1 s0 s1 o0 o1 v0 v1 z0 z1 hA hB, fun w => implMade3 op d s o v z _ r w op0 op1 d0 d1 s0 s1 o0 o1 v0 v1 z0 z1  hx x0 x1⟩
    · exact .inr ⟨_, _, _, _, _, _, fun w => specNone3b op d s o v z r w op0 op1 d0 d1 s0 s1 o0 o1 v0 v1 z0 z1 hA hB⟩
set_option maxHeartbeats 1000000 in
theorem same4 (op d s o v z : Int) (r : ByteArray) (op0 : 0 ≤ op) (op1 : op ≤ 65535) (d0 : 0 ≤ d) (d1 : d ≤ 10) (s0 : 0 ≤ s) (s1 : s ≤ 10) (o0 : -32768 ≤ o) (o1 : o ≤ 32767) (v0 : -2147483648 ≤ v) (v1 : v ≤ 2147483647) (z0 : 0 ≤ z) (z1 : z ≤ 255) : Same 4 op d s o v z r := by
  cases hA : mALU op
  · exact .inr ⟨_, _, _, _, _, _, fun w => specNone4a op d s o v z r w op0 op1 d0 d1 s0 s1 o0 o1 v0 v1 z0 z1 hA⟩
  · cases hB : decide (400 < op)
    · obtain ⟨hx, x0, x1⟩ := eqIn_at (l := aluNames) (f := fun x => pSetSource (pSetALUOp 4 x) 0) (g := fun x => (bits .or .i64 x 4)) (by decide +kernel) (alu_in op hA)
      exact .inl ⟨_, _, _, _, _, _, fun w => specMade4 op d s o v z r w op0 op1 d0 d1 s0 s1 o0 o1 v0 v1 z0 z1 hA hB, fun w => implMade4 op d s o v z _ r w op0 op1 d0 d1 s0 s1 o0 o1 v0 v1 z0 z1  hx x0 x1⟩
    · exact .inr ⟨_, _, _, _, _, _, fun w => specNone4b op d s o v z r w op0 op1 d0 d1 s0 s1 o0 o1 v0 v1 z0 z1 hA hB⟩
set_option maxHeartbeats 1000000 in
theorem same5 (op d s o v z : Int) (r : ByteArray) (op0 : 0 ≤ op) (op1 : op ≤ 65535) (d0 : 0 ≤ d) (d1 : d ≤ 10) (s0 : 0 ≤ s) (s1 : s ≤ 10) (o0 : -32768 ≤ o) (o1 : o ≤ 32767) (v0 : -2147483648 ≤ v) (v1 : v ≤ 2147483647) (z0 : 0 ≤ z) (z1 : z ≤ 255) : Same 5 op d s o v z r := by
  cases hA : mALU op
  · exact .inr ⟨_, _, _, _, _, _, fun w => specNone5a op d s o v z r w op0 op1 d0 d1 s0 s1 o0 o1 v0 v1 z0 z1 hA⟩
  · cases hB : (op == 128)
    · obtain ⟨hx, x0, x1⟩ := eqIn_at (l := aluNames) (f := fun x => pSetSource (pSetALUOp 4 x) 8) (g := fun x => (bits .or .i64 x 12)) (by decide +kernel) (alu_in op hA)
      exact .inl ⟨_, _, _, _, _, _, fun w => specMade5 op d s o v z r w op0 op1 d0 d1 s0 s1 o0 o1 v0 v1 z0 z1 hA hB, fun w => implMade5 op d s o v z _ r w op0 op1 d0 d1 s0 s1 o0 o1 v0 v1 z0 z1  hx x0 x1⟩
    · exact .inr ⟨_, _, _, _, _, _, fun w => specNone5b op d s o v z r w op0 op1 d0 d1 s0 s1 o0 o1 v0 v1 z0 z1 hA hB⟩
set_option maxHeartbeats 1000000 in
theorem same6 (op d s o v z : Int) (r : ByteArray) (op0 : 0 ≤ op) (op1 : op ≤ 65535) (d0 : 0 ≤ d) (d1 : d ≤ 10) (s0 : 0 ≤ s) (s1 : s ≤ 10) (o0 : -32768 ≤ o) (o1 : o ≤ 32767) (v0 : -2147483648 ≤ v) (v1 : v ≤ 2147483647) (z0 : 0 ≤ z) (z1 : z ≤ 255) : Same 6 op d s o v z r := by
  cases hA : mSize z
  · exact .inr ⟨_, _, _, _, _, _, fun w => specNone6a op d s o v z r w op0 op1 d0 d1 s0 s1 o0 o1 v0 v1 z0 z1 hA⟩
  · obtain ⟨hx, x0, x1⟩ := eqIn_at (l := sizeCodes) (f := fun x => pSetSize (pSetMode 1 96) x) (g := fun x => (bits .or .i64 97 x)) (by decide +kernel) (size_in z hA)
    exact .inl ⟨_, _, _, _, _, _, fun w => specMade6 op d s o v z r w op0 op1 d0 d1 s0 s1 o0 o1 v0 v1 z0 z1 hA, fun w => implMade6 op d s o v z _ r w op0 op1 d0 d1 s0 s1 o0 o1 v0 v1 z0 z1  hx x0 x1⟩
set_option maxHeartbeats 1000000 in
theorem same7 (op d s o v z : Int) (r : ByteArray) (op0 : 0 ≤ op) (op1 : op ≤ 65535) (d0 : 0 ≤ d) (d1 : d ≤ 10) (s0 : 0 ≤ s) (s1 : s ≤ 10) (o0 : -32768 ≤ o) (o1 : o ≤ 32767) (v0 : -2147483648 ≤ v) (v1 : v ≤ 2147483647) (z0 : 0 ≤ z) (z1 : z ≤ 255) : Same 7 op d s o v z r := by
  cases hA : mSize z
  · exact .inr ⟨_, _, _, _, _, _, fun w => specNone7a op d s o v z r w op0 op1 d0 d1 s0 s1 o0 o1 v0 v1 z0 z1 hA⟩
  · obtain ⟨hx, x0, x1⟩ := eqIn_at (l := sizeCodes) (f := fun x => pSetSize (pSetMode 3 96) x) (g := fun x => (bits .or .i64 99 x)) (by decide +kernel) (size_in z hA)
    exact .inl ⟨_, _, _, _, _, _, fun w => specMade7 op d s o v z r w op0 op1 d0 d1 s0 s1 o0 o1 v0 v1 z0 z1 hA, fun w => implMade7 op d s o v z _ r w op0 op1 d0 d1 s0 s1 o0 o1 v0 v1 z0 z1  hx x0 x1⟩
set_option maxHeartbeats 1000000 in
theorem same8 (op d s o v z : Int) (r : ByteArray) (op0 : 0 ≤ op) (op1 : op ≤ 65535) (d0 : 0 ≤ d) (d1 : d ≤ 10) (s0 : 0 ≤ s) (s1 : s ≤ 10) (o0 : -32768 ≤ o) (o1 : o ≤ 32767) (v0 : -2147483648 ≤ v) (v1 : v ≤ 2147483647) (z0 : 0 ≤ z) (z1 : z ≤ 255) : Same 8 op d s o v z r := by
  cases hA : mSize z
  · exact .inr ⟨_, _, _, _, _, _, fun w => specNone8a op d s o v z r w op0 op1 d0 d1 s0 s1 o0 o1 v0 v1 z0 z1 hA⟩
  · cases hB : (z == 24)
    · obtain ⟨hx, x0, x1⟩ := eqIn_at (l := sizeCodes) (f := fun x => pSetSize (pSetMode 2 96) x) (g := fun x => (bits .or .i64 98 x)) (by decide +kernel) (size_in z hA)
      exact .inl ⟨_, _, _, _, _, _, fun w => specMade8 op d s o v z r w op0 op1 d0 d1 s0 s1 o0 o1 v0 v1 z0 z1 hA hB, fun w => implMade8 op d s o v z _ r w op0 op1 d0 d1 s0 s1 o0 o1 v0 v1 z0 z1 hB hx x0 x1⟩
    · exact .inr ⟨_, _, _, _, _, _, fun w => specNone8b op d s o v z r w op0 op1 d0 d1 s0 s1 o0 o1 v0 v1 z0 z1 hA hB⟩
set_option maxHeartbeats 1000000 in
theorem same9 (op d s o v z : Int) (r : ByteArray) (op0 : 0 ≤ op) (op1 : op ≤ 65535) (d0 : 0 ≤ d) (d1 : d ≤ 10) (s0 : 0 ≤ s) (s1 : s ≤ 10) (o0 : -32768 ≤ o) (o1 : o ≤ 32767) (v0 : -2147483648 ≤ v) (v1 : v ≤ 2147483647) (z0 : 0 ≤ z) (z1 : z ≤ 255) : Same 9 op d s o v z r := by
  cases hA : mSize z
  · exact .inr ⟨_, _, _, _, _, _, fun w => specNone9a op d s o v z r w op0 op1 d0 d1 s0 s1 o0 o1 v0 v1 z0 z1 hA⟩
  · obtain ⟨hx, x0, x1⟩ := eqIn_at (l := sizeCodes) (f := fun x => pSetSize (pSetMode 0 0) x) (g := fun x => x) (by decide +kernel) (size_in z hA)
    exact .inl ⟨_, _, _, _, _, _, fun w => specMade9 op d s o v z r w op0 op1 d0 d1 s0 s1 o0 o1 v0 v1 z0 z1 hA, fun w => implMade9 op d s o v z _ r w op0 op1 d0 d1 s0 s1 o0 o1 v0 v1 z0 z1  hx x0 x1⟩
set_option maxHeartbeats 1000000 in
theorem same10 (op d s o v z : Int) (r : ByteArray) (op0 : 0 ≤ op) (op1 : op ≤ 65535) (d0 : 0 ≤ d) (d1 : d ≤ 10) (s0 : 0 ≤ s) (s1 : s ≤ 10) (o0 : -32768 ≤ o) (o1 : o ≤ 32767) (v0 : -2147483648 ≤ v) (v1 : v ≤ 2147483647) (z0 : 0 ≤ z) (z1 : z ≤ 255) : Same 10 op d s o v z r := by
  cases hA : mSize z
  · exact .inr ⟨_, _, _, _, _, _, fun w => specNone10a op d s o v z r w op0 op1 d0 d1 s0 s1 o0 o1 v0 v1 z0 z1 hA⟩
  · obtain ⟨hx, x0, x1⟩ := eqIn_at (l := sizeCodes) (f := fun x => pSetSize (pSetMode 0 32) x) (g := fun x => (bits .or .i64 32 x)) (by decide +kernel) (size_in z hA)
    exact .inl ⟨_, _, _, _, _, _, fun w => specMade10 op d s o v z r w op0 op1 d0 d1 s0 s1 o0 o1 v0 v1 z0 z1 hA, fun w => implMade10 op d s o v z _ r w op0 op1 d0 d1 s0 s1 o0 o1 v0 v1 z0 z1  hx x0 x1⟩
set_option maxHeartbeats 1000000 in
theorem same11 (op d s o v z : Int) (r : ByteArray) (op0 : 0 ≤ op) (op1 : op ≤ 65535) (d0 : 0 ≤ d) (d1 : d ≤ 10) (s0 : 0 ≤ s) (s1 : s ≤ 10) (o0 : -32768 ≤ o) (o1 : o ≤ 32767) (v0 : -2147483648 ≤ v) (v1 : v ≤ 2147483647) (z0 : 0 ≤ z) (z1 : z ≤ 255) : Same 11 op d s o v z r := by
  cases hA : mSize z
  · exact .inr ⟨_, _, _, _, _, _, fun w => specNone11a op d s o v z r w op0 op1 d0 d1 s0 s1 o0 o1 v0 v1 z0 z1 hA⟩
  · obtain ⟨hx, x0, x1⟩ := eqIn_at (l := sizeCodes) (f := fun x => pSetSize (pSetMode 0 64) x) (g := fun x => (bits .or .i64 64 x)) (by decide +kernel) (size_in z hA)
    exact .inl ⟨_, _, _, _, _, _, fun w => specMade11 op d s o v z r w op0 op1 d0 d1 s0 s1 o0 o1 v0 v1 z0 z1 hA, fun w => implMade11 op d s o v z _ r w op0 op1 d0 d1 s0 s1 o0 o1 v0 v1 z0 z1  hx x0 x1⟩
set_option maxHeartbeats 1000000 in
theorem same12 (op d s o v z : Int) (r : ByteArray) (op0 : 0 ≤ op) (op1 : op ≤ 65535) (d0 : 0 ≤ d) (d1 : d ≤ 10) (s0 : 0 ≤ s) (s1 : s ≤ 10) (o0 : -32768 ≤ o) (o1 : o ≤ 32767) (v0 : -2147483648 ≤ v) (v1 : v ≤ 2147483647) (z0 : 0 ≤ z) (z1 : z ≤ 255) : Same 12 op d s o v z r := by
  exact .inr ⟨_, _, _, _, _, _, fun w => specNone12 op d s o v z r w op0 op1 d0 d1 s0 s1 o0 o1 v0 v1 z0 z1 ⟩
set_option maxHeartbeats 1000000 in
theorem same13 (op d s o v z : Int) (r : ByteArray) (op0 : 0 ≤ op) (op1 : op ≤ 65535) (d0 : 0 ≤ d) (d1 : d ≤ 10) (s0 : 0 ≤ s) (s1 : s ≤ 10) (o0 : -32768 ≤ o) (o1 : o ≤ 32767) (v0 : -2147483648 ≤ v) (v1 : v ≤ 2147483647) (z0 : 0 ≤ z) (z1 : z ≤ 255) : Same 13 op d s o v z r := by
  cases hA : mJump op
  · exact .inr ⟨_, _, _, _, _, _, fun w => specNone13a op d s o v z r w op0 op1 d0 d1 s0 s1 o0 o1 v0 v1 z0 z1 hA⟩
  · have hj := jump_in op hA
    obtain ⟨hx, x0, x1⟩ := eqIn_at (l := jumpNames) (f := fun x => pSetSource (pSetJumpOp 5 x) 0) (g := fun x => (bits .or .i64 x 5)) (by decide +kernel) hj
    obtain ⟨hJ, n1, n2⟩ : op ≤ 255 ∧ (op == 144) = false ∧ (op == 128) = false := by simp only [jumpNames, List.mem_cons, List.not_mem_nil, or_false] at hj; refine ⟨by omega, by simp; omega, by simp; omega⟩
    exact .inl ⟨_, _, _, _, _, _, fun w => specMade13 op d s o v z r w op0 op1 d0 d1 s0 s1 o0 o1 v0 v1 z0 z1 hA, fun w => implMade13 op d s o v z _ r w op0 op1 d0 d1 s0 s1 o0 o1 v0 v1 z0 z1 hJ n1 n2 hx x0 x1⟩
set_option maxHeartbeats 1000000 in
theorem same14 (op d s o v z : Int) (r : ByteArray) (op0 : 0 ≤ op) (op1 : op ≤ 65535) (d0 : 0 ≤ d) (d1 : d ≤ 10) (s0 : 0 ≤ s) (s1 : s ≤ 10) (o0 : -32768 ≤ o) (o1 : o ≤ 32767) (v0 : -2147483648 ≤ v) (v1 : v ≤ 2147483647) (z0 : 0 ≤ z) (z1 : z ≤ 255) : Same 14 op d s o v z r := by
  cases hA : mJump op
  · exact .inr ⟨_, _, _, _, _, _, fun w => specNone14a op d s o v z r w op0 op1 d0 d1 s0 s1 o0 o1 v0 v1 z0 z1 hA⟩
  · have hj := jump_in op hA
    obtain ⟨hx, x0, x1⟩ := eqIn_at (l := jumpNames) (f := fun x => pSetSource (pSetJumpOp 5 x) 8) (g := fun x => (bits .or .i64 x 13)) (by decide +kernel) hj
    obtain ⟨hJ, n1, n2⟩ : op ≤ 255 ∧ (op == 144) = false ∧ (op == 128) = false := by simp only [jumpNames, List.mem_cons, List.not_mem_nil, or_false] at hj; refine ⟨by omega, by simp; omega, by simp; omega⟩
    exact .inl ⟨_, _, _, _, _, _, fun w => specMade14 op d s o v z r w op0 op1 d0 d1 s0 s1 o0 o1 v0 v1 z0 z1 hA, fun w => implMade14 op d s o v z _ r w op0 op1 d0 d1 s0 s1 o0 o1 v0 v1 z0 z1 hJ n1 n2 hx x0 x1⟩
set_option maxHeartbeats 1000000 in
theorem same15 (op d s o v z : Int) (r : ByteArray) (op0 : 0 ≤ op) (op1 : op ≤ 65535) (d0 : 0 ≤ d) (d1 : d ≤ 10) (s0 : 0 ≤ s) (s1 : s ≤ 10) (o0 : -32768 ≤ o) (o1 : o ≤ 32767) (v0 : -2147483648 ≤ v) (v1 : v ≤ 2147483647) (z0 : 0 ≤ z) (z1 : z ≤ 255) : Same 15 op d s o v z r := by
  cases hA : mJump op
  · exact .inr ⟨_, _, _, _, _, _, fun w => specNone15a op d s o v z r w op0 op1 d0 d1 s0 s1 o0 o1 v0 v1 z0 z1 hA⟩
  · have hj := jump_in op hA
    obtain ⟨hx, x0, x1⟩ := eqIn_at (l := jumpNames) (f := fun x => pSetSource (pSetJumpOp 6 x) 0) (g := fun x => (bits .or .i64 x 6)) (by decide +kernel) hj
    obtain ⟨hJ, n1, n2⟩ : op ≤ 255 ∧ (op == 144) = false ∧ (op == 128) = false := by simp only [jumpNames, List.mem_cons, List.not_mem_nil, or_false] at hj; refine ⟨by omega, by simp; omega, by simp; omega⟩
    exact .inl ⟨_, _, _, _, _, _, fun w => specMade15 op d s o v z r w op0 op1 d0 d1 s0 s1 o0 o1 v0 v1 z0 z1 hA, fun w => implMade15 op d s o v z _ r w op0 op1 d0 d1 s0 s1 o0 o1 v0 v1 z0 z1 hJ n1 n2 hx x0 x1⟩
set_option maxHeartbeats 1000000 in
theorem same16 (op d s o v z : Int) (r : ByteArray) (op0 : 0 ≤ op) (op1 : op ≤ 65535) (d0 : 0 ≤ d) (d1 : d ≤ 10) (s0 : 0 ≤ s) (s1 : s ≤ 10) (o0 : -32768 ≤ o) (o1 : o ≤ 32767) (v0 : -2147483648 ≤ v) (v1 : v ≤ 2147483647) (z0 : 0 ≤ z) (z1 : z ≤ 255) : Same 16 op d s o v z r := by
  cases hA : mJump op
  · exact .inr ⟨_, _, _, _, _, _, fun w => specNone16a op d s o v z r w op0 op1 d0 d1 s0 s1 o0 o1 v0 v1 z0 z1 hA⟩
  · have hj := jump_in op hA
    obtain ⟨hx, x0, x1⟩ := eqIn_at (l := jumpNames) (f := fun x => pSetSource (pSetJumpOp 6 x) 8) (g := fun x => (bits .or .i64 x 14)) (by decide +kernel) hj
    obtain ⟨hJ, n1, n2⟩ : op ≤ 255 ∧ (op == 144) = false ∧ (op == 128) = false := by simp only [jumpNames, List.mem_cons, List.not_mem_nil, or_false] at hj; refine ⟨by omega, by simp; omega, by simp; omega⟩
    exact .inl ⟨_, _, _, _, _, _, fun w => specMade16 op d s o v z r w op0 op1 d0 d1 s0 s1 o0 o1 v0 v1 z0 z1 hA, fun w => implMade16 op d s o v z _ r w op0 op1 d0 d1 s0 s1 o0 o1 v0 v1 z0 z1 hJ n1 n2 hx x0 x1⟩
set_option maxHeartbeats 1000000 in
theorem same17 (op d s o v z : Int) (r : ByteArray) (op0 : 0 ≤ op) (op1 : op ≤ 65535) (d0 : 0 ≤ d) (d1 : d ≤ 10) (s0 : 0 ≤ s) (s1 : s ≤ 10) (o0 : -32768 ≤ o) (o1 : o ≤ 32767) (v0 : -2147483648 ≤ v) (v1 : v ≤ 2147483647) (z0 : 0 ≤ z) (z1 : z ≤ 255) : Same 17 op d s o v z r := by
  by_cases a0 : op = 0
  · subst a0
    obtain ⟨hx, x0, x1⟩ : pSetJumpOp 5 0 = 5 ∧ (0 : Int) ≤ 5 ∧ (5 : Int) ≤ 65535 := by decide +kernel
    exact .inl ⟨_, _, _, _, _, _, fun w => specMade17a 0 d s o v z r w op0 op1 d0 d1 s0 s1 o0 o1 v0 v1 z0 z1 , fun w => implMade17a 0 d s o v z _ r w op0 op1 d0 d1 s0 s1 o0 o1 v0 v1 z0 z1  hx x0 x1⟩
  · by_cases a1 : op = 128
    · subst a1
      obtain ⟨hx, x0, x1⟩ : pSetJumpOp 5 128 = 133 ∧ (0 : Int) ≤ 133 ∧ (133 : Int) ≤ 65535 := by decide +kernel
      exact .inl ⟨_, _, _, _, _, _, fun w => specMade17b 128 d s o v z r w op0 op1 d0 d1 s0 s1 o0 o1 v0 v1 z0 z1 , fun w => implMade17b 128 d s o v z _ r w op0 op1 d0 d1 s0 s1 o0 o1 v0 v1 z0 z1  hx x0 x1⟩
    · exact .inr ⟨_, _, _, _, _, _, fun w => specNone17a op d s o v z r w op0 op1 d0 d1 s0 s1 o0 o1 v0 v1 z0 z1 (by simp [a0]) (by simp [a1])⟩
set_option maxHeartbeats 1000000 in
theorem same18 (op d s o v z : Int) (r : ByteArray) (op0 : 0 ≤ op) (op1 : op ≤ 65535) (d0 : 0 ≤ d) (d1 : d ≤ 10) (s0 : 0 ≤ s) (s1 : s ≤ 10) (o0 : -32768 ≤ o) (o1 : o ≤ 32767) (v0 : -2147483648 ≤ v) (v1 : v ≤ 2147483647) (z0 : 0 ≤ z) (z1 : z ≤ 255) : Same 18 op d s o v z r := by
  obtain ⟨hx, x0, x1⟩ : pSetJumpOp 5 144 = 149 ∧ (0 : Int) ≤ 149 ∧ (149 : Int) ≤ 65535 := by decide +kernel
  exact .inl ⟨_, _, _, _, _, _, fun w => specMade18 op d s o v z r w op0 op1 d0 d1 s0 s1 o0 o1 v0 v1 z0 z1 , fun w => implMade18 op d s o v z _ r w op0 op1 d0 d1 s0 s1 o0 o1 v0 v1 z0 z1  hx x0 x1⟩
set_option maxHeartbeats 1000000 in
theorem same19 (op d s o v z : Int) (r : ByteArray) (op0 : 0 ≤ op) (op1 : op ≤ 65535) (d0 : 0 ≤ d) (d1 : d ≤ 10) (s0 : 0 ≤ s) (s1 : s ≤ 10) (o0 : -32768 ≤ o) (o1 : o ≤ 32767) (v0 : -2147483648 ≤ v) (v1 : v ≤ 2147483647) (z0 : 0 ≤ z) (z1 : z ≤ 255) : Same 19 op d s o v z r := by
  cases hA : mSize z
  · exact .inr ⟨_, _, _, _, _, _, fun w => specNone19b op d s o v z r w op0 op1 d0 d1 s0 s1 o0 o1 v0 v1 z0 z1 hA⟩
  · by_cases hz : z = 16
    · exact .inr ⟨_, _, _, _, _, _, fun w => specNone19c op d s o v z r w op0 op1 d0 d1 s0 s1 o0 o1 v0 v1 z0 z1 hA (by subst hz; rfl)⟩
    · have hz' : z = 0 ∨ z = 8 ∨ z = 24 := by have := size_in z hA; simp only [sizeCodes, List.mem_cons, List.not_mem_nil, or_false] at this; omega
      by_cases a0 : op = 0
      · subst a0
        rcases hz' with rfl | rfl | rfl
        · obtain ⟨hx, x0, x1⟩ : pSetSource (pSetALUOp 4 208) 0 = 212 ∧ (0 : Int) ≤ 212 ∧ (212 : Int) ≤ 65535 := by decide +kernel
          exact .inl ⟨_, _, _, _, _, _, fun w => specMade19e0z0 0 d s o v 0 r w op0 op1 d0 d1 s0 s1 o0 o1 v0 v1 z0 z1 , fun w => implMade19e0z0 0 d s o v 0 _ r w op0 op1 d0 d1 s0 s1 o0 o1 v0 v1 z0 z1  hx x0 x1⟩
        · obtain ⟨hx, x0, x1⟩ : pSetSource (pSetALUOp 4 208) 0 = 212 ∧ (0 : Int) ≤ 212 ∧ (212 : Int) ≤ 65535 := by decide +kernel
          exact .inl ⟨_, _, _, _, _, _, fun w => specMade19e0z8 0 d s o v 8 r w op0 op1 d0 d1 s0 s1 o0 o1 v0 v1 z0 z1 , fun w => implMade19e0z8 0 d s o v 8 _ r w op0 op1 d0 d1 s0 s1 o0 o1 v0 v1 z0 z1  hx x0 x1⟩
        · obtain ⟨hx, x0, x1⟩ : pSetSource (pSetALUOp 4 208) 0 = 212 ∧ (0 : Int) ≤ 212 ∧ (212 : Int) ≤ 65535 := by decide +kernel
          exact .inl ⟨_, _, _, _, _, _, fun w => specMade19e0z24 0 d s o v 24 r w op0 op1 d0 d1 s0 s1 o0 o1 v0 v1 z0 z1 , fun w => implMade19e0z24 0 d s o v 24 _ r w op0 op1 d0 d1 s0 s1 o0 o1 v0 v1 z0 z1  hx x0 x1⟩
      · by_cases a1 : op = 8
        · subst a1
          rcases hz' with rfl | rfl | rfl
          · obtain ⟨hx, x0, x1⟩ : pSetSource (pSetALUOp 4 208) 8 = 220 ∧ (0 : Int) ≤ 220 ∧ (220 : Int) ≤ 65535 := by decide +kernel
            exact .inl ⟨_, _, _, _, _, _, fun w => specMade19e8z0 8 d s o v 0 r w op0 op1 d0 d1 s0 s1 o0 o1 v0 v1 z0 z1 , fun w => implMade19e8z0 8 d s o v 0 _ r w op0 op1 d0 d1 s0 s1 o0 o1 v0 v1 z0 z1  hx x0 x1⟩
          · obtain ⟨hx, x0, x1⟩ : pSetSource (pSetALUOp 4 208) 8 = 220 ∧ (0 : Int) ≤ 220 ∧ (220 : Int) ≤ 65535 := by decide +kernel
            exact .inl ⟨_, _, _, _, _, _, fun w => specMade19e8z8 8 d s o v 8 r w op0 op1 d0 d1 s0 s1 o0 o1 v0 v1 z0 z1 , fun w => implMade19e8z8 8 d s o v 8 _ r w op0 op1 d0 d1 s0 s1 o0 o1 v0 v1 z0 z1  hx x0 x1⟩
          · obtain ⟨hx, x0, x1⟩ : pSetSource (pSetALUOp 4 208) 8 = 220 ∧ (0 : Int) ≤ 220 ∧ (220 : Int) ≤ 65535 := by decide +kernel
            exact .inl ⟨_, _, _, _, _, _, fun w => specMade19e8z24 8 d s o v 24 r w op0 op1 d0 d1 s0 s1 o0 o1 v0 v1 z0 z1 , fun w => implMade19e8z24 8 d s o v 24 _ r w op0 op1 d0 d1 s0 s1 o0 o1 v0 v1 z0 z1  hx x0 x1⟩
        · exact .inr ⟨_, _, _, _, _, _, fun w => specNone19a op d s o v z r w op0 op1 d0 d1 s0 s1 o0 o1 v0 v1 z0 z1 (by simp [a0]) (by simp [a1])⟩
set_option maxHeartbeats 1000000 in
theorem same20 (op d s o v z : Int) (r : ByteArray) (op0 : 0 ≤ op) (op1 : op ≤ 65535) (d0 : 0 ≤ d) (d1 : d ≤ 10) (s0 : 0 ≤ s) (s1 : s ≤ 10) (o0 : -32768 ≤ o) (o1 : o ≤ 32767) (v0 : -2147483648 ≤ v) (v1 : v ≤ 2147483647) (z0 : 0 ≤ z) (z1 : z ≤ 255) : Same 20 op d s o v z r := by
  cases hA : mSize z
  · exact .inr ⟨_, _, _, _, _, _, fun w => specNone20a op d s o v z r w op0 op1 d0 d1 s0 s1 o0 o1 v0 v1 z0 z1 hA⟩
  · by_cases hz : z = 16
    · exact .inr ⟨_, _, _, _, _, _, fun w => specNone20b op d s o v z r w op0 op1 d0 d1 s0 s1 o0 o1 v0 v1 z0 z1 hA (by subst hz; rfl)⟩
    · have hz' : z = 0 ∨ z = 8 ∨ z = 24 := by have := size_in z hA; simp only [sizeCodes, List.mem_cons, List.not_mem_nil, or_false] at this; omega
      rcases hz' with rfl | rfl | rfl
      · obtain ⟨hx, x0, x1⟩ : pSetALUOp 7 208 = 215 ∧ (0 : Int) ≤ 215 ∧ (215 : Int) ≤ 65535 := by decide +kernel
        exact .inl ⟨_, _, _, _, _, _, fun w => specMade20z0 op d s o v 0 r w op0 op1 d0 d1 s0 s1 o0 o1 v0 v1 z0 z1 , fun w => implMade20z0 op d s o v 0 _ r w op0 op1 d0 d1 s0 s1 o0 o1 v0 v1 z0 z1  hx x0 x1⟩
      · obtain ⟨hx, x0, x1⟩ : pSetALUOp 7 208 = 215 ∧ (0 : Int) ≤ 215 ∧ (215 : Int) ≤ 65535 := by decide +kernel
        exact .inl ⟨_, _, _, _, _, _, fun w => specMade20z8 op d s o v 8 r w op0 op1 d0 d1 s0 s1 o0 o1 v0 v1 z0 z1 , fun w => implMade20z8 op d s o v 8 _ r w op0 op1 d0 d1 s0 s1 o0 o1 v0 v1 z0 z1  hx x0 x1⟩
      · obtain ⟨hx, x0, x1⟩ : pSetALUOp 7 208 = 215 ∧ (0 : Int) ≤ 215 ∧ (215 : Int) ≤ 65535 := by decide +kernel
        exact .inl ⟨_, _, _, _, _, _, fun w => specMade20z24 op d s o v 24 r w op0 op1 d0 d1 s0 s1 o0 o1 v0 v1 z0 z1 , fun w => implMade20z24 op d s o v 24 _ r w op0 op1 d0 d1 s0 s1 o0 o1 v0 v1 z0 z1  hx x0 x1⟩
set_option maxHeartbeats 1000000 in
theorem same21 (op d s o v z : Int) (r : ByteArray) (op0 : 0 ≤ op) (op1 : op ≤ 65535) (d0 : 0 ≤ d) (d1 : d ≤ 10) (s0 : 0 ≤ s) (s1 : s ≤ 10) (o0 : -32768 ≤ o) (o1 : o ≤ 32767) (v0 : -2147483648 ≤ v) (v1 : v ≤ 2147483647) (z0 : 0 ≤ z) (z1 : z ≤ 255) (hA : 0 ≤ v) (hB : 0 ≤ o) : Same 21 op d s o v z r := by
  obtain ⟨hx, x0, x1⟩ : (24 : Int) = 24 ∧ (0 : Int) ≤ 24 ∧ (24 : Int) ≤ 65535 := by decide +kernel
  exact .inl ⟨_, _, _, _, _, _, fun w => specMade21 op d s o v z r w op0 op1 d0 d1 s0 s1 o0 o1 v0 v1 z0 z1 , fun w => implMade21 op d s o v z _ r w op0 op1 d0 d1 s0 s1 o0 o1 v0 v1 z0 z1 hA hx x0 x1⟩
set_option maxHeartbeats 1000000 in
theorem same22 (op d s o v z : Int) (r : ByteArray) (op0 : 0 ≤ op) (op1 : op ≤ 65535) (d0 : 0 ≤ d) (d1 : d ≤ 10) (s0 : 0 ≤ s) (s1 : s ≤ 10) (o0 : -32768 ≤ o) (o1 : o ≤ 32767) (v0 : -2147483648 ≤ v) (v1 : v ≤ 2147483647) (z0 : 0 ≤ z) (z1 : z ≤ 255) (hA : 0 ≤ v) (hB : 0 ≤ o) : Same 22 op d s o v z r := by
  obtain ⟨hx, x0, x1⟩ : (24 : Int) = 24 ∧ (0 : Int) ≤ 24 ∧ (24 : Int) ≤ 65535 := by decide +kernel
  exact .inl ⟨_, _, _, _, _, _, fun w => specMade22 op d s o v z r w op0 op1 d0 d1 s0 s1 o0 o1 v0 v1 z0 z1 hA hB, fun w => mapValue_eq o v hB o1 hA v1 ▸ implMade22 op d s o v z _ r w op0 op1 d0 d1 s0 s1 o0 o1 v0 v1 z0 z1 hA hB hx x0 x1⟩
set_option maxHeartbeats 1000000 in
theorem same23 (op d s o v z : Int) (r : ByteArray) (op0 : 0 ≤ op) (op1 : op ≤ 65535) (d0 : 0 ≤ d) (d1 : d ≤ 10) (s0 : 0 ≤ s) (s1 : s ≤ 10) (o0 : -32768 ≤ o) (o1 : o ≤ 32767) (v0 : -2147483648 ≤ v) (v1 : v ≤ 2147483647) (z0 : 0 ≤ z) (z1 : z ≤ 255) : Same 23 op d s o v z r := by
  exact .inr ⟨_, _, _, _, _, _, fun w => specNone23 op d s o v z r w op0 op1 d0 d1 s0 s1 o0 o1 v0 v1 z0 z1 ⟩
set_option maxHeartbeats 1000000 in
theorem same24 (op d s o v z : Int) (r : ByteArray) (op0 : 0 ≤ op) (op1 : op ≤ 65535) (d0 : 0 ≤ d) (d1 : d ≤ 10) (s0 : 0 ≤ s) (s1 : s ≤ 10) (o0 : -32768 ≤ o) (o1 : o ≤ 32767) (v0 : -2147483648 ≤ v) (v1 : v ≤ 2147483647) (z0 : 0 ≤ z) (z1 : z ≤ 255) : Same 24 op d s o v z r := by
  cases hA : mSize z
  · exact .inr ⟨_, _, _, _, _, _, fun w => specNone24a op d s o v z r w op0 op1 d0 d1 s0 s1 o0 o1 v0 v1 z0 z1 hA⟩
  · cases hB : (z == 24)
    · obtain ⟨hx, x0, x1⟩ := eqIn_at (l := sizeCodes) (f := fun x => pSetSize (pSetMode 1 128) x) (g := fun x => (bits .or .i64 129 x)) (by decide +kernel) (size_in z hA)
      exact .inl ⟨_, _, _, _, _, _, fun w => specMade24 op d s o v z r w op0 op1 d0 d1 s0 s1 o0 o1 v0 v1 z0 z1 hA hB, fun w => implMade24 op d s o v z _ r w op0 op1 d0 d1 s0 s1 o0 o1 v0 v1 z0 z1 hB hx x0 x1⟩
    · exact .inr ⟨_, _, _, _, _, _, fun w => specNone24b op d s o v z r w op0 op1 d0 d1 s0 s1 o0 o1 v0 v1 z0 z1 hA hB⟩
set_option maxHeartbeats 1000000 in
theorem same25 (op d s o v z : Int) (r : ByteArray) (op0 : 0 ≤ op) (op1 : op ≤ 65535) (d0 : 0 ≤ d) (d1 : d ≤ 10) (s0 : 0 ≤ s) (s1 : s ≤ 10) (o0 : -32768 ≤ o) (o1 : o ≤ 32767) (v0 : -2147483648 ≤ v) (v1 : v ≤ 2147483647) (z0 : 0 ≤ z) (z1 : z ≤ 255) : Same 25 op d s o v z r := by
  obtain ⟨hx, x0, x1⟩ : pSetSource (pSetJumpOp 6 0) 0 = 6 ∧ (0 : Int) ≤ 6 ∧ (6 : Int) ≤ 65535 := by decide +kernel
  exact .inl ⟨_, _, _, _, _, _, fun w => specMade25 op d s o v z r w op0 op1 d0 d1 s0 s1 o0 o1 v0 v1 z0 z1 , fun w => implMade25 op d s o v z _ r w op0 op1 d0 d1 s0 s1 o0 o1 v0 v1 z0 z1  hx x0 x1⟩
theorem same_all (k op d s o v z : Int) (r : ByteArray) (k0 : 0 ≤ k) (k1 : k ≤ 255) (op0 : 0 ≤ op) (op1 : op ≤ 65535) (d0 : 0 ≤ d) (d1 : d ≤ 10) (s0 : 0 ≤ s) (s1 : s ≤ 10) (o0 : -32768 ≤ o) (o1 : o ≤ 32767) (v0 : -2147483648 ≤ v) (v1 : v ≤ 2147483647) (z0 : 0 ≤ z) (z1 : z ≤ 255) (hm : k = 21 ∨ k = 22 → 0 ≤ v ∧ 0 ≤ o) : Same k op d s o v z r := by
  have hk : k = 0 ∨ k = 1 ∨ k = 2 ∨ k = 3 ∨ k = 4 ∨ k = 5 ∨ k = 6 ∨ k = 7 ∨ k = 8 ∨ k = 9 ∨ k = 10 ∨ k = 11 ∨ k = 12 ∨ k = 13 ∨ k = 14 ∨ k = 15 ∨ k = 16 ∨ k = 17 ∨ k = 18 ∨ k = 19 ∨ k = 20 ∨ k = 21 ∨ k = 22 ∨ k = 23 ∨ k = 24 ∨ k = 25 ∨ 26 ≤ k := by omega
  rcases hk with rfl | rfl | rfl | rfl | rfl | rfl | rfl | rfl | rfl | rfl | rfl | rfl | rfl | rfl | rfl | rfl | rfl | rfl | rfl | rfl | rfl | rfl | rfl | rfl | rfl | rfl | hk
  · exact same0 op d s o v z r op0 op1 d0 d1 s0 s1 o0 o1 v0 v1 z0 z1
  · exact same1 op d s o v z r op0 op1 d0 d1 s0 s1 o0 o1 v0 v1 z0 z1
  · exact same2 op d s o v z r op0 op1 d0 d1 s0 s1 o0 o1 v0 v1 z0 z1
  · exact same3 op d s o v z r op0 op1 d0 d1 s0 s1 o0 o1 v0 v1 z0 z1
  · exact same4 op d s o v z r op0 op1 d0 d1 s0 s1 o0 o1 v0 v1 z0 z1
  · exact same5 op d s o v z r op0 op1 d0 d1 s0 s1 o0 o1 v0 v1 z0 z1
  · exact same6 op d s o v z r op0 op1 d0 d1 s0 s1 o0 o1 v0 v1 z0 z1
  · exact same7 op d s o v z r op0 op1 d0 d1 s0 s1 o0 o1 v0 v1 z0 z1
  · exact same8 op d s o v z r op0 op1 d0 d1 s0 s1 o0 o1 v0 v1 z0 z1
  · exact same9 op d s o v z r op0 op1 d0 d1 s0 s1 o0 o1 v0 v1 z0 z1
  · exact same10 op d s o v z r op0 op1 d0 d1 s0 s1 o0 o1 v0 v1 z0 z1
  · exact same11 op d s o v z r op0 op1 d0 d1 s0 s1 o0 o1 v0 v1 z0 z1
  · exact same12 op d s o v z r op0 op1 d0 d1 s0 s1 o0 o1 v0 v1 z0 z1
  · exact same13 op d s o v z r op0 op1 d0 d1 s0 s1 o0 o1 v0 v1 z0 z1
  · exact same14 op d s o v z r op0 op1 d0 d1 s0 s1 o0 o1 v0 v1 z0 z1
  · exact same15 op d s o v z r op0 op1 d0 d1 s0 s1 o0 o1 v0 v1 z0 z1
  · exact same16 op d s o v z r op0 op1 d0 d1 s0 s1 o0 o1 v0 v1 z0 z1
  · exact same17 op d s o v z r op0 op1 d0 d1 s0 s1 o0 o1 v0 v1 z0 z1
  · exact same18 op d s o v z r op0 op1 d0 d1 s0 s1 o0 o1 v0 v1 z0 z1
  · exact same19 op d s o v z r op0 op1 d0 d1 s0 s1 o0 o1 v0 v1 z0 z1
  · exact same20 op d s o v z r op0 op1 d0 d1 s0 s1 o0 o1 v0 v1 z0 z1
  · exact same21 op d s o v z r op0 op1 d0 d1 s0 s1 o0 o1 v0 v1 z0 z1 (hm (by simp)).1 (hm (by simp)).2
  · exact same22 op d s o v z r op0 op1 d0 d1 s0 s1 o0 o1 v0 v1 z0 z1 (hm (by simp)).1 (hm (by simp)).2
  · exact same23 op d s o v z r op0 op1 d0 d1 s0 s1 o0 o1 v0 v1 z0 z1
  · exact same24 op d s o v z r op0 op1 d0 d1 s0 s1 o0 o1 v0 v1 z0 z1
  · exact same25 op d s o v z r op0 op1 d0 d1 s0 s1 o0 o1 v0 v1 z0 z1
  · exact .inr ⟨_, _, _, _, _, _, fun w => specNoneBig op d s o v z r w op0 op1 d0 d1 s0 s1 o0 o1 v0 v1 z0 z1 k hk k1⟩
end Go.Proofs.Ytakigeichhngbaa
