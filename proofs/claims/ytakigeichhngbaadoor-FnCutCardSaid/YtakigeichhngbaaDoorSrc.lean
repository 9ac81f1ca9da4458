import Derived.Test.YtakigeichhngbaaDoorReadShort
namespace Go.Proofs.YtakigeichhngbaaDoor
open Go.RowKit
set_option linter.unusedVariables false
set_option linter.unusedSimpArgs false
set_option maxRecDepth 100000

def u8s (bs : List Int) : List Value := bs.map (Value.int .u8)
/-- the source's box g holds the bytes bs, in an elder block -/
structure SrcAt (w : World) (g : Nat) (bs : List Int) : Prop where
  box : ∃ A cap, w.heap[g]? = some (.cells #[.slice A bs.length cap] 58 (0, 0)) ∧ bs.length ≤ cap ∧
    (0 < bs.length → ∃ a ao, A = some ⟨a, ao, none⟩ ∧ a < g ∧ ∀ j v, (u8s bs)[j]? = some v → w.cell? ⟨a, ao + j, none⟩ = some v)
  byte : ∀ b ∈ bs, isByte b
/-- behind a read into D -/
structure ReadTo (w w' : World) (g D : Nat) (row : List Value) (rest : List Int) (T : TypeId) : Prop where
  below : ∀ B, B ≤ g → Below B w w'
  size : w'.heap.size = w.heap.size
  other : ∀ j, j ≠ g → j ≠ D → w'.heap[j]? = w.heap[j]?
  data : w'.heap[D]? = some (.cells row.toArray T (0, 0))
  src : SrcAt w' g rest
theorem oneCell_u8s (bs : List Int) : ∀ v ∈ u8s bs, v.oneCell' = true := by
  intro v hv
  obtain ⟨b, _, rfl⟩ := List.mem_map.1 hv
  rfl
theorem cell_block {w w' : World} {a o : Nat} (h : w'.heap[a]? = w.heap[a]?) : w'.cell? ⟨a, o, none⟩ = w.cell? ⟨a, o, none⟩ := by
  simp only [World.cell?, h]
theorem ReadFine.to {w w' : World} {g D a ao n cap k : Nat} {cur : List Value} {T : TypeId} {bs : List Int} (hbs : bs.length = n) (hcap : n ≤ cap) (hlt : g < D) (ha : a < g) (hb : ∀ b ∈ bs, isByte b)
    (hsrc : ∀ j v, (u8s bs)[j]? = some v → w.cell? ⟨a, ao + j, none⟩ = some v) (hk : k ≤ n) (h : ReadFine w w' g D a ao n cap k (splice cur 0 (u8s (bs.take k))) T) : ReadTo w w' g D (u8s (bs.take k) ++ cur.drop k) (bs.drop k) T := by
  obtain ⟨ao2, hao, hs⟩ := h.source
  refine ⟨fun B hB => h.below B hB (by omega), h.size, h.other, ?_, ⟨_, cap - k, by rw [hs, List.length_drop, hbs], by rw [List.length_drop]; omega, fun hp => ⟨a, ao2, rfl, ha, fun j v hv => ?_⟩⟩, fun b hm => hb b (List.mem_of_mem_drop hm)⟩
  · rw [h.data]
    simp [splice, u8s, Nat.min_eq_left (hbs ▸ hk)]
  · rw [List.length_drop] at hp
    rw [cell_block (h.other a (by omega) (by omega)), hao (by omega), Nat.add_assoc]
    refine hsrc (k + j) v ?_
    simpa [u8s, List.getElem?_drop] using hv
theorem ReadFull_ok (g D : Nat) (bs : List Int) (cur : List Value) (T : TypeId) (w : World) (h : SrcAt w g bs) (hlt : g < D) (hD : w.heap[D]? = some (.cells cur.toArray T (0, 0))) (hcur : cur.length = 8) (h8 : 8 ≤ bs.length) (cap2 : Nat) :
    Calls Tryd.prog 56 #[.iface 56 (.pointer (some ⟨g, 0, none⟩)), .slice (some ⟨D, 0, none⟩) 8 cap2] w fun e w' => e = .returned (.tuple #[.int .i64 8, .nilIface]) ∧ ReadTo w w' g D (u8s (bs.take 8)) (bs.drop 8) T := by
  obtain ⟨⟨A, cap, hbox, hcap, hA⟩, hb⟩ := h
  obtain ⟨a, ao, rfl, ha, hsrc⟩ := hA (by omega)
  refine (ReadFull_c g cap cap2 a bs.length D ao cur (u8s (bs.take 8)) T w hbox h8 hcap (by simp [u8s]; omega) (fun j v hv => ?_) (oneCell_u8s _) hD hcur (by omega)).mono ?_
  · have hj : j < 8 := by
      by_cases hj : j < 8
      · exact hj
      · simp [u8s, List.getElem?_take, hj] at hv
    exact hsrc j v (by simpa [u8s, List.getElem?_take, hj] using hv)
  · rintro e w' ⟨rfl, hf⟩
    have := ReadFine.to rfl hcap hlt ha hb hsrc h8 hf
    rw [List.drop_of_length_le (by omega), List.append_nil] at this
    exact ⟨rfl, this⟩
/-- the two errors that a read can hand back stand in their variables -/
structure Errs (w : World) (E U : Addr) : Prop where
  eof : w.cell? ⟨2, 0, none⟩ = some (.iface 137 (.pointer (some E)))
  une : w.cell? ⟨5, 0, none⟩ = some (.iface 137 (.pointer (some U)))
theorem Errs.keep {w w' : World} {E U : Addr} {B : Nat} (h : Errs w E U) (hb : Below B w w') (h2 : 2 < B) (h5 : 5 < B) : Errs w' E U :=
  ⟨(hb.cell (p := ⟨2, 0, none⟩) h2).trans h.eof, (hb.cell (p := ⟨5, 0, none⟩) h5).trans h.une⟩
/-- the error of a read of too few bytes: io.EOF of none -/
def errP (bs : List Int) (E U : Addr) : Addr :=
  match bs with
  | [] => E
  | _ :: _ => U
theorem ReadFull_no (g D : Nat) (bs : List Int) (cur : List Value) (T : TypeId) (w : World) (E U : Addr) (h : SrcAt w g bs) (hlt : g < D) (hD : w.heap[D]? = some (.cells cur.toArray T (0, 0))) (hcur : cur.length = 8) (h8 : bs.length < 8) (cap2 : Nat) (hc2 : 8 ≤ cap2) (he : Errs w E U) (hg2 : 2 < g) (hg5 : 5 < g) :
    Calls Tryd.prog 56 #[.iface 56 (.pointer (some ⟨g, 0, none⟩)), .slice (some ⟨D, 0, none⟩) 8 cap2] w fun e w' => (∃ n, e = .returned (.tuple #[.int .i64 n, .iface 137 (.pointer (some (errP bs E U)))])) ∧ (∀ B, B ≤ g → Below B w w') ∧ w'.heap.size = w.heap.size ∧ ∀ j, j ≠ g → j ≠ D → w'.heap[j]? = w.heap[j]? := by
  obtain ⟨⟨A, cap, hbox, hcap, hA⟩, hb⟩ := h
  cases bs with
  | nil =>
    refine (ReadFullNone_c g cap cap2 A (some ⟨D, 0, none⟩) _ w (cell_of_row _ _ _ _ _ _ hbox) _ E rfl he.eof).mono ?_
    rintro e w' ⟨rfl, k, rfl⟩
    exact ⟨⟨_, rfl⟩, fun B _ => below_drewN (Below.refl _ _) _, rfl, fun _ _ _ => rfl⟩
  | cons b0 bs =>
    obtain ⟨a, ao, rfl, ha, hsrc⟩ := hA (by simp)
    refine (ReadFullShort_c g cap cap2 a (b0 :: bs).length D ao cur (u8s (b0 :: bs)) T w hbox (by simp) h8 hcap (by simp [u8s]) hsrc (oneCell_u8s _) hD hcur (by omega) E he.eof (by omega) (by omega) _ U he.une (by omega) (by omega) hc2).mono ?_
    rintro e w' ⟨rfl, hf⟩
    exact ⟨⟨_, rfl⟩, fun B hB => hf.below B hB (by omega), hf.size, hf.other⟩
end Go.Proofs.YtakigeichhngbaaDoor
