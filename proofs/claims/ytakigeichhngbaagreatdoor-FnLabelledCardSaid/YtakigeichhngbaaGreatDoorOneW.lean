import Derived.Test.YtakigeichhngbaaGreatDoorXw
import Derived.Test.YtakigeichhngbaaGreatDoorUnmF
import Derived.Test.YtakigeichhngbaaGreatDoorDecF
import Derived.Test.YtakigeichhngbaaGreatDoorAll
namespace Go.Proofs.YtakigeichhngbaaGreatDoor
open Go.RowKit
set_option linter.unusedVariables false
set_option linter.unusedSimpArgs false

theorem u8_info : (Tryz.prog.info? 5).map (fun i => (i.zero, i.size, i.bytes)) = some (some (.int .u8 0), 1, 1) := by kernel_rfl
theorem add_off (b o j : Nat) : (⟨b, o, none⟩ : Addr).add j = ⟨b, o + j, none⟩ := by unfold Addr.add; split <;> simp_all
theorem BytesAt.reads {w : World} {A : Option Addr} {bs : List Int} (h : BytesAt w A bs) : Reads w w.heap.size 1 A bs.length (u8s bs) := by
  refine ⟨by simp [u8s], fun hp => ?_⟩
  obtain ⟨B, o, rfl, hl, hc⟩ := h.2.resolve_left (fun e => by rw [e] at hp; exact Nat.lt_irrefl 0 hp)
  exact ⟨_, rfl, hl, fun j u hu => by rw [add_off]; exact hc j u hu⟩
/-- a row of bytes of the call's own, boxed as a source -/
theorem SrcAt.made {w : World} {base n : Nat} {v : Value} {bs : List Int} (h : w.ownsRow base 5 1 v n (u8s bs)) (hn : bs.length = n) (hb : ∀ b ∈ bs, isByte b) : SrcAt (w.alloc (.cells #[v] 46)) w.heap.size bs := by
  have hr := heap_alloc_new w (.cells #[v] 46)
  rcases h.2 with ⟨rfl, he⟩ | ⟨g, cap, cur, rfl, hB, hh, hc⟩
  · have : bs = [] := List.eq_nil_of_length_eq_zero (by omega)
    subst this
    exact ⟨⟨_, 0, hr, Nat.le_refl _, fun hp => absurd hp (Nat.lt_irrefl 0)⟩, hb⟩
  · have hl := lt_of_blk hh
    refine ⟨⟨some ⟨g, 0, none⟩, cap, by rw [hn]; exact hr, by rw [hn]; exact hc.1, fun _ => ⟨g, 0, rfl, hl, fun j u hu => ?_⟩⟩, hb⟩
    rw [World.cell?_alloc_lt w _ _ hl, Nat.zero_add]
    have hj : j < (u8s bs).length := by
      by_cases hj : j < (u8s bs).length
      · exact hj
      · rw [List.getElem?_eq_none (by omega)] at hu; cases hu
    have := h.cells (g := g) rfl j u hu
    rwa [add_off, Nat.zero_add] at this
theorem own_slice {w : World} {base : Nat} {e : TypeId} {size n : Nat} {v : Value} {xs : List Value} (h : w.ownsRow base e size v n xs) : ∃ A c, v = .slice A n c := by
  rcases h.2 with ⟨rfl, rfl⟩ | ⟨g, cap, cur, rfl, _⟩
  · exact ⟨_, _, rfl⟩
  · exact ⟨_, _, rfl⟩
end Go.Proofs.YtakigeichhngbaaGreatDoor
