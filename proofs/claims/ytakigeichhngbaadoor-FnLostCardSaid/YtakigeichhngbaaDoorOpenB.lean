import Derived.Test.YtakigeichhngbaaDoorOpen
import Derived.Test.YtakigeichhngbaaDoorDecF
import Derived.LaidMore
import Derived.Stop.Joined
import Derived.Stop.LaidErr
import Derived.Stop.LaidTwo
import Derived.RowKitTokens
import Derived.ChangeVars
/-! A slice of bytes that came in; what the condition on the listed variables gives. -/
namespace Go.Proofs.YtakigeichhngbaaDoor
open Go.ChangeShapes Go.WideShapes Go.ChangeAt Go.RowKit Go.Joins Go.Deep
set_option linter.unusedVariables false
set_option linter.unusedSimpArgs false

theorem cells_u8 : Tryd.prog.cellsOf 5 = 1 := by kernel_rfl
section
variable {H : Type} {enc : TypeId × Value → H} {w : World} {base : Nat} {held : Bool}
set_option maxRecDepth 100000 in
theorem open_bytes {r : Reach} {b0 : Nat} {v : Value} {d : DataW H} {p : List MemPlace} (hv : Value.okWide Tryd.prog w r b0 22 v) (h : DataW.Trod enc Tryd.prog w base (fun _ => true) held 22 v d p) :
    ∃ (A : Option Addr) (n cap : Nat) (bs : List Int), v = .slice A n cap ∧ BytesAt w A bs ∧ bs.length = n ∧ n ≤ cap := by
  obtain ⟨A, n, cap, rfl⟩ := okWide_slice Tryd.underlying22 hv
  obtain ⟨fuel, hf⟩ := h
  rcases open_ints Tryd.underlying22 Tryd.underlying5 cells_u8 hf with ⟨hcs, _⟩ | ⟨a, len, cap', zs, hcs, _, hl, hm, hz, _, hc, hw⟩
  · simp [Value.cells] at hcs
    obtain ⟨rfl, rfl, rfl⟩ := hcs
    exact ⟨none, 0, 0, [], rfl, ⟨fun b hb => absurd hb (by simp), .inl rfl⟩, rfl, Nat.le_refl _⟩
  · simp [Value.cells] at hcs
    obtain ⟨rfl, rfl, rfl⟩ := hcs
    have hz' : zs.length = cap := by simpa using hz
    have hby : ∀ b ∈ zs.take n, isByte b := fun b hb => by
      have := hw b (List.mem_of_mem_take hb)
      exact bounds_u8 this
    rcases Nat.eq_zero_or_pos n with h0 | h0
    · subst h0
      exact ⟨some a, 0, cap, [], rfl, ⟨fun b hb => absurd hb (by simp), .inl rfl⟩, rfl, hl⟩
    · have h00 := hc 0 (by omega)
      have hsp : a.spot = none := by simpa [Addr.add] using World.cell?_spot h00
      obtain ⟨b, o, sp⟩ := a
      subst hsp
      refine ⟨some ⟨b, o, none⟩, n, cap, zs.take n, rfl, ⟨hby, .inr ⟨b, o, rfl, ?_, fun j v hj => ?_⟩⟩, by rw [List.length_take]; omega, hl⟩
      · have e : (⟨b, o, none⟩ : Addr).add 0 = ⟨b, o, none⟩ := by simp [Addr.add]
        rw [e] at h00
        exact block_lt_of_cell h00
      · have hjn : j < n := by
          by_cases hjn : j < n
          · exact hjn
          · simp [u8s, List.getElem?_take, hjn] at hj
        have hcj := hc j (by omega)
        have e : (⟨b, o, none⟩ : Addr).add j = ⟨b, o + j, none⟩ := by unfold Addr.add; split <;> simp_all
        rw [e] at hcj
        rw [hcj, ← hj]
        have : j < zs.length := by omega
        simp [u8s, List.getElem?_take, hjn, this]
end
theorem gEOF : Tryd.prog.globalNamed "io.EOF" = some 2 := by kernel_rfl
theorem gUNE : Tryd.prog.globalNamed "io.ErrUnexpectedEOF" = some 5 := by kernel_rfl
theorem tEOF : (Tryd.prog.globals[2]?).map (·.type) = some 67 := by kernel_rfl
theorem tUNE : (Tryd.prog.globals[5]?).map (·.type) = some 67 := by kernel_rfl
theorem cells_es : Tryd.prog.cellsOf 139 = 1 := by kernel_rfl
theorem cells_str : Tryd.prog.cellsOf 9 = 1 := by kernel_rfl
theorem star : "*" ++ "errors.errorString" = "*errors.errorString" := by decide
theorem row_es (u : TypeId) (h : Tryd.prog.typeName? 3 u = some "*errors.errorString") : u = 137 :=
  typeName_ptr_named (nm := "errors.errorString") (by rw [star]; kernel_rfl) (by kernel_rfl) (by decide) u (by rw [star]; exact h)
/-- what the condition gives: the two errors in their variables, in memory of their own -/
structure ErrsIn (W : World) (E U : Addr) : Prop where
  errs : Errs W E U
  ne : E ≠ U
  e : ∃ c t, W.heap[E.block]? = some (.cells c t (0, 0))
  u : ∃ c t, W.heap[U.block]? = some (.cells c t (0, 0))
theorem errs_of_laid {W : World} (h : laidMetH Tryd.prog [("io.ErrShortBuffer", Rows.laid_io_ErrShortBuffer), ("io.EOF", Rows.laid_io_EOF), ("io.ErrUnexpectedEOF", Rows.laid_io_ErrUnexpectedEOF)] W) : ∃ E U, ErrsIn W E U := by
  rw [MakeChecks.laidMetH_plain _ _ _ (by kernel_rfl)] at h
  obtain ⟨a0, a1, s0, s1, c0, c1, t0, t1, hv0, hv1, hc0, hs0, hz0, hc1, hs1, hz1, hne, hb0, hb1⟩ := laid_sentinels2 h.tail gEOF tEOF gUNE tUNE Tryd.underlying67 row_es Tryd.underlying137 Tryd.underlying139 rfl rfl Tryd.underlying9 cells_es cells_str
  exact ⟨a0, a1, ⟨by simpa using World.var?_cell gEOF hv0 0, by simpa using World.var?_cell gUNE hv1 0⟩, hne, ⟨c0, t0, hb0⟩, ⟨c1, t1, hb1⟩⟩
theorem globals_lt {W : World} {E U : Addr} (h : Errs W E U) : 2 < W.heap.size ∧ 5 < W.heap.size :=
  ⟨block_lt_of_cell h.eof, block_lt_of_cell h.une⟩
end Go.Proofs.YtakigeichhngbaaDoor
/-! The variable that the writing names: an error, which stays. -/
namespace Go.Proofs.YtakigeichhngbaaDoor
open Go.ChangeShapes Go.WideShapes Go.ChangeAt Go.RowKit Go.Joins Go.Deep
set_option linter.unusedVariables false
set_option linter.unusedSimpArgs false
theorem gEUP : Tryd.prog.globalNamed "loop.example/pub-g03146/pub/ebpfasm.ErrUnsatisfiedProgramReference" = some 3 := by kernel_rfl
theorem tEUP : (Tryd.prog.globals[3]?).map (·.type) = some 67 := by kernel_rfl
theorem var?_below {P : Program} {n : String} {g : Nat} {cs : Array Value} {w w' : World} (hg : P.globalNamed n = some g) (h : w.var? P n = some cs) (hb : Below w.heap.size w w') : w'.var? P n = some cs := by
  simp only [World.var?, hg, Option.bind_some] at h ⊢
  have hlt : g < w.heap.size := by
    split at h
    · rename_i hb'; exact lt_of_blk hb'
    · cases h
  rw [hb.block g hlt]
  exact h
/-- the variable's one cell, as a token -/
theorem open_eup {H : Type} {enc : TypeId × Value → H} {W : World} {gs : List (DataW H)} {q : List MemPlace} (h : DataW.TrodVars enc Tryd.prog W (fun _ => true) ["loop.example/pub-g03146/pub/ebpfasm.ErrUnsatisfiedProgramReference"] gs q) :
    ∃ x : Value, gs = [tok enc x] ∧ IsIface x ∧ W.var? Tryd.prog "loop.example/pub-g03146/pub/ebpfasm.ErrUnsatisfiedProgramReference" = some #[x] := by
  obtain ⟨g, t, cs, fuel, d, p, rfl, hg, ht, hvar, hd, rfl⟩ := trodVars_one h
  obtain rfl := Option.some.inj (gEUP.symm.trans hg)
  obtain rfl := Option.some.inj (tEUP.symm.trans ht)
  obtain ⟨old, hcs, ho, hx⟩ := held_of_trod_list Tryd.underlying67 hd
  simp only [Prod.mk.injEq] at hx
  obtain ⟨rfl, rfl⟩ := hx
  obtain rfl : cs = #[old] := by cases cs; simp_all
  exact ⟨old, rfl, ho, hvar⟩
theorem shut_eup {H : Type} {enc : TypeId × Value → H} {W W' : World} {x : Value} (hx : IsIface x) (hv : W.var? Tryd.prog "loop.example/pub-g03146/pub/ebpfasm.ErrUnsatisfiedProgramReference" = some #[x]) (hb : Below W.heap.size W W') (sp : Nat → Bool) :
    DataW.TrodVars enc Tryd.prog W' sp ["loop.example/pub-g03146/pub/ebpfasm.ErrUnsatisfiedProgramReference"] [tok enc x] [.cell 3 0] :=
  vars_read1 enc gEUP tEUP Tryd.underlying67 (var?_below gEUP hv hb) hx sp
theorem errs_of_laid4 {W : World} (h : laidMetH Tryd.prog [("io.ErrShortBuffer", Rows.laid_io_ErrShortBuffer), ("io.EOF", Rows.laid_io_EOF), ("io.ErrUnexpectedEOF", Rows.laid_io_ErrUnexpectedEOF), ("loop.example/pub-g03146/pub/ebpfasm.ErrUnsatisfiedProgramReference", Rows.laid_loop_example_pub_g03146_pub_ebpfasm_ErrUnsatisfiedProgramReference)] W) : ∃ E U, ErrsIn W E U := by
  rw [MakeChecks.laidMetH_plain _ _ _ (by kernel_rfl)] at h
  obtain ⟨a0, a1, s0, s1, c0, c1, t0, t1, hv0, hv1, hc0, hs0, hz0, hc1, hs1, hz1, hne, hb0, hb1⟩ := laid_sentinels2 h.tail gEOF tEOF gUNE tUNE Tryd.underlying67 row_es Tryd.underlying137 Tryd.underlying139 rfl rfl Tryd.underlying9 cells_es cells_str
  exact ⟨a0, a1, ⟨by simpa using World.var?_cell gEOF hv0 0, by simpa using World.var?_cell gUNE hv1 0⟩, hne, ⟨c0, t0, hb0⟩, ⟨c1, t1, hb1⟩⟩
end Go.Proofs.YtakigeichhngbaaDoor
