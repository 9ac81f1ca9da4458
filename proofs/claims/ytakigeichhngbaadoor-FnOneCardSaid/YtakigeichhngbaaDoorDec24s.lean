import Derived.Test.YtakigeichhngbaaDoorDecF
namespace Go.Proofs.YtakigeichhngbaaDoor
open Go.RowKit
set_option linter.unusedVariables false
set_option linter.unusedSimpArgs false
set_option maxRecDepth 100000 in
set_option maxHeartbeats 4000000 in
theorem Decode_24s (big : Bool) (B o n cap : Nat) (w : World) (b1 b2 b3 b4 b5 b6 b7 : Int) (bs : List Int) (h : BytesAt w (some ⟨B, o, none⟩) (24 :: b1 :: b2 :: b3 :: b4 :: b5 :: b6 :: b7 :: bs)) (hn : 8 + bs.length = n) (hc : n ≤ cap)
    (off c : Int) (hoff : off = IntKind.i16.wrap (bif big then n16 b3 b2 else n16 b2 b3)) (hcc : c = wrap64 (wrap32 (bif big then n32 b7 b6 b5 b4 else n32 b4 b5 b6 b7))) (hl : bs.length < 8) :
    Calls Tryd.prog 8 #[.slice (some ⟨B, o, none⟩) n cap, .bool big] w fun e w' => e = .returned (decV 0 0 0 0 0 0 1) ∧ Below w.heap.size w w' := by
  have hn1 : (8 : Int) ≤ n := by omega
  have hn2 : (n : Int) < 16 := by omega
  have hn3 : (n : Int) ≤ cap := by omega
  have hn4 : decide ((n : Int) < 8) = false := by simp; omega
  have i0 : 0 < n := by omega
  have j2 : ¬ cap = 2 := by omega
  have j4 : ¬ cap = 4 := by omega
  have i1 : (1 : Int) < n := by omega
  have k2 : (2 : Int) ≤ cap := by omega
  have k4 : (4 : Int) ≤ cap := by omega
  have k8 : (8 : Int) ≤ cap := by omega
  have eo : IntKind.i64.wrap (IntKind.i16.wrap (bif big then n16 b3 b2 else n16 b2 b3)) = off := by
    rw [hoff]
    refine IntWalk.i64_in _ ?_
    have := w16 (bif big then n16 b3 b2 else n16 b2 b3)
    omega
  have ec : IntKind.i64.wrap (IntKind.i32.wrap (bif big then n32 b7 b6 b5 b4 else n32 b4 b5 b6 b7)) = c := by rw [IntWalk.i64_left, IntWalk.i32_left]; exact hcc.symm
  have hb1 := (Below.refl w.heap.size w).alloc (Nat.le_refl _) (.cells #[.int .i64 0, .int .i64 0, .int .i64 0, .int .i64 0, .int .i64 0, .string ⟨#[]⟩, .string ⟨#[]⟩] 24)
  have hr := heap_alloc_new w (.cells #[.int .i64 0, .int .i64 0, .int .i64 0, .int .i64 0, .int .i64 0, .string ⟨#[]⟩, .string ⟨#[]⟩] 24)
  have h2 := h.keep hb1
  have HN := Lib.hid hn
  have EO := Lib.hid eo
  have EC := Lib.hid ec
  clear hn h hoff hcc eo ec
  go_enter Tryd.func8, Tryd.ntmps8
  go_upto_region 3 with fail
  revert hb1 hr h2
  generalize w.alloc (.cells #[.int .i64 0, .int .i64 0, .int .i64 0, .int .i64 0, .int .i64 0, .string ⟨#[]⟩, .string ⟨#[]⟩] 24) = W
  intro hb1 hr h2
  obtain ⟨hy, h2⟩ := h2
  simp only [List.forall_mem_cons] at hy
  obtain ⟨y0, y1, y2, y3, y4, y5, y6, y7, -⟩ := hy
  have y0' := y0
  obtain ⟨y00, y01⟩ := y0'
  obtain ⟨B', o', e0, hB, hcc⟩ := h2.resolve_left (by simp)
  obtain ⟨rfl, rfl⟩ : B = B' ∧ o = o' := by injection e0 with e1; injection e1 with e2 e3; exact ⟨e2, e3⟩
  have c0 : W.cell? ⟨B, o, none⟩ = some (.int .u8 24) := cells_bytes hcc 0 24 rfl
  have c1 := cells_bytes hcc 1 b1 rfl
  have c2 := cells_bytes hcc 2 b2 rfl
  have c3 := cells_bytes hcc 3 b3 rfl
  have c4 := cells_bytes hcc 4 b4 rfl
  have c5 := cells_bytes hcc 5 b5 rfl
  have c6 := cells_bytes hcc 6 b6 rfl
  have c7 := cells_bytes hcc 7 b7 rfl
  have n2 : ∀ W' : World, Below W.heap.size W W' → Calls Tryd.prog 25 #[.slice (some ⟨B, o + 2, none⟩) 2 (cap - 2), .bool big] W' fun e w' => e = .returned (.int .u64 (bif big then n16 b3 b2 else n16 b2 b3)) ∧ W' = w' :=
    fun W' hb => number2_c big B (o + 2) (cap - 2) b2 b3 W' ((hb.cell (p := ⟨B, o + 2, none⟩) hB).trans c2) ((hb.cell (p := ⟨B, o + 3, none⟩) hB).trans c3) y2 y3
  have n4 : ∀ W' : World, Below W.heap.size W W' → Calls Tryd.prog 25 #[.slice (some ⟨B, o + 4, none⟩) 4 (cap - 4), .bool big] W' fun e w' => e = .returned (.int .u64 (bif big then n32 b7 b6 b5 b4 else n32 b4 b5 b6 b7)) ∧ W' = w' :=
    fun W' hb => number4_c big B (o + 4) (cap - 4) b4 b5 b6 b7 W' ((hb.cell (p := ⟨B, o + 4, none⟩) hB).trans c4) ((hb.cell (p := ⟨B, o + 5, none⟩) hB).trans c5) ((hb.cell (p := ⟨B, o + 6, none⟩) hB).trans c6) ((hb.cell (p := ⟨B, o + 7, none⟩) hB).trans c7) y4 y5 y6 y7
  have N2 := Lib.hid n2
  have N4 := Lib.hid n4
  have C1 := Lib.hid c1
  clear c1 c2 c3 c4 c5 c6 c7 hcc e0 h2 n2 n4
  go_cut [7] (fun s7 wx => DecMid W 24 off c s7 wx)
  case first =>
    have eo := EO.out
    have ec := EC.out
    have ew : IntKind.i64.wrap 24 = 24 := IntWalk.i64_in _ (by omega)
    go_region_held3 (fun w' => w'.cell? ⟨B, o, none⟩ = some (.int .u8 24) ∧ Below W.heap.size W w')
      (refine ⟨?_, ?_⟩ <;> first | (refine Below.drew ?_; refine Below.alloc ?_ ?_ _ <;> first | assumption | exact Below.refl _ _ | exact Nat.le_refl _ | omega) | (refine Below.alloc ?_ ?_ _ <;> first | assumption | exact (Below.refl _ _).drew | exact Nat.le_refl _ | omega) | exact Below.refl _ _ | exact (Below.refl _ _).drew | assumption | exact cell_old _ hB c0 | go_keep)
      (first | (go_at_call 25; ((with_reducible refine (N2.out _ (by go_grown)).mono ?_); rintro e w' ⟨rfl, rfl⟩)) | (go_at_call 25; ((with_reducible refine (N4.out _ (by go_grown)).mono ?_); rintro e w' ⟨rfl, rfl⟩)))
    all_goals
      go_wp2_with fail
      go_meet
      refine ⟨rfl, ?_, ?_⟩
      · exact heap_alloc_new W _
      · exact ((Below.refl _ _).alloc (Nat.le_refl _) _).drew
  case rest =>
    obtain ⟨rfl, hx, hbx⟩ := hcut
    obtain ⟨x0, x1, x2, x3, x4, x5, x6, xf⟩ := cell7 hx
    obtain ⟨r0, r1, r2, r3, r4, r5, r6, rf⟩ := cell7 ((hbx.block _ (lt_of_blk hr)).trans hr)
    have c1 := (hbx.cell (p := ⟨B, o + 1, none⟩) hB).trans C1.out
    have hne : ¬ w.heap.size = W.heap.size := by have := lt_of_blk hr; omega
    have hne2 : ¬ W.heap.size = w.heap.size := by omega
    have hlt : w.heap.size < W.heap.size := lt_of_blk hr
    have D0 : DSt w wc w.heap.size W.heap.size 24 0 0 off c := ⟨hb1.trans (hbx.mono hb1.size), (hbx.block _ hlt).trans hr, hx, rfl, hlt⟩
    clear C1 N2 N4 EO EC
    go_wp2_with fail
    refine (registers_c b1 big _ y1).mono ?_
    rintro e wx ⟨rfl, rfl⟩
    obtain ⟨d, hd⟩ : ∃ d, d = bif big then b1 / 16 else b1 % 16 := ⟨_, rfl⟩
    obtain ⟨s, hs⟩ : ∃ s, s = bif big then b1 % 16 else b1 / 16 := ⟨_, rfl⟩
    rw [← hd, ← hs]
    have D2 := Lib.hid ((D0.set1 d).set2 s)
    have HD := Lib.hid hd
    have HS := Lib.hid hs
    clear D0 hd hs
    go_wp2_with fail
    exact bodyPost_ret (results_ctt Tryd.results8 _ _ w.heap.size 24 _ (0, 0) _ _ _ rfl rfl (seven_blk _ _ _ _ _ _ _ _ _ _ _ _ _ _ _ _ _ D2.out.rr) Tryd.underlying24 (by kernel_rfl) rfl rfl) rfl ⟨rfl, seven_below D2.out.below _ (Nat.le_refl _) _ _ _ _ _ _ _⟩
end Go.Proofs.YtakigeichhngbaaDoor
