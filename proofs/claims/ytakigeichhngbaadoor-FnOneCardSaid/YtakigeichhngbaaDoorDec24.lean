import Derived.Test.YtakigeichhngbaaDoorDecF
namespace Go.Proofs.YtakigeichhngbaaDoor
open Go.RowKit
set_option linter.unusedVariables false
set_option linter.unusedSimpArgs false
set_option maxRecDepth 100000 in
set_option maxHeartbeats 4000000 in
theorem Decode_24 (big : Bool) (B o n cap : Nat) (w : World) (b1 b2 b3 b4 b5 b6 b7 a0 a1 a2 a3 a4 a5 a6 a7 : Int) (bs : List Int) (h : BytesAt w (some ⟨B, o, none⟩) (24 :: b1 :: b2 :: b3 :: b4 :: b5 :: b6 :: b7 :: a0 :: a1 :: a2 :: a3 :: a4 :: a5 :: a6 :: a7 :: bs)) (hn : 16 + bs.length = n) (hc : n ≤ cap)
    (off c : Int) (hoff : off = IntKind.i16.wrap (bif big then n16 b3 b2 else n16 b2 b3)) (hcc : c = wrap64 (wrap32 (bif big then n32 b7 b6 b5 b4 else n32 b4 b5 b6 b7))) (hz : (bif big then n32 a3 a2 a1 a0 else n32 a0 a1 a2 a3) = 0) :
    Calls Tryd.prog 8 #[.slice (some ⟨B, o, none⟩) n cap, .bool big] w fun e w' => e = .returned (decV 24 (bif big then b1 / 16 else b1 % 16) (bif big then b1 % 16 else b1 / 16) off (dC (bif big then n32 a7 a6 a5 a4 else n32 a4 a5 a6 a7) (bif big then n32 b7 b6 b5 b4 else n32 b4 b5 b6 b7)) 16 0) ∧ Below w.heap.size w w' := by
  have hn1 : (8 : Int) ≤ n := by omega
  have hn3 : (n : Int) ≤ cap := by omega
  have hn4 : decide ((n : Int) < 8) = false := by simp; omega
  have i0 : 0 < n := by omega
  have j2 : ¬ cap = 2 := by omega
  have j4 : ¬ cap = 4 := by omega
  have i1 : (1 : Int) < n := by omega
  have k2 : (2 : Int) ≤ cap := by omega
  have k4 : (4 : Int) ≤ cap := by omega
  have k8 : (8 : Int) ≤ cap := by omega
  have hn2 : ¬ (n : Int) < 16 := by omega
  have hn5 : (16 : Int) ≤ n := by omega
  have k12 : (12 : Int) ≤ cap := by omega
  have k16 : (16 : Int) ≤ cap := by omega
  have j8 : ¬ cap = 8 := by omega
  have j12 : ¬ cap = 12 := by omega
  have HZ := Lib.hid hz
  clear hz
  have eo : IntKind.i64.wrap (IntKind.i16.wrap (bif big then n16 b3 b2 else n16 b2 b3)) = off := by
    rw [hoff]
    refine IntWalk.i64_in _ ?_
    have := w16 (bif big then n16 b3 b2 else n16 b2 b3)
    omega
  have ec : IntKind.i64.wrap (IntKind.i32.wrap (bif big then n32 b7 b6 b5 b4 else n32 b4 b5 b6 b7)) = c := by rw [IntWalk.i64_left, IntWalk.i32_left]; exact hcc.symm
  have hb1 := (Below.refl w.heap.size w).alloc (Nat.le_refl _) (.cells #[.int .i64 0, .int .i64 0, .int .i64 0, .int .i64 0, .int .i64 0, .string ⟨#[]⟩, .string ⟨#[]⟩] 24)
  have hr := heap_alloc_new w (.cells #[.int .i64 0, .int .i64 0, .int .i64 0, .int .i64 0, .int .i64 0, .string ⟨#[]⟩, .string ⟨#[]⟩] 24)
  have h2 := h.keep hb1
  have HN := Lib.hid hn
  have EO := Lib.hid eo
  have EC := Lib.hid ec
  clear hn h hoff hcc eo ec
  go_enter Tryd.func8, Tryd.ntmps8
  go_upto_region 3 with fail
  revert hb1 hr h2
  generalize w.alloc (.cells #[.int .i64 0, .int .i64 0, .int .i64 0, .int .i64 0, .int .i64 0, .string ⟨#[]⟩, .string ⟨#[]⟩] 24) = W
  intro hb1 hr h2
  obtain ⟨hy, h2⟩ := h2
  simp only [List.forall_mem_cons] at hy
  obtain ⟨y0, y1, y2, y3, y4, y5, y6, y7, z0, z1, z2, z3, z4, z5, z6, z7, -⟩ := hy
  have y0' := y0
  obtain ⟨y00, y01⟩ := y0'
  obtain ⟨B', o', e0, hB, hcc⟩ := h2.resolve_left (by simp)
  obtain ⟨rfl, rfl⟩ : B = B' ∧ o = o' := by injection e0 with e1; injection e1 with e2 e3; exact ⟨e2, e3⟩
  have c0 : W.cell? ⟨B, o, none⟩ = some (.int .u8 24) := cells_bytes hcc 0 24 rfl
  have c1 := cells_bytes hcc 1 b1 rfl
  have c2 := cells_bytes hcc 2 b2 rfl
  have c3 := cells_bytes hcc 3 b3 rfl
  have c4 := cells_bytes hcc 4 b4 rfl
  have c5 := cells_bytes hcc 5 b5 rfl
  have c6 := cells_bytes hcc 6 b6 rfl
  have c7 := cells_bytes hcc 7 b7 rfl
  have n2 : ∀ W' : World, Below W.heap.size W W' → Calls Tryd.prog 25 #[.slice (some ⟨B, o + 2, none⟩) 2 (cap - 2), .bool big] W' fun e w' => e = .returned (.int .u64 (bif big then n16 b3 b2 else n16 b2 b3)) ∧ W' = w' :=
    fun W' hb => number2_c big B (o + 2) (cap - 2) b2 b3 W' ((hb.cell (p := ⟨B, o + 2, none⟩) hB).trans c2) ((hb.cell (p := ⟨B, o + 3, none⟩) hB).trans c3) y2 y3
  have n4 : ∀ W' : World, Below W.heap.size W W' → Calls Tryd.prog 25 #[.slice (some ⟨B, o + 4, none⟩) 4 (cap - 4), .bool big] W' fun e w' => e = .returned (.int .u64 (bif big then n32 b7 b6 b5 b4 else n32 b4 b5 b6 b7)) ∧ W' = w' :=
    fun W' hb => number4_c big B (o + 4) (cap - 4) b4 b5 b6 b7 W' ((hb.cell (p := ⟨B, o + 4, none⟩) hB).trans c4) ((hb.cell (p := ⟨B, o + 5, none⟩) hB).trans c5) ((hb.cell (p := ⟨B, o + 6, none⟩) hB).trans c6) ((hb.cell (p := ⟨B, o + 7, none⟩) hB).trans c7) y4 y5 y6 y7
  have a0c := cells_bytes hcc 8 a0 rfl
  have a1c := cells_bytes hcc 9 a1 rfl
  have a2c := cells_bytes hcc 10 a2 rfl
  have a3c := cells_bytes hcc 11 a3 rfl
  have a4c := cells_bytes hcc 12 a4 rfl
  have a5c := cells_bytes hcc 13 a5 rfl
  have a6c := cells_bytes hcc 14 a6 rfl
  have a7c := cells_bytes hcc 15 a7 rfl
  have n8 : ∀ W' : World, Below W.heap.size W W' → Calls Tryd.prog 25 #[.slice (some ⟨B, o + 8, none⟩) 4 (cap - 8), .bool big] W' fun e w' => e = .returned (.int .u64 (bif big then n32 a3 a2 a1 a0 else n32 a0 a1 a2 a3)) ∧ W' = w' :=
    fun W' hb => number4_c big B (o + 8) (cap - 8) a0 a1 a2 a3 W' ((hb.cell (p := ⟨B, o + 8, none⟩) hB).trans a0c) ((hb.cell (p := ⟨B, o + 9, none⟩) hB).trans a1c) ((hb.cell (p := ⟨B, o + 10, none⟩) hB).trans a2c) ((hb.cell (p := ⟨B, o + 11, none⟩) hB).trans a3c) z0 z1 z2 z3
  have n12 : ∀ W' : World, Below W.heap.size W W' → Calls Tryd.prog 25 #[.slice (some ⟨B, o + 12, none⟩) 4 (cap - 12), .bool big] W' fun e w' => e = .returned (.int .u64 (bif big then n32 a7 a6 a5 a4 else n32 a4 a5 a6 a7)) ∧ W' = w' :=
    fun W' hb => number4_c big B (o + 12) (cap - 12) a4 a5 a6 a7 W' ((hb.cell (p := ⟨B, o + 12, none⟩) hB).trans a4c) ((hb.cell (p := ⟨B, o + 13, none⟩) hB).trans a5c) ((hb.cell (p := ⟨B, o + 14, none⟩) hB).trans a6c) ((hb.cell (p := ⟨B, o + 15, none⟩) hB).trans a7c) z4 z5 z6 z7
  have N8 := Lib.hid n8
  have N12 := Lib.hid n12
  clear a0c a1c a2c a3c a4c a5c a6c a7c n8 n12
  have N2 := Lib.hid n2
  have N4 := Lib.hid n4
  have C1 := Lib.hid c1
  clear c1 c2 c3 c4 c5 c6 c7 hcc e0 h2 n2 n4
  go_cut [7] (fun s7 wx => DecMid W 24 off c s7 wx)
  case first =>
    have eo := EO.out
    have ec := EC.out
    have ew : IntKind.i64.wrap 24 = 24 := IntWalk.i64_in _ (by omega)
    go_region_held3 (fun w' => w'.cell? ⟨B, o, none⟩ = some (.int .u8 24) ∧ Below W.heap.size W w')
      (refine ⟨?_, ?_⟩ <;> first | (refine Below.drew ?_; refine Below.alloc ?_ ?_ _ <;> first | assumption | exact Below.refl _ _ | exact Nat.le_refl _ | omega) | (refine Below.alloc ?_ ?_ _ <;> first | assumption | exact (Below.refl _ _).drew | exact Nat.le_refl _ | omega) | exact Below.refl _ _ | exact (Below.refl _ _).drew | assumption | exact cell_old _ hB c0 | go_keep)
      (first | (go_at_call 25; ((with_reducible refine (N2.out _ (by go_grown)).mono ?_); rintro e w' ⟨rfl, rfl⟩)) | (go_at_call 25; ((with_reducible refine (N4.out _ (by go_grown)).mono ?_); rintro e w' ⟨rfl, rfl⟩)))
    all_goals
      go_wp2_with fail
      go_meet
      refine ⟨rfl, ?_, ?_⟩
      · exact heap_alloc_new W _
      · exact ((Below.refl _ _).alloc (Nat.le_refl _) _).drew
  case rest =>
    obtain ⟨rfl, hx, hbx⟩ := hcut
    obtain ⟨x0, x1, x2, x3, x4, x5, x6, xf⟩ := cell7 hx
    obtain ⟨r0, r1, r2, r3, r4, r5, r6, rf⟩ := cell7 ((hbx.block _ (lt_of_blk hr)).trans hr)
    have c1 := (hbx.cell (p := ⟨B, o + 1, none⟩) hB).trans C1.out
    have hne : ¬ w.heap.size = W.heap.size := by have := lt_of_blk hr; omega
    have hne2 : ¬ W.heap.size = w.heap.size := by omega
    have hlt : w.heap.size < W.heap.size := lt_of_blk hr
    have D0 : DSt w wc w.heap.size W.heap.size 24 0 0 off c := ⟨hb1.trans (hbx.mono hb1.size), (hbx.block _ hlt).trans hr, hx, rfl, hlt⟩
    clear C1 N2 EO EC
    go_wp2_with fail
    refine (registers_c b1 big _ y1).mono ?_
    rintro e wx ⟨rfl, rfl⟩
    obtain ⟨d, hd⟩ : ∃ d, d = bif big then b1 / 16 else b1 % 16 := ⟨_, rfl⟩
    obtain ⟨s, hs⟩ : ∃ s, s = bif big then b1 % 16 else b1 / 16 := ⟨_, rfl⟩
    rw [← hd, ← hs]
    have D2 := Lib.hid ((D0.set1 d).set2 s)
    have HD := Lib.hid hd
    have HS := Lib.hid hs
    clear D0 hd hs
    go_upto_region 8 with fail
    have hbb : Below W.heap.size W ((wc.setCell ⟨W.heap.size, 1, none⟩ (.int .i64 d)).setCell ⟨W.heap.size, 2, none⟩ (.int .i64 s)) := (hbx.setCell (p := ⟨W.heap.size, 1, none⟩) (Nat.le_refl _) _).setCell (p := ⟨W.heap.size, 2, none⟩) (Nat.le_refl _) _
    clear x0 x1 x2 x3 x4 x5 x6 xf r0 r1 r2 r3 r4 r5 r6 rf
    revert D2 hbb
    generalize (wc.setCell ⟨W.heap.size, 1, none⟩ (.int .i64 d)).setCell ⟨W.heap.size, 2, none⟩ (.int .i64 s) = W2
    intro D2 hbb
    have HB := Lib.hid hbb
    clear hbb
    go_cut [] (fun wx => DSt w wx w.heap.size W.heap.size 24 d s off (dC (bif big then n32 a7 a6 a5 a4 else n32 a4 a5 a6 a7) (bif big then n32 b7 b6 b5 b4 else n32 b4 b5 b6 b7)) ∧ Below W.heap.size W wx)
    case first =>
      obtain ⟨x0, x1, x2, x3, x4, x5, x6, xf⟩ := cell7 D2.out.xx
      go_region_held3 (fun w' => Below W.heap.size W w')
        (first | exact HB.out | exact HB.out.drew | exact (HB.out.setCell (p := ⟨W.heap.size, 4, none⟩) (Nat.le_refl _) _).drew | exact HB.out.drew.setCell (p := ⟨W.heap.size, 4, none⟩) (Nat.le_refl _) _ | assumption)
        (first | (go_at_call 25; ((with_reducible refine (N4.out _ (by first | exact HB.out | exact HB.out.drew | assumption)).mono ?_); rintro e w' ⟨rfl, rfl⟩)) | (go_at_call 25; ((with_reducible refine (N12.out _ (by first | exact HB.out | exact HB.out.drew | assumption)).mono ?_); rintro e w' ⟨rfl, rfl⟩)))
      all_goals
        go_wp2_with fail
        go_meet
        rw [show dC (bif big then n32 a7 a6 a5 a4 else n32 a4 a5 a6 a7) (bif big then n32 b7 b6 b5 b4 else n32 b4 b5 b6 b7) = IntKind.i64.wrap (bits .or .u64 (IntKind.u64.wrap ((bif big then n32 a7 a6 a5 a4 else n32 a4 a5 a6 a7) * 4294967296)) (bif big then n32 b7 b6 b5 b4 else n32 b4 b5 b6 b7)) from (IntWalk.i64_left _).symm]
        exact ⟨(D2.out.set4 _).drew, (HB.out.setCell (p := ⟨W.heap.size, 4, none⟩) (Nat.le_refl _) _).drew⟩
    case rest =>
      obtain ⟨D3, hb3⟩ := hcut
      obtain ⟨x0, x1, x2, x3, x4, x5, x6, xf⟩ := cell7 D3.xx
      obtain ⟨r0, r1, r2, r3, r4, r5, r6, rf⟩ := cell7 D3.rr
      have HD3 := Lib.hid D3
      have N8' := Lib.hid (N8.out _ hb3)
      clear D3 hb3 N4 N12 N8
      go_wp2_with fail
      refine N8'.out.mono ?_
      rintro e wx ⟨rfl, rfl⟩
      rw [HZ.out]
      generalize hq : dC (bif big then n32 a7 a6 a5 a4 else n32 a4 a5 a6 a7) (bif big then n32 b7 b6 b5 b4 else n32 b4 b5 b6 b7) = cc at HD3 x4 ⊢
      have HQ := Lib.hid hq
      clear hq
      go_wp2_with fail
      rw [← HD.out, ← HS.out, HQ.out]
      exact bodyPost_ret (results_ctt Tryd.results8 _ _ w.heap.size 24 _ (0, 0) _ _ _ rfl rfl (seven_blk _ _ _ _ _ _ _ _ _ _ _ _ _ _ _ _ _ HD3.out.rr) Tryd.underlying24 (by kernel_rfl) rfl rfl) rfl ⟨rfl, seven_below HD3.out.below _ (Nat.le_refl _) _ _ _ _ _ _ _⟩
end Go.Proofs.YtakigeichhngbaaDoor
