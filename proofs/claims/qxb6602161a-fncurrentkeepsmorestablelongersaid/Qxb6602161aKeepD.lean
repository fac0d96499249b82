import Derived.Test.Qxb6602161aKeepC
namespace Go.Proofs.Qxb6602161a
open Go.RowKit Go.ChangeMaps
set_option linter.unusedVariables false
attribute [local go_sem] blk_at blk_past lookR_some lookR_none look37 look38 look39 isMapO_map atO_map keysOk_nil keysOk_cons findE_nil findE_cons

theorem Pol2.cell0 {N : Nat} {w : World} (h : Pol2 N w) : w.cell? ⟨N + 14, 0, none⟩ = some (.map (some (N + 2))) := h.cells 0
theorem Pol2.cell3 {N : Nat} {w : World} (h : Pol2 N w) : w.cell? ⟨N + 14, 3, none⟩ = some (.map (some (N + 7))) := h.cells 3
theorem Pol2.cell8 {N : Nat} {w : World} (h : Pol2 N w) : w.cell? ⟨N + 14, 8, none⟩ = some (.map (some (N + 9))) := h.cells 8
theorem Pol2.cell9 {N : Nat} {w : World} (h : Pol2 N w) : w.cell? ⟨N + 14, 9, none⟩ = some (.map (some (N + 13))) := h.cells 9

/-- what a step keeps: Current's blocks, and all that was there before the law's call -/
theorem step_kept {N : Nat} {w w1 w2 : World} (hN : N ≤ w1.heap.size) (hP : Pol2 N w1) (hB : Below N w w1) (h : Below w1.heap.size w1 w2) : Pol2 N w2 ∧ Below N w w2 :=
  ⟨hP.kept h, hB.trans (h.mono hN)⟩

theorem min_01 (N : Nat) (w : World) (h : Pol2 N w) :
    Calls Try.prog 17 #[.agg #[.int .i64 0, .int .i64 0, .int .i64 0, .pointer (some ⟨N + 10, 0, none⟩), .pointer none, .bool false, .bool false],
      .agg #[.int .i64 1, .int .i64 1, .int .i64 4, .pointer (some ⟨N + 11, 0, none⟩), .pointer none, .bool false, .bool false]] w fun e w' => e = .returned (.bool true) ∧ Below w.heap.size w w' :=
  minAtMost_any 0 0 0 1 1 4 none none false false false false (N + 10) (N + 11) 0 0 2 8 w (by have := h.big; omega) (by have := h.big; omega)
    (Pol.cells h.pol.c10 0) (Pol.cells h.pol.c10 1) (Pol.cells h.pol.c11 0) (Pol.cells h.pol.c11 1) (by omega) (by omega)
theorem min_12 (N : Nat) (w : World) (h : Pol2 N w) :
    Calls Try.prog 17 #[.agg #[.int .i64 1, .int .i64 1, .int .i64 4, .pointer (some ⟨N + 11, 0, none⟩), .pointer none, .bool false, .bool false],
      .agg #[.int .i64 1, .int .i64 3, .int .i64 9, .pointer (some ⟨N + 12, 0, none⟩), .pointer none, .bool false, .bool false]] w fun e w' => e = .returned (.bool true) ∧ Below w.heap.size w w' :=
  minAtMost_any 1 1 4 1 3 9 none none false false false false (N + 11) (N + 12) 2 8 4 12 w (by have := h.big; omega) (by have := h.big; omega)
    (Pol.cells h.pol.c11 0) (Pol.cells h.pol.c11 1) (Pol.cells h.pol.c12 0) (Pol.cells h.pol.c12 1) (by omega) (by omega)

set_option maxHeartbeats 4000000 in
theorem keeps_walk (w : World) :
    Calls Try.prog 7 #[] w fun e w' => e = .returned (.bool true) ∧ Below w.heap.size w w' := by
  go_enter Try.func7, Try.ntmps7
  go_wp2_with fail
  refine (current_any _).mono ?_
  rintro e w0 ⟨rfl, hP, hs, hB⟩
  simp only [polV]
  have m4 := hP.m4
  have hlt4 : w.heap.size + 4 < w0.heap.size := by omega
  have HS : Hid (w0.heap.size = w.heap.size + 14) := hs
  go_wp2_with fail
  have P0 : Pol2 w.heap.size (w0.alloc (.cells (polC w.heap.size) 41)) :=
    ⟨hP.kept fun b hl => blk_past _ _ _ (by omega), blk_at _ _ _ (by omega), by simp; omega⟩
  have B0 : Below w.heap.size w (w0.alloc (.cells (polC w.heap.size) 41)) := hB.alloc (by omega) _
  simp only [polC] at P0 B0
  clear m4 hlt4 HS hP hB
  refine (chain_2 _ _ P0).mono ?_
  rintro e w1 ⟨rfl, hb1⟩
  obtain ⟨P1, B1⟩ := step_kept (by simp; omega) P0 B0 hb1
  clear hb1 P0 B0
  clear hs
  go_wp2_with fail
  refine (chain_5 _ _ P1).mono ?_
  rintro e w2 ⟨rfl, hb2⟩
  obtain ⟨P2, B2⟩ := step_kept (by have := P1.big; omega) P1 B1 hb2
  clear hb2 P1 B1
  go_wp2_with fail
  refine (chain_6 _ _ P2).mono ?_
  rintro e w3 ⟨rfl, hb3⟩
  obtain ⟨P3, B3⟩ := step_kept (by have := P2.big; omega) P2 B2 hb3
  clear hb3 P2 B2
  have cc3 := P3.cell3
  go_wp2_with fail
  refine (chain_7 _ _ P3).mono ?_
  rintro e w4 ⟨rfl, hb4⟩
  obtain ⟨P4, B4⟩ := step_kept (by have := P3.big; omega) P3 B3 hb4
  clear hb4 P3 B3
  have cc4 := P4.cell8
  go_wp2_with fail
  refine (chain_9 _ _ P4).mono ?_
  rintro e w5 ⟨rfl, hb5⟩
  obtain ⟨P5, B5⟩ := step_kept (by have := P4.big; omega) P4 B4 hb5
  clear hb5 P4 B4
  have cc5 := P5.cell9
  go_wp2_with fail
  refine (chain_13 _ _ P5).mono ?_
  rintro e w6 ⟨rfl, hb6⟩
  obtain ⟨P6, B6⟩ := step_kept (by have := P5.big; omega) P5 B5 hb6
  clear hb6 P5 B5
  go_wp2_with fail
  refine (facing_0 _ _ P6).mono ?_
  rintro e w7 ⟨rfl, hb7⟩
  obtain ⟨P7, B7⟩ := step_kept (by have := P6.big; omega) P6 B6 hb7
  clear hb7 P6 B6
  go_wp2_with fail
  refine (facing_1 _ _ P7).mono ?_
  rintro e w8 ⟨rfl, hb8⟩
  obtain ⟨P8, B8⟩ := step_kept (by have := P7.big; omega) P7 B7 hb8
  clear hb8 P7 B7
  go_wp2_with fail
  refine (facing_2 _ _ P8).mono ?_
  rintro e w9 ⟨rfl, hb9⟩
  obtain ⟨P9, B9⟩ := step_kept (by have := P8.big; omega) P8 B8 hb9
  clear hb9 P8 B8
  have cc9 := P9.cell8
  have cd9 := P9.cell0
  have m9 := P9.pol.m9
  have m2 := P9.pol.m2
  have big9 : w.heap.size + 14 < w9.heap.size := P9.big
  have big9' : w.heap.size + 9 < w9.heap.size := by omega
  have big9b : w.heap.size + 9 < w9.heap.size + 1 := by omega
  have big9c : w.heap.size + 14 < w9.heap.size + 1 := by omega
  go_wp2_with fail
  have P9a := ((P9.alloc (.cells #[.int .i64 0, .int .i64 0, .int .i64 0, .pointer (some ⟨w.heap.size + 10, 0, none⟩), .pointer none, .bool false, .bool false] 27)).alloc (.cells #[.int .i64 1, .int .i64 1, .int .i64 4, .pointer (some ⟨w.heap.size + 11, 0, none⟩), .pointer none, .bool false, .bool false] 27)).alloc (.cells #[.int .i64 1, .int .i64 3, .int .i64 9, .pointer (some ⟨w.heap.size + 12, 0, none⟩), .pointer none, .bool false, .bool false] 27)
  have B9a := ((B9.alloc (by omega) (.cells #[.int .i64 0, .int .i64 0, .int .i64 0, .pointer (some ⟨w.heap.size + 10, 0, none⟩), .pointer none, .bool false, .bool false] 27)).alloc (by simp; omega) (.cells #[.int .i64 1, .int .i64 1, .int .i64 4, .pointer (some ⟨w.heap.size + 11, 0, none⟩), .pointer none, .bool false, .bool false] 27)).alloc (by simp; omega) (.cells #[.int .i64 1, .int .i64 3, .int .i64 9, .pointer (some ⟨w.heap.size + 12, 0, none⟩), .pointer none, .bool false, .bool false] 27)
  refine (min_01 _ _ P9a).mono ?_
  rintro e w10 ⟨rfl, hb10⟩
  obtain ⟨hc10, hf10⟩ := bcell hb10
  obtain ⟨P10, B10⟩ := step_kept (by simp; omega) P9a B9a hb10
  clear P9a B9a cc3 cc4 cc5 cc9 cd9 m9 m2 big9 big9' big9b big9c P9 B9 hb10
  go_wp2_with fail
  refine (min_12 _ _ P10).mono ?_
  rintro e w11 ⟨rfl, hb11⟩
  obtain ⟨P11, B11⟩ := step_kept (by have := P10.big; omega) P10 B10 hb11
  clear P10 B10 hb11 hc10 hf10
  have cd := P11.cell0
  have m2 := P11.pol.m2
  have big : w.heap.size + 14 < w11.heap.size := P11.big
  have bigA : w.heap.size + 2 < w11.heap.size := by omega
  have bigB : w.heap.size + 2 < w11.heap.size + 1 := by omega
  have bigC : w.heap.size + 14 < w11.heap.size + 1 := by omega
  go_wp2_with fail
  have B11a := (B11.alloc (by omega) (.cells #[.int .i64 2, .int .i64 0, .int .i64 0, .pointer none, .pointer none, .bool true, .bool true] 27)).alloc (by simp; omega) (.cells #[.int .i64 1, .int .i64 3, .int .i64 9, .pointer none, .pointer (some ⟨w.heap.size + 3, 0, none⟩), .bool true, .bool true] 27)
  refine (keptFor_any 2 0 0 _ _ _ _ _).mono ?_
  rintro e w12 ⟨rfl, hb12⟩
  rw [show kR 2 0 = 0 from rfl, show kB 2 = false from rfl]
  have B12 := B11a.trans (hb12.mono (by simp; omega))
  obtain ⟨hc12, hf12⟩ := bcell hb12
  have hz12 : w11.heap.size + 1 < w12.heap.size := by have := hb12.size; simp at this; omega
  clear B11a hb12 P11 B11 cd m2
  go_wp2_with fail
  refine (keptFor_any 1 3 9 _ _ _ _ _).mono ?_
  rintro e w13 ⟨rfl, hb13⟩
  rw [show kR 1 3 = 3 from rfl, show kR 1 9 = 9 from rfl, show kB 1 = true from rfl]
  have B13 := (B12.alloc (by omega) (.cells #[.int .i64 0, .int .i64 0] 24)).trans (hb13.mono (by simp; omega))
  have hz13 : w12.heap.size + 1 ≤ w13.heap.size := by have := hb13.size; simp at this; omega
  clear hb13 hc12 hf12
  go_wp2_with fail
  go_ret
  exact ⟨rfl, B13.alloc (by omega) _⟩

end Go.Proofs.Qxb6602161a
