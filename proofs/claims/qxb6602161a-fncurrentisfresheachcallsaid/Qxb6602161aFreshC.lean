import Derived.Test.Qxb6602161aFreshB
namespace Go.Proofs.Qxb6602161a
open Go.RowKit Go.ChangeMaps
set_option linter.unusedVariables false

theorem track_5_0 (N : Nat) (w : World) (h : Pol N w) (hs : N + 14 ≤ w.heap.size) :
    Calls Try.prog 21 #[.map (some (N + 5)), .int .i64 0, .int .i64 0, .int .i64 0, .int .i64 0] w fun e w' => e = .returned (.bool true) ∧ Below w.heap.size w w' :=
  trackPlain_any (N + 5) 0 0 0 0 w (by omega) (by rw [h.m5]; rfl) (by rw [h.m5]; rfl)
theorem track_5_1 (N : Nat) (w : World) (h : Pol N w) (hs : N + 14 ≤ w.heap.size) :
    Calls Try.prog 21 #[.map (some (N + 5)), .int .i64 1, .int .i64 1, .int .i64 1, .int .i64 3] w fun e w' => e = .returned (.bool true) ∧ Below w.heap.size w w' :=
  trackPlain_any (N + 5) 1 1 1 3 w (by omega) (by rw [h.m5]; rfl) (by rw [h.m5]; rfl)
theorem track_5_2 (N : Nat) (w : World) (h : Pol N w) (hs : N + 14 ≤ w.heap.size) :
    Calls Try.prog 21 #[.map (some (N + 5)), .int .i64 2, .int .i64 1, .int .i64 2, .int .i64 12] w fun e w' => e = .returned (.bool true) ∧ Below w.heap.size w w' :=
  trackPlain_any (N + 5) 2 1 2 12 w (by omega) (by rw [h.m5]; rfl) (by rw [h.m5]; rfl)
theorem track_6_0 (N : Nat) (w : World) (h : Pol N w) (hs : N + 14 ≤ w.heap.size) :
    Calls Try.prog 21 #[.map (some (N + 6)), .int .i64 0, .int .i64 0, .int .i64 0, .int .i64 0] w fun e w' => e = .returned (.bool true) ∧ Below w.heap.size w w' :=
  trackPlain_any (N + 6) 0 0 0 0 w (by omega) (by rw [h.m6]; rfl) (by rw [h.m6]; rfl)
theorem track_6_1 (N : Nat) (w : World) (h : Pol N w) (hs : N + 14 ≤ w.heap.size) :
    Calls Try.prog 21 #[.map (some (N + 6)), .int .i64 1, .int .i64 1, .int .i64 1, .int .i64 3] w fun e w' => e = .returned (.bool true) ∧ Below w.heap.size w w' :=
  trackPlain_any (N + 6) 1 1 1 3 w (by omega) (by rw [h.m6]; rfl) (by rw [h.m6]; rfl)
theorem track_6_2 (N : Nat) (w : World) (h : Pol N w) (hs : N + 14 ≤ w.heap.size) :
    Calls Try.prog 21 #[.map (some (N + 6)), .int .i64 2, .int .i64 1, .int .i64 1, .int .i64 6] w fun e w' => e = .returned (.bool true) ∧ Below w.heap.size w w' :=
  trackPlain_any (N + 6) 2 1 1 6 w (by omega) (by rw [h.m6]; rfl) (by rw [h.m6]; rfl)
theorem track_7_0 (N : Nat) (w : World) (h : Pol N w) (hs : N + 14 ≤ w.heap.size) :
    Calls Try.prog 21 #[.map (some (N + 7)), .int .i64 0, .int .i64 0, .int .i64 0, .int .i64 0] w fun e w' => e = .returned (.bool true) ∧ Below w.heap.size w w' :=
  trackPlain_any (N + 7) 0 0 0 0 w (by omega) (by rw [h.m7]; rfl) (by rw [h.m7]; rfl)
theorem track_7_1 (N : Nat) (w : World) (h : Pol N w) (hs : N + 14 ≤ w.heap.size) :
    Calls Try.prog 21 #[.map (some (N + 7)), .int .i64 1, .int .i64 1, .int .i64 1, .int .i64 3] w fun e w' => e = .returned (.bool true) ∧ Below w.heap.size w w' :=
  trackPlain_any (N + 7) 1 1 1 3 w (by omega) (by rw [h.m7]; rfl) (by rw [h.m7]; rfl)
theorem track_7_2 (N : Nat) (w : World) (h : Pol N w) (hs : N + 14 ≤ w.heap.size) :
    Calls Try.prog 21 #[.map (some (N + 7)), .int .i64 2, .int .i64 1, .int .i64 2, .int .i64 6] w fun e w' => e = .returned (.bool true) ∧ Below w.heap.size w w' :=
  trackPlain_any (N + 7) 2 1 2 6 w (by omega) (by rw [h.m7]; rfl) (by rw [h.m7]; rfl)
theorem track_13_0 (N : Nat) (w : World) (h : Pol N w) (hs : N + 14 ≤ w.heap.size) :
    Calls Try.prog 21 #[.map (some (N + 13)), .int .i64 0, .int .i64 1, .int .i64 0, .int .i64 12] w fun e w' => e = .returned (.bool true) ∧ Below w.heap.size w w' :=
  trackPlain_any (N + 13) 0 1 0 12 w (by omega) (by rw [h.m13]; rfl) (by rw [h.m13]; rfl)
theorem track_13_1 (N : Nat) (w : World) (h : Pol N w) (hs : N + 14 ≤ w.heap.size) :
    Calls Try.prog 21 #[.map (some (N + 13)), .int .i64 1, .int .i64 1, .int .i64 0, .int .i64 12] w fun e w' => e = .returned (.bool true) ∧ Below w.heap.size w w' :=
  trackPlain_any (N + 13) 1 1 0 12 w (by omega) (by rw [h.m13]; rfl) (by rw [h.m13]; rfl)
theorem track_13_2 (N : Nat) (w : World) (h : Pol N w) (hs : N + 14 ≤ w.heap.size) :
    Calls Try.prog 21 #[.map (some (N + 13)), .int .i64 2, .int .i64 1, .int .i64 0, .int .i64 12] w fun e w' => e = .returned (.bool true) ∧ Below w.heap.size w w' :=
  trackPlain_any (N + 13) 2 1 0 12 w (by omega) (by rw [h.m13]; rfl) (by rw [h.m13]; rfl)
theorem api_0 (N : Nat) (w : World) (h : Pol N w) (hs : N + 14 ≤ w.heap.size) :
    Calls Try.prog 20 #[.map (some (N + 2)), .int .i64 0, .int .i64 0, .int .i64 0, .int .i64 0, .bool false, .int .i64 0, .int .i64 0, .bool false] w fun e w' => e = .returned (.bool true) ∧ Below w.heap.size w w' :=
  apiLife_nil (N + 2) 0 0 0 0 false w (by omega) (by rw [h.m2]; rfl) (by rw [h.m2]; rfl)
theorem api_2 (N : Nat) (w : World) (h : Pol N w) (hs : N + 14 ≤ w.heap.size) :
    Calls Try.prog 20 #[.map (some (N + 2)), .int .i64 2, .int .i64 2, .int .i64 0, .int .i64 0, .bool false, .int .i64 0, .int .i64 0, .bool true] w fun e w' => e = .returned (.bool true) ∧ Below w.heap.size w w' :=
  apiLife_nil (N + 2) 2 2 0 0 true w (by omega) (by rw [h.m2]; rfl) (by rw [h.m2]; rfl)
theorem api_1 (N : Nat) (w : World) (h : Pol N w) (hs : N + 14 ≤ w.heap.size) :
    Calls Try.prog 20 #[.map (some (N + 2)), .int .i64 1, .int .i64 1, .int .i64 3, .int .i64 9, .bool true, .int .i64 3, .int .i64 9, .bool true] w fun e w' => e = .returned (.bool true) ∧ Below w.heap.size w w' :=
  apiLife_some (N + 2) (N + 3) 1 1 3 9 3 9 true w (by omega) (by omega) (by rw [h.m2]; rfl) (by rw [h.m2]; rfl) (Pol.cells h.c3 0) (Pol.cells h.c3 1)
theorem metric_0 (N : Nat) (w : World) (h : Pol N w) (hs : N + 14 ≤ w.heap.size) :
    Calls Try.prog 23 #[.map (some (N + 9)), .int .i64 0, .int .i64 0, .int .i64 0, .int .i64 0, .int .i64 0, .int .i64 0] w fun e w' => e = .returned (.bool true) ∧ Below w.heap.size w w' :=
  metricLife_any (N + 9) (N + 10) 0 0 0 0 0 0 w (by omega) (by omega) (by rw [h.m9]; rfl) (by rw [h.m9]; rfl) (Pol.cells h.c10 0) (Pol.cells h.c10 1)
theorem metric_1 (N : Nat) (w : World) (h : Pol N w) (hs : N + 14 ≤ w.heap.size) :
    Calls Try.prog 23 #[.map (some (N + 9)), .int .i64 1, .int .i64 1, .int .i64 1, .int .i64 4, .int .i64 2, .int .i64 8] w fun e w' => e = .returned (.bool true) ∧ Below w.heap.size w w' :=
  metricLife_any (N + 9) (N + 11) 1 1 1 4 2 8 w (by omega) (by omega) (by rw [h.m9]; rfl) (by rw [h.m9]; rfl) (Pol.cells h.c11 0) (Pol.cells h.c11 1)
theorem metric_2 (N : Nat) (w : World) (h : Pol N w) (hs : N + 14 ≤ w.heap.size) :
    Calls Try.prog 23 #[.map (some (N + 9)), .int .i64 2, .int .i64 1, .int .i64 3, .int .i64 9, .int .i64 4, .int .i64 12] w fun e w' => e = .returned (.bool true) ∧ Below w.heap.size w w' :=
  metricLife_any (N + 9) (N + 12) 2 1 3 9 4 12 w (by omega) (by omega) (by rw [h.m9]; rfl) (by rw [h.m9]; rfl) (Pol.cells h.c12 0) (Pol.cells h.c12 1)

/-- Current's blocks, and the box that 'documented' lays for its parameter -/
structure Pol3 (N B : Nat) (w : World) : Prop where
  pol : Pol N w
  var : blk w B = some (.cells (polC N) 41)
  lo : N + 14 ≤ B
  big : B < w.heap.size
theorem Pol3.sz {N B : Nat} {w : World} (h : Pol3 N B w) : N + 14 ≤ w.heap.size := by have := h.lo; have := h.big; omega
theorem Pol3.kept {N B : Nat} {w w1 : World} (h : Pol3 N B w) (hb : Below w.heap.size w w1) : Pol3 N B w1 := by
  have h1 := h.lo
  have h2 := h.big
  refine ⟨h.pol.kept fun b hl => hb.block b (by omega), ?_, h1, by have := hb.size; omega⟩
  have e : blk w1 B = blk w B := hb.block _ h2
  rw [e]; exact h.var
theorem Pol3.cell0 {N B : Nat} {w : World} (h : Pol3 N B w) : w.cell? ⟨B, 0, none⟩ = some (.map (some (N + 2))) := Pol.cells h.var 0
theorem Pol3.cell1 {N B : Nat} {w : World} (h : Pol3 N B w) : w.cell? ⟨B, 1, none⟩ = some (.bool true) := Pol.cells h.var 1
theorem Pol3.cell2 {N B : Nat} {w : World} (h : Pol3 N B w) : w.cell? ⟨B, 2, none⟩ = some (.map (some (N + 4))) := Pol.cells h.var 2
theorem Pol3.cell3 {N B : Nat} {w : World} (h : Pol3 N B w) : w.cell? ⟨B, 3, none⟩ = some (.map (some (N + 7))) := Pol.cells h.var 3
theorem Pol3.cell4 {N B : Nat} {w : World} (h : Pol3 N B w) : w.cell? ⟨B, 4, none⟩ = some (.int .i64 0) := Pol.cells h.var 4
theorem Pol3.cell5 {N B : Nat} {w : World} (h : Pol3 N B w) : w.cell? ⟨B, 5, none⟩ = some (.int .i64 0) := Pol.cells h.var 5
theorem Pol3.cell6 {N B : Nat} {w : World} (h : Pol3 N B w) : w.cell? ⟨B, 6, none⟩ = some (.map (some (N + 8))) := Pol.cells h.var 6
theorem Pol3.cell7 {N B : Nat} {w : World} (h : Pol3 N B w) : w.cell? ⟨B, 7, none⟩ = some (.int .i64 0) := Pol.cells h.var 7
theorem Pol3.cell8 {N B : Nat} {w : World} (h : Pol3 N B w) : w.cell? ⟨B, 8, none⟩ = some (.map (some (N + 9))) := Pol.cells h.var 8
theorem Pol3.cell9 {N B : Nat} {w : World} (h : Pol3 N B w) : w.cell? ⟨B, 9, none⟩ = some (.map (some (N + 13))) := Pol.cells h.var 9
theorem step3 {N B M : Nat} {w w1 w2 : World} (hN : M ≤ w1.heap.size) (hP : Pol3 N B w1) (hB : Below M w w1) (h : Below w1.heap.size w1 w2) : Pol3 N B w2 ∧ Below M w w2 ∧ M ≤ w2.heap.size :=
  ⟨hP.kept h, hB.trans (h.mono hN), Nat.le_trans hN h.size⟩

theorem len37 (w : World) (b : Nat) (ty : TypeId) (hm : isMapO (blk w b) = true) : (Builtin.len_ #[37] ty #[.map (some b)]).run Try.prog w = .ok (.int .i64 (lenO (blk w b) : Nat)) w := run_len w (t := 37) Try.underlying37 ty hm
theorem len38 (w : World) (b : Nat) (ty : TypeId) (hm : isMapO (blk w b) = true) : (Builtin.len_ #[38] ty #[.map (some b)]).run Try.prog w = .ok (.int .i64 (lenO (blk w b) : Nat)) w := run_len w (t := 38) Try.underlying38 ty hm
theorem len39 (w : World) (b : Nat) (ty : TypeId) (hm : isMapO (blk w b) = true) : (Builtin.len_ #[39] ty #[.map (some b)]).run Try.prog w = .ok (.int .i64 (lenO (blk w b) : Nat)) w := run_len w (t := 39) Try.underlying39 ty hm

attribute [local go_sem] blk_at blk_past isMapO_map atO_map keysOk_nil keysOk_cons findE_nil findE_cons lookR_some lookR_none look37 look38 look39 lenO_map len37 len38 len39

set_option maxRecDepth 100000 in
set_option maxHeartbeats 4000000 in
theorem documented_any (N : Nat) (w : World) (hP : Pol N w) (hs : N + 14 ≤ w.heap.size) :
    Calls Try.prog 14 #[.agg #[.map (some (N + 2)), .bool true, .map (some (N + 4)), .map (some (N + 7)), .int .i64 0, .int .i64 0, .map (some (N + 8)), .int .i64 0, .map (some (N + 9)), .map (some (N + 13))]] w fun e w' => e = .returned (.bool true) ∧ Below w.heap.size w w' := by
  have P0 : Pol3 N w.heap.size (w.alloc (.cells (polC N) 41)) := ⟨hP.kept fun b hl => blk_past _ _ _ (by omega), blk_at _ _ _ rfl, hs, by simp⟩
  have B0 : Below w.heap.size w (w.alloc (.cells (polC N) 41)) := (Below.refl _ _).alloc (Nat.le_refl _) _
  have L0 : w.heap.size ≤ (w.alloc (.cells (polC N) 41)).heap.size := by simp
  simp only [polC] at P0 B0 L0
  have m2 := P0.pol.m2
  have c0 := P0.cell0
  clear hP
  go_enter Try.func14, Try.ntmps14
  go_wp2_with fail
  refine (api_0 _ _ P0.pol P0.sz).mono ?_
  rintro e w1 ⟨rfl, hb1⟩
  obtain ⟨P1, B1, L1⟩ := step3 L0 P0 B0 hb1
  clear hb1 P0 B0 L0
  clear m2 c0
  have x1_cell0 := P1.cell0
  go_wp2_with fail
  refine (api_1 _ _ P1.pol P1.sz).mono ?_
  rintro e w2 ⟨rfl, hb2⟩
  obtain ⟨P2, B2, L2⟩ := step3 L1 P1 B1 hb2
  clear hb2 P1 B1 L1
  clear x1_cell0
  have x2_cell0 := P2.cell0
  go_wp2_with fail
  refine (api_2 _ _ P2.pol P2.sz).mono ?_
  rintro e w3 ⟨rfl, hb3⟩
  obtain ⟨P3, B3, L3⟩ := step3 L2 P2 B2 hb3
  clear hb3 P2 B2 L2
  clear x2_cell0
  have x3_cell1 := P3.cell1
  have x3_cell2 := P3.cell2
  have x3_m4 := P3.pol.m4
  have x3_m5 := P3.pol.m5
  go_wp2_with fail
  refine (track_5_0 _ _ P3.pol P3.sz).mono ?_
  rintro e w4 ⟨rfl, hb4⟩
  obtain ⟨P4, B4, L4⟩ := step3 L3 P3 B3 hb4
  clear hb4 P3 B3 L3
  clear x3_cell1 x3_cell2 x3_m4 x3_m5
  go_wp2_with fail
  refine (track_5_1 _ _ P4.pol P4.sz).mono ?_
  rintro e w5 ⟨rfl, hb5⟩
  obtain ⟨P5, B5, L5⟩ := step3 L4 P4 B4 hb5
  clear hb5 P4 B4 L4
  go_wp2_with fail
  refine (track_5_2 _ _ P5.pol P5.sz).mono ?_
  rintro e w6 ⟨rfl, hb6⟩
  obtain ⟨P6, B6, L6⟩ := step3 L5 P5 B5 hb6
  clear hb6 P5 B5 L5
  have x6_cell2 := P6.cell2
  have x6_m4 := P6.pol.m4
  have x6_m6 := P6.pol.m6
  go_wp2_with fail
  refine (track_6_0 _ _ P6.pol P6.sz).mono ?_
  rintro e w7 ⟨rfl, hb7⟩
  obtain ⟨P7, B7, L7⟩ := step3 L6 P6 B6 hb7
  clear hb7 P6 B6 L6
  clear x6_cell2 x6_m4 x6_m6
  go_wp2_with fail
  refine (track_6_1 _ _ P7.pol P7.sz).mono ?_
  rintro e w8 ⟨rfl, hb8⟩
  obtain ⟨P8, B8, L8⟩ := step3 L7 P7 B7 hb8
  clear hb8 P7 B7 L7
  go_wp2_with fail
  refine (track_6_2 _ _ P8.pol P8.sz).mono ?_
  rintro e w9 ⟨rfl, hb9⟩
  obtain ⟨P9, B9, L9⟩ := step3 L8 P8 B8 hb9
  clear hb9 P8 B8 L8
  have x9_cell3 := P9.cell3
  have x9_m7 := P9.pol.m7
  go_wp2_with fail
  refine (track_7_0 _ _ P9.pol P9.sz).mono ?_
  rintro e w10 ⟨rfl, hb10⟩
  obtain ⟨P10, B10, L10⟩ := step3 L9 P9 B9 hb10
  clear hb10 P9 B9 L9
  clear x9_cell3 x9_m7
  have x10_cell3 := P10.cell3
  go_wp2_with fail
  refine (track_7_1 _ _ P10.pol P10.sz).mono ?_
  rintro e w11 ⟨rfl, hb11⟩
  obtain ⟨P11, B11, L11⟩ := step3 L10 P10 B10 hb11
  clear hb11 P10 B10 L10
  clear x10_cell3
  have x11_cell3 := P11.cell3
  go_wp2_with fail
  refine (track_7_2 _ _ P11.pol P11.sz).mono ?_
  rintro e w12 ⟨rfl, hb12⟩
  obtain ⟨P12, B12, L12⟩ := step3 L11 P11 B11 hb12
  clear hb12 P11 B11 L11
  clear x11_cell3
  have x12_cell4 := P12.cell4
  have x12_cell5 := P12.cell5
  go_wp2_with fail
  refine (winIs_any _ _ _).mono ?_
  rintro e w13 ⟨rfl, hb13⟩
  obtain ⟨P13, B13, L13⟩ := step3 L12 P12 B12 hb13
  clear hb13 P12 B12 L12
  clear x12_cell4 x12_cell5
  have x13_cell6 := P13.cell6
  have x13_m8 := P13.pol.m8
  have x13_cell7 := P13.cell7
  have x13_cell8 := P13.cell8
  have x13_m9 := P13.pol.m9
  go_wp2_with fail
  refine (metric_0 _ _ P13.pol P13.sz).mono ?_
  rintro e w14 ⟨rfl, hb14⟩
  obtain ⟨P14, B14, L14⟩ := step3 L13 P13 B13 hb14
  clear hb14 P13 B13 L13
  clear x13_cell6 x13_m8 x13_cell7 x13_cell8 x13_m9
  have x14_cell8 := P14.cell8
  go_wp2_with fail
  refine (metric_1 _ _ P14.pol P14.sz).mono ?_
  rintro e w15 ⟨rfl, hb15⟩
  obtain ⟨P15, B15, L15⟩ := step3 L14 P14 B14 hb15
  clear hb15 P14 B14 L14
  clear x14_cell8
  have x15_cell8 := P15.cell8
  go_wp2_with fail
  refine (metric_2 _ _ P15.pol P15.sz).mono ?_
  rintro e w16 ⟨rfl, hb16⟩
  obtain ⟨P16, B16, L16⟩ := step3 L15 P15 B15 hb16
  clear hb16 P15 B15 L15
  clear x15_cell8
  have x16_cell9 := P16.cell9
  have x16_m13 := P16.pol.m13
  go_wp2_with fail
  refine (track_13_0 _ _ P16.pol P16.sz).mono ?_
  rintro e w17 ⟨rfl, hb17⟩
  obtain ⟨P17, B17, L17⟩ := step3 L16 P16 B16 hb17
  clear hb17 P16 B16 L16
  clear x16_cell9 x16_m13
  have x17_cell9 := P17.cell9
  go_wp2_with fail
  refine (track_13_1 _ _ P17.pol P17.sz).mono ?_
  rintro e w18 ⟨rfl, hb18⟩
  obtain ⟨P18, B18, L18⟩ := step3 L17 P17 B17 hb18
  clear hb18 P17 B17 L17
  clear x17_cell9
  have x18_cell9 := P18.cell9
  go_wp2_with fail
  refine (track_13_2 _ _ P18.pol P18.sz).mono ?_
  rintro e w19 ⟨rfl, hb19⟩
  obtain ⟨P19, B19, L19⟩ := step3 L18 P18 B18 hb19
  clear hb19 P18 B18 L18
  clear x18_cell9
  go_wp2_with fail
  go_ret
  exact ⟨rfl, B19⟩

end Go.Proofs.Qxb6602161a
