import Derived.Test.Qxb6602161aKeepC
import Derived.Test.Qxb6602161aMapsB
namespace Go.Proofs.Qxb6602161a
open Go.RowKit Go.ChangeMaps
set_option linter.unusedVariables false
attribute [local go_sem] blk_at blk_past lookR_some lookR_none look37 look38 look39

set_option maxHeartbeats 400000 in
theorem winIs_any (r m : Int) (w : World) :
    Calls Try.prog 22 #[.agg #[.int .i64 r, .int .i64 m], .int .i64 r, .int .i64 m] w fun e w' => e = .returned (.bool true) ∧ Below w.heap.size w w' := by
  go_enter Try.func22, Try.ntmps22
  go_wp2
  go_ret
  exact ⟨rfl, by repeat (first | exact Below.refl _ _ | refine Below.alloc ?_ (by simp; try omega) _)⟩

set_option maxHeartbeats 400000 in
theorem winPtr_nil (a b : Int) (w : World) :
    Calls Try.prog 26 #[.pointer none, .bool false, .int .i64 a, .int .i64 b] w fun e w' => e = .returned (.bool true) ∧ Below w.heap.size w w' := by
  go_enter Try.func26, Try.ntmps26
  go_wp2
  go_ret
  exact ⟨rfl, Below.refl _ _⟩

set_option maxHeartbeats 400000 in
theorem winPtr_some (b : Nat) (r m : Int) (w : World) (h0 : w.cell? ⟨b, 0, none⟩ = some (.int .i64 r)) (h1 : w.cell? ⟨b, 1, none⟩ = some (.int .i64 m)) :
    Calls Try.prog 26 #[.pointer (some ⟨b, 0, none⟩), .bool true, .int .i64 r, .int .i64 m] w fun e w' => e = .returned (.bool true) ∧ Below w.heap.size w w' := by
  go_enter Try.func26, Try.ntmps26
  go_wp2
  go_ret
  exact ⟨rfl, Below.refl _ _⟩

set_option maxHeartbeats 400000 in
theorem plainLife_any (r kr km : Int) (w : World) :
    Calls Try.prog 27 #[.agg #[.int .i64 r, .int .i64 kr, .int .i64 km, .pointer none, .pointer none, .bool false, .bool false], .int .i64 r, .int .i64 kr, .int .i64 km] w fun e w' => e = .returned (.bool true) ∧ Below w.heap.size w w' := by
  go_enter Try.func27, Try.ntmps27
  go_wp2_with fail
  refine (winIs_any _ _ _).mono ?_
  rintro e w1 ⟨rfl, hb1⟩
  obtain ⟨hc1, hf1⟩ := bcell hb1
  go_wp2_with fail
  go_ret
  exact ⟨rfl, Below.trans (by repeat (first | exact Below.refl _ _ | refine Below.alloc ?_ (by simp; try omega) _)) (hb1.mono (B' := w.heap.size) (by simp))⟩

set_option maxHeartbeats 400000 in
theorem trackPlain_any (b : Nat) (t r kr km : Int) (w : World) (hlt : b < w.heap.size) (hm : isMapO (blk w b) = true)
    (h0 : atO t (blk w b) = some (.agg #[.int .i64 r, .int .i64 kr, .int .i64 km, .pointer none, .pointer none, .bool false, .bool false])) :
    Calls Try.prog 21 #[.map (some b), .int .i64 t, .int .i64 r, .int .i64 kr, .int .i64 km] w fun e w' => e = .returned (.bool true) ∧ Below w.heap.size w w' := by
  go_enter Try.func21, Try.ntmps21
  go_wp2_with fail
  refine (plainLife_any _ _ _ _).mono ?_
  rintro e w1 ⟨rfl, hb1⟩
  go_wp2_with fail
  go_ret
  exact ⟨rfl, Below.trans (by repeat (first | exact Below.refl _ _ | refine Below.alloc ?_ (by simp; try omega) _)) (hb1.mono (B' := w.heap.size) (by simp))⟩

set_option maxHeartbeats 400000 in
theorem apiLife_nil (b : Nat) (t r kr km : Int) (y : Bool) (w : World) (hlt : b < w.heap.size) (hm : isMapO (blk w b) = true)
    (h0 : atO t (blk w b) = some (.agg #[.int .i64 r, .int .i64 kr, .int .i64 km, .pointer none, .pointer none, .bool true, .bool y])) :
    Calls Try.prog 20 #[.map (some b), .int .i64 t, .int .i64 r, .int .i64 kr, .int .i64 km, .bool false, .int .i64 0, .int .i64 0, .bool y] w fun e w' => e = .returned (.bool true) ∧ Below w.heap.size w w' := by
  go_enter Try.func20, Try.ntmps20
  go_wp2_with fail
  refine (winIs_any _ _ _).mono ?_
  rintro e w1 ⟨rfl, hb1⟩
  obtain ⟨hc1, hf1⟩ := bcell hb1
  go_wp2_with fail
  refine (winPtr_nil _ _ _).mono ?_
  rintro e w2 ⟨rfl, hb2⟩
  have hz1 : w.heap.size < w1.heap.size := by have := hb1.size; simp at this; omega
  obtain ⟨hc2, hf2⟩ := bcell hb2
  go_wp2_with fail
  go_ret
  refine ⟨by simp, ?_⟩
  have q1 : Below w.heap.size w w1 := Below.trans (by repeat (first | exact Below.refl _ _ | refine Below.alloc ?_ (by simp; try omega) _)) (hb1.mono (B' := w.heap.size) (by simp))
  exact q1.trans (hb2.mono (by omega))

set_option maxHeartbeats 400000 in
theorem apiLife_some (b q : Nat) (t r kr km dr dm : Int) (y : Bool) (w : World) (hlt : b < w.heap.size) (hltq : q < w.heap.size) (hm : isMapO (blk w b) = true)
    (h0 : atO t (blk w b) = some (.agg #[.int .i64 r, .int .i64 kr, .int .i64 km, .pointer none, .pointer (some ⟨q, 0, none⟩), .bool true, .bool y]))
    (c0 : w.cell? ⟨q, 0, none⟩ = some (.int .i64 dr)) (c1 : w.cell? ⟨q, 1, none⟩ = some (.int .i64 dm)) :
    Calls Try.prog 20 #[.map (some b), .int .i64 t, .int .i64 r, .int .i64 kr, .int .i64 km, .bool true, .int .i64 dr, .int .i64 dm, .bool y] w fun e w' => e = .returned (.bool true) ∧ Below w.heap.size w w' := by
  have hltq1 : q < w.heap.size + 1 := by omega
  go_enter Try.func20, Try.ntmps20
  go_wp2_with fail
  refine (winIs_any _ _ _).mono ?_
  rintro e w1 ⟨rfl, hb1⟩
  obtain ⟨hc1, hf1⟩ := bcell hb1
  go_wp2_with fail
  refine (winPtr_some q dr dm _ (by go_simp) (by go_simp)).mono ?_
  rintro e w2 ⟨rfl, hb2⟩
  have hz1 : w.heap.size < w1.heap.size := by have := hb1.size; simp at this; omega
  obtain ⟨hc2, hf2⟩ := bcell hb2
  go_wp2_with fail
  go_ret
  refine ⟨by simp, ?_⟩
  have q1 : Below w.heap.size w w1 := Below.trans (by repeat (first | exact Below.refl _ _ | refine Below.alloc ?_ (by simp; try omega) _)) (hb1.mono (B' := w.heap.size) (by simp))
  exact q1.trans (hb2.mono (by omega))

set_option maxHeartbeats 400000 in
theorem metricLife_any (b q : Nat) (t r kr km dr dm : Int) (w : World) (hlt : b < w.heap.size) (hltq : q < w.heap.size) (hm : isMapO (blk w b) = true)
    (h0 : atO t (blk w b) = some (.agg #[.int .i64 r, .int .i64 kr, .int .i64 km, .pointer (some ⟨q, 0, none⟩), .pointer none, .bool false, .bool false]))
    (c0 : w.cell? ⟨q, 0, none⟩ = some (.int .i64 dr)) (c1 : w.cell? ⟨q, 1, none⟩ = some (.int .i64 dm)) :
    Calls Try.prog 23 #[.map (some b), .int .i64 t, .int .i64 r, .int .i64 kr, .int .i64 km, .int .i64 dr, .int .i64 dm] w fun e w' => e = .returned (.bool true) ∧ Below w.heap.size w w' := by
  have hltq1 : q < w.heap.size + 1 := by omega
  go_enter Try.func23, Try.ntmps23
  go_wp2_with fail
  refine (winIs_any _ _ _).mono ?_
  rintro e w1 ⟨rfl, hb1⟩
  obtain ⟨hc1, hf1⟩ := bcell hb1
  go_wp2_with fail
  refine (winPtr_some q dr dm _ (by go_simp) (by go_simp)).mono ?_
  rintro e w2 ⟨rfl, hb2⟩
  have hz1 : w.heap.size < w1.heap.size := by have := hb1.size; simp at this; omega
  obtain ⟨hc2, hf2⟩ := bcell hb2
  go_wp2_with fail
  go_ret
  refine ⟨rfl, ?_⟩
  have q1 : Below w.heap.size w w1 := Below.trans (by repeat (first | exact Below.refl _ _ | refine Below.alloc ?_ (by simp; try omega) _)) (hb1.mono (B' := w.heap.size) (by simp))
  exact q1.trans (hb2.mono (by omega))

end Go.Proofs.Qxb6602161a
