import Derived.Test.Qxb6602161aProg
import Derived.Test.Qxb6602161aMaps
namespace Go.Proofs.Qxb6602161a
open Go.RowKit Go.ChangeMaps

theorem zero27 (w : World) : (zeroValue 27).run Try.prog w = .ok (.agg #[.int .i64 0, .int .i64 0, .int .i64 0, .pointer none, .pointer none, .bool false, .bool false]) w := by kernel_rfl
theorem zero37 (w : World) : (zeroValue 37).run Try.prog w = .ok (.map none) w := by kernel_rfl
theorem zero46 (w : World) : (zeroValue 46).run Try.prog w = .ok (.int .i64 0) w := by kernel_rfl

theorem ins37 (w : World) (b : Nat) (n : Int) (val : Value) (hm : isMapO (blk w b) = true) (hn : atO n (blk w b) = none) :
    (Instr.mapUpdate 37 (.map (some b)) (.int .i64 n) val).run Try.prog w = .ok () (setBlock w b (pushO n val (blk w b))) :=
  run_insert w (t := 37) Try.underlying37 Try.underlying43 n val hm hn
theorem ins38 (w : World) (b : Nat) (n : Int) (val : Value) (hm : isMapO (blk w b) = true) (hn : atO n (blk w b) = none) :
    (Instr.mapUpdate 38 (.map (some b)) (.int .i64 n) val).run Try.prog w = .ok () (setBlock w b (pushO n val (blk w b))) :=
  run_insert w (t := 38) Try.underlying38 Try.underlying45 n val hm hn
theorem ins39 (w : World) (b : Nat) (n : Int) (val : Value) (hm : isMapO (blk w b) = true) (hn : atO n (blk w b) = none) :
    (Instr.mapUpdate 39 (.map (some b)) (.int .i64 n) val).run Try.prog w = .ok () (setBlock w b (pushO n val (blk w b))) :=
  run_insert w (t := 39) Try.underlying39 Try.underlying43 n val hm hn

attribute [local go_sem] setBlock_alloc_at setBlock_alloc_past size_setBlock blk_at blk_past isMapO_map atO_map pushO_map keysOk_nil keysOk_cons findE_nil findE_cons ins37 ins38 ins39

/-- WHAT Current LAYS FROM BLOCK N ON: its maps' entries, written out, and the four windows that pointers lead to. -/
structure Pol (N : Nat) (w : World) : Prop where
  m2 : blk w (N + 2) = some (.map #[⟨.int .i64 0, .agg #[.int .i64 0, .int .i64 0, .int .i64 0, .pointer none, .pointer none, .bool true, .bool false], 0⟩, ⟨.int .i64 1, .agg #[.int .i64 1, .int .i64 3, .int .i64 9, .pointer none, .pointer (some ⟨N + 3, 0, none⟩), .bool true, .bool true], 1⟩, ⟨.int .i64 2, .agg #[.int .i64 2, .int .i64 0, .int .i64 0, .pointer none, .pointer none, .bool true, .bool true], 2⟩] 3)
  m4 : blk w (N + 4) = some (.map #[⟨.int .i64 0, .map (some (N + 5)), 0⟩, ⟨.int .i64 1, .map (some (N + 6)), 1⟩] 2)
  m5 : blk w (N + 5) = some (.map #[⟨.int .i64 0, .agg #[.int .i64 0, .int .i64 0, .int .i64 0, .pointer none, .pointer none, .bool false, .bool false], 0⟩, ⟨.int .i64 1, .agg #[.int .i64 1, .int .i64 1, .int .i64 3, .pointer none, .pointer none, .bool false, .bool false], 1⟩, ⟨.int .i64 2, .agg #[.int .i64 1, .int .i64 2, .int .i64 12, .pointer none, .pointer none, .bool false, .bool false], 2⟩] 3)
  m6 : blk w (N + 6) = some (.map #[⟨.int .i64 0, .agg #[.int .i64 0, .int .i64 0, .int .i64 0, .pointer none, .pointer none, .bool false, .bool false], 0⟩, ⟨.int .i64 1, .agg #[.int .i64 1, .int .i64 1, .int .i64 3, .pointer none, .pointer none, .bool false, .bool false], 1⟩, ⟨.int .i64 2, .agg #[.int .i64 1, .int .i64 1, .int .i64 6, .pointer none, .pointer none, .bool false, .bool false], 2⟩] 3)
  m7 : blk w (N + 7) = some (.map #[⟨.int .i64 0, .agg #[.int .i64 0, .int .i64 0, .int .i64 0, .pointer none, .pointer none, .bool false, .bool false], 0⟩, ⟨.int .i64 1, .agg #[.int .i64 1, .int .i64 1, .int .i64 3, .pointer none, .pointer none, .bool false, .bool false], 1⟩, ⟨.int .i64 2, .agg #[.int .i64 1, .int .i64 2, .int .i64 6, .pointer none, .pointer none, .bool false, .bool false], 2⟩] 3)
  m8 : blk w (N + 8) = some (.map #[⟨.int .i64 0, .int .i64 1, 0⟩, ⟨.int .i64 1, .int .i64 2, 1⟩] 2)
  m9 : blk w (N + 9) = some (.map #[⟨.int .i64 0, .agg #[.int .i64 0, .int .i64 0, .int .i64 0, .pointer (some ⟨N + 10, 0, none⟩), .pointer none, .bool false, .bool false], 0⟩, ⟨.int .i64 1, .agg #[.int .i64 1, .int .i64 1, .int .i64 4, .pointer (some ⟨N + 11, 0, none⟩), .pointer none, .bool false, .bool false], 1⟩, ⟨.int .i64 2, .agg #[.int .i64 1, .int .i64 3, .int .i64 9, .pointer (some ⟨N + 12, 0, none⟩), .pointer none, .bool false, .bool false], 2⟩] 3)
  m13 : blk w (N + 13) = some (.map #[⟨.int .i64 0, .agg #[.int .i64 1, .int .i64 0, .int .i64 12, .pointer none, .pointer none, .bool false, .bool false], 0⟩, ⟨.int .i64 1, .agg #[.int .i64 1, .int .i64 0, .int .i64 12, .pointer none, .pointer none, .bool false, .bool false], 1⟩, ⟨.int .i64 2, .agg #[.int .i64 1, .int .i64 0, .int .i64 12, .pointer none, .pointer none, .bool false, .bool false], 2⟩] 3)
  c3 : blk w (N + 3) = some (.cells #[.int .i64 3, .int .i64 9] 24)
  c10 : blk w (N + 10) = some (.cells #[.int .i64 0, .int .i64 0] 24)
  c11 : blk w (N + 11) = some (.cells #[.int .i64 2, .int .i64 8] 24)
  c12 : blk w (N + 12) = some (.cells #[.int .i64 4, .int .i64 12] 24)

/-- what Current hands back -/
def polV (N : Nat) : Value := .agg #[.map (some (N + 2)), .bool true, .map (some (N + 4)), .map (some (N + 7)), .int .i64 0, .int .i64 0, .map (some (N + 8)), .int .i64 0, .map (some (N + 9)), .map (some (N + 13))]

set_option maxRecDepth 100000 in
set_option maxHeartbeats 1000000 in
theorem current_any (w : World) :
    Calls Try.prog 12 #[] w fun e w' => e = .returned (polV w.heap.size) ∧ Pol w.heap.size w' ∧ w'.heap.size = w.heap.size + 14 ∧ Below w.heap.size w w' := by
  have hmm := @run_makeMap Try.prog
  go_enter Try.func12, Try.ntmps12
  go_wp2
  refine bodyPost_ret (v := polV w.heap.size) (by simp [results, Try.results12, go_sem, polV]) rfl ⟨rfl, ?_, by simp, ?_⟩
  · constructor
    all_goals simp [blk_at, blk_past]
  · repeat (first | exact Below.refl _ _ | refine Below.alloc ?_ (by simp; try omega) _)

end Go.Proofs.Qxb6602161a
