import Derived.Test.Qxb6602161aMapsB
namespace Go.Proofs.Qxb6602161a
open Go.RowKit Go.ChangeMaps

/-- the world behind Current, written out -/
def curW (w : World) : World := ((((((((((((((w.alloc (.cells #[.map (some (w.heap.size + 1 + 1)), .bool true, .map (some (w.heap.size + 1 + 1 + 1 + 1)), .map (some (w.heap.size + 1 + 1 + 1 + 1 + 1 + 1 + 1)), .int .i64 0, .int .i64 0, .map (some (w.heap.size + 1 + 1 + 1 + 1 + 1 + 1 + 1 + 1)), .int .i64 0, .map (some (w.heap.size + 1 + 1 + 1 + 1 + 1 + 1 + 1 + 1 + 1)), .map (some (w.heap.size + 1 + 1 + 1 + 1 + 1 + 1 + 1 + 1 + 1 + 1 + 1 + 1 + 1))] 41)).alloc (.cells #[.int .i64 1, .int .i64 0, .int .i64 12, .pointer none, .pointer none, .bool false, .bool false] 27)).alloc (.map #[⟨.int .i64 0, .agg #[.int .i64 0, .int .i64 0, .int .i64 0, .pointer none, .pointer none, .bool true, .bool false], 0⟩, ⟨.int .i64 1, .agg #[.int .i64 1, .int .i64 3, .int .i64 9, .pointer none, .pointer (some ⟨w.heap.size + 1 + 1 + 1, 0, none⟩), .bool true, .bool true], 1⟩, ⟨.int .i64 2, .agg #[.int .i64 2, .int .i64 0, .int .i64 0, .pointer none, .pointer none, .bool true, .bool true], 2⟩] 3)).alloc (.cells #[.int .i64 3, .int .i64 9] 24)).alloc (.map #[⟨.int .i64 0, .map (some (w.heap.size + 1 + 1 + 1 + 1 + 1)), 0⟩, ⟨.int .i64 1, .map (some (w.heap.size + 1 + 1 + 1 + 1 + 1 + 1)), 1⟩] 2)).alloc (.map #[⟨.int .i64 0, .agg #[.int .i64 0, .int .i64 0, .int .i64 0, .pointer none, .pointer none, .bool false, .bool false], 0⟩, ⟨.int .i64 1, .agg #[.int .i64 1, .int .i64 1, .int .i64 3, .pointer none, .pointer none, .bool false, .bool false], 1⟩, ⟨.int .i64 2, .agg #[.int .i64 1, .int .i64 2, .int .i64 12, .pointer none, .pointer none, .bool false, .bool false], 2⟩] 3)).alloc (.map #[⟨.int .i64 0, .agg #[.int .i64 0, .int .i64 0, .int .i64 0, .pointer none, .pointer none, .bool false, .bool false], 0⟩, ⟨.int .i64 1, .agg #[.int .i64 1, .int .i64 1, .int .i64 3, .pointer none, .pointer none, .bool false, .bool false], 1⟩, ⟨.int .i64 2, .agg #[.int .i64 1, .int .i64 1, .int .i64 6, .pointer none, .pointer none, .bool false, .bool false], 2⟩] 3)).alloc (.map #[⟨.int .i64 0, .agg #[.int .i64 0, .int .i64 0, .int .i64 0, .pointer none, .pointer none, .bool false, .bool false], 0⟩, ⟨.int .i64 1, .agg #[.int .i64 1, .int .i64 1, .int .i64 3, .pointer none, .pointer none, .bool false, .bool false], 1⟩, ⟨.int .i64 2, .agg #[.int .i64 1, .int .i64 2, .int .i64 6, .pointer none, .pointer none, .bool false, .bool false], 2⟩] 3)).alloc (.map #[⟨.int .i64 0, .int .i64 1, 0⟩, ⟨.int .i64 1, .int .i64 2, 1⟩] 2)).alloc (.map #[⟨.int .i64 0, .agg #[.int .i64 0, .int .i64 0, .int .i64 0, .pointer (some ⟨w.heap.size + 1 + 1 + 1 + 1 + 1 + 1 + 1 + 1 + 1 + 1, 0, none⟩), .pointer none, .bool false, .bool false], 0⟩, ⟨.int .i64 1, .agg #[.int .i64 1, .int .i64 1, .int .i64 4, .pointer (some ⟨w.heap.size + 1 + 1 + 1 + 1 + 1 + 1 + 1 + 1 + 1 + 1 + 1, 0, none⟩), .pointer none, .bool false, .bool false], 1⟩, ⟨.int .i64 2, .agg #[.int .i64 1, .int .i64 3, .int .i64 9, .pointer (some ⟨w.heap.size + 1 + 1 + 1 + 1 + 1 + 1 + 1 + 1 + 1 + 1 + 1 + 1, 0, none⟩), .pointer none, .bool false, .bool false], 2⟩] 3)).alloc (.cells #[.int .i64 0, .int .i64 0] 24)).alloc (.cells #[.int .i64 2, .int .i64 8] 24)).alloc (.cells #[.int .i64 4, .int .i64 12] 24)).alloc (.map #[⟨.int .i64 0, .agg #[.int .i64 1, .int .i64 0, .int .i64 12, .pointer none, .pointer none, .bool false, .bool false], 0⟩, ⟨.int .i64 1, .agg #[.int .i64 1, .int .i64 0, .int .i64 12, .pointer none, .pointer none, .bool false, .bool false], 1⟩, ⟨.int .i64 2, .agg #[.int .i64 1, .int .i64 0, .int .i64 12, .pointer none, .pointer none, .bool false, .bool false], 2⟩] 3))
/-- what Current hands back, in the walk's own spelling -/
def curV (w : World) : Value := .agg #[.map (some (w.heap.size + 1 + 1)), .bool true, .map (some (w.heap.size + 1 + 1 + 1 + 1)), .map (some (w.heap.size + 1 + 1 + 1 + 1 + 1 + 1 + 1)), .int .i64 0, .int .i64 0, .map (some (w.heap.size + 1 + 1 + 1 + 1 + 1 + 1 + 1 + 1)), .int .i64 0, .map (some (w.heap.size + 1 + 1 + 1 + 1 + 1 + 1 + 1 + 1 + 1)), .map (some (w.heap.size + 1 + 1 + 1 + 1 + 1 + 1 + 1 + 1 + 1 + 1 + 1 + 1 + 1))]

attribute [local go_sem] setBlock_alloc_at setBlock_alloc_past size_setBlock blk_at blk_past isMapO_map atO_map pushO_map keysOk_nil keysOk_cons findE_nil findE_cons ins37 ins38 ins39

set_option maxRecDepth 100000 in
set_option maxHeartbeats 1000000 in
theorem current_ex (w : World) :
    Calls Try.prog 12 #[] w fun e w' => e = .returned (curV w) ∧ curW w = w' := by
  have hmm := @run_makeMap Try.prog
  go_enter Try.func12, Try.ntmps12
  go_wp2
  exact bodyPost_ret (v := curV w) (by simp [results, Try.results12, go_sem, curV]) rfl ⟨rfl, rfl⟩

set_option maxHeartbeats 400000 in
theorem overwrite_any (b : Nat) (x y : Int) (w : World) (h0 : w.cell? ⟨b, 0, none⟩ = some (.int .i64 x)) (h1 : w.cell? ⟨b, 1, none⟩ = some (.int .i64 y))
    (f0 : w.frozen? ⟨b, 0, none⟩ = false) (f1 : w.frozen? ⟨b, 1, none⟩ = false) :
    Calls Try.prog 13 #[.pointer (some ⟨b, 0, none⟩)] w fun e w' => e = .returned (.tuple #[]) ∧ (w.setCell ⟨b, 0, none⟩ (.int .i64 99)).setCell ⟨b, 1, none⟩ (.int .i64 99) = w' := by
  go_enter Try.func13, Try.ntmps13
  go_wp2
  go_end0
  exact ⟨rfl, rfl⟩

end Go.Proofs.Qxb6602161a
