import Derived.Test.Qxb6602161aCurrentEx
import Derived.Test.Qxb6602161aFreshC
namespace Go.Proofs.Qxb6602161a
open Go.RowKit Go.ChangeMaps
set_option linter.unusedVariables false

theorem over37 (w : World) (b : Nat) (n : Int) (val : Value) (hm : isMapO (blk w b) = true) (hn : hasO n (blk w b) = true) :
    (Instr.mapUpdate 37 (.map (some b)) (.int .i64 n) val).run Try.prog w = .ok () (setBlock w b (overO n val (blk w b))) :=
  run_over w (t := 37) Try.underlying37 Try.underlying43 n val hm hn
theorem over38 (w : World) (b : Nat) (n : Int) (val : Value) (hm : isMapO (blk w b) = true) (hn : hasO n (blk w b) = true) :
    (Instr.mapUpdate 38 (.map (some b)) (.int .i64 n) val).run Try.prog w = .ok () (setBlock w b (overO n val (blk w b))) :=
  run_over w (t := 38) Try.underlying38 Try.underlying45 n val hm hn
theorem over39 (w : World) (b : Nat) (n : Int) (val : Value) (hm : isMapO (blk w b) = true) (hn : hasO n (blk w b) = true) :
    (Instr.mapUpdate 39 (.map (some b)) (.int .i64 n) val).run Try.prog w = .ok () (setBlock w b (overO n val (blk w b))) :=
  run_over w (t := 39) Try.underlying39 Try.underlying43 n val hm hn
theorem del37 (w : World) (b : Nat) (n : Int) (ty : TypeId) (hm : isMapO (blk w b) = true) (hn : hasO n (blk w b) = true) :
    (Builtin.delete_ #[37, 43] ty #[.map (some b), .int .i64 n]).run Try.prog w = .ok (.tuple #[]) (setBlock w b (delO n (blk w b))) :=
  run_del w (t := 37) Try.underlying37 Try.underlying43 n ty hm hn
theorem del38 (w : World) (b : Nat) (n : Int) (ty : TypeId) (hm : isMapO (blk w b) = true) (hn : hasO n (blk w b) = true) :
    (Builtin.delete_ #[38, 45] ty #[.map (some b), .int .i64 n]).run Try.prog w = .ok (.tuple #[]) (setBlock w b (delO n (blk w b))) :=
  run_del w (t := 38) Try.underlying38 Try.underlying45 n ty hm hn
theorem del39 (w : World) (b : Nat) (n : Int) (ty : TypeId) (hm : isMapO (blk w b) = true) (hn : hasO n (blk w b) = true) :
    (Builtin.delete_ #[39, 43] ty #[.map (some b), .int .i64 n]).run Try.prog w = .ok (.tuple #[]) (setBlock w b (delO n (blk w b))) :=
  run_del w (t := 39) Try.underlying39 Try.underlying43 n ty hm hn
theorem neq37 (w : World) (r : Option Nat) : (binOp .neq 37 (.map r) (.map none)).run Try.prog w = .ok (.bool (!r.isNone)) w := run_neq_map_nil w 37 43 27 r Try.underlying37
theorem neq38 (w : World) (r : Option Nat) : (binOp .neq 38 (.map r) (.map none)).run Try.prog w = .ok (.bool (!r.isNone)) w := run_neq_map_nil w 38 45 37 r Try.underlying38
theorem neq39 (w : World) (r : Option Nat) : (binOp .neq 39 (.map r) (.map none)).run Try.prog w = .ok (.bool (!r.isNone)) w := run_neq_map_nil w 39 43 46 r Try.underlying39

attribute [local go_sem] setBlock_alloc_at setBlock_alloc_past size_setBlock blk_at blk_past isMapO_map atO_map keysOk_nil keysOk_cons findE_nil findE_cons lookR_some lookR_none look37 look38 look39
  over37 over38 over39 del37 del38 del39 neq37 neq38 neq39 overO_map delO_map setE_cons delE_cons hasO_map

/-- the world of a call under a name, of which only this is kept: nothing below the law's own blocks has turned -/
theorem call_gen {P : Program} {f : FuncId} {args : Array Value} {Q : Ending → World → Prop} {w W : World}
    (hb : Below w.heap.size w W) (hl : w.heap.size ≤ W.heap.size) (h : ∀ wk, Below w.heap.size w wk → w.heap.size ≤ wk.heap.size → Calls P f args wk Q) : Calls P f args W Q := h W hb hl

set_option maxRecDepth 100000 in
set_option maxHeartbeats 2000000 in
theorem fresh_walk (w : World) :
    Calls Try.prog 6 #[] w fun e w' => e = .returned (.bool true) ∧ Below w.heap.size w w' := by
  go_enter Try.func6, Try.ntmps6
  go_wp2_with fail
  refine (current_ex _).mono ?_
  rintro e w0 ⟨rfl, rfl⟩
  simp only [curV, curW]
  go_wp2_with fail
  refine (overwrite_any _ 3 9 _ (by go_simp) (by go_simp) (by go_simp) (by go_simp)).mono ?_
  rintro e w1 ⟨rfl, rfl⟩
  go_wp2_with fail
  refine (overwrite_any _ 0 0 _ (by go_simp) (by go_simp) (by go_simp) (by go_simp)).mono ?_
  rintro e w1 ⟨rfl, rfl⟩
  go_wp2_with fail
  refine (overwrite_any _ 2 8 _ (by go_simp) (by go_simp) (by go_simp) (by go_simp)).mono ?_
  rintro e w1 ⟨rfl, rfl⟩
  go_wp2_with fail
  refine (overwrite_any _ 4 12 _ (by go_simp) (by go_simp) (by go_simp) (by go_simp)).mono ?_
  rintro e w1 ⟨rfl, rfl⟩
  go_wp2_with fail
  refine call_gen (w := w) (by repeat (first | refine Below.alloc ?_ (by simp; try omega) _ | exact Below.refl _ _)) (by simp; try omega) ?_
  intro wk hbk hlk
  refine (current_any _).mono ?_
  rintro e w2 ⟨rfl, hP, hs, hB⟩
  simp only [polV]
  have B2 := hbk.trans (hB.mono hlk)
  have hs2 : wk.heap.size + 14 ≤ w2.heap.size := by omega
  have hl2 : w.heap.size ≤ w2.heap.size := by omega
  clear hs hB hbk
  generalize wk.heap.size = N at *
  go_wp2_with fail
  refine (documented_any N _ hP hs2).mono ?_
  rintro e w3 ⟨rfl, hb3⟩
  go_wp2_with fail
  go_ret
  exact ⟨rfl, B2.trans (hb3.mono hl2)⟩

end Go.Proofs.Qxb6602161a
