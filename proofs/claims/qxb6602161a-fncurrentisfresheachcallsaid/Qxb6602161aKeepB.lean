import Derived.Test.Qxb6602161aKeepA
namespace Go.Proofs.Qxb6602161a
open Go.RowKit Go.ChangeMaps
set_option linter.unusedVariables false

theorem look37 (w : World) (b : Nat) (n : Int) (ok : Bool) (hm : isMapO (blk w b) = true) :
    (Instr.lookup 37 (.map (some b)) (.int .i64 n) ok).run Try.prog w = .ok (lookR ok (.agg #[.int .i64 0, .int .i64 0, .int .i64 0, .pointer none, .pointer none, .bool false, .bool false]) (atO n (blk w b))) w :=
  run_look w (t := 37) Try.underlying37 Try.underlying43 _ zero27 n ok hm
theorem look38 (w : World) (b : Nat) (n : Int) (ok : Bool) (hm : isMapO (blk w b) = true) :
    (Instr.lookup 38 (.map (some b)) (.int .i64 n) ok).run Try.prog w = .ok (lookR ok (.map none) (atO n (blk w b))) w :=
  run_look w (t := 38) Try.underlying38 Try.underlying45 _ zero37 n ok hm
theorem look39 (w : World) (b : Nat) (n : Int) (ok : Bool) (hm : isMapO (blk w b) = true) :
    (Instr.lookup 39 (.map (some b)) (.int .i64 n) ok).run Try.prog w = .ok (lookR ok (.int .i64 0) (atO n (blk w b))) w :=
  run_look w (t := 39) Try.underlying39 Try.underlying43 _ zero46 n ok hm

attribute [local go_sem] blk_at blk_past lookR_some lookR_none look37 look38 look39

set_option maxHeartbeats 400000 in
theorem chain_any (b : Nat) (ra ka ma rb kb mb rg kg mg : Int) (pa qa pb qb pg qg : Option Addr) (xa ya xb yb xg yg : Bool) (w : World) (hlt : b < w.heap.size)
    (hm : isMapO (blk w b) = true)
    (h0 : atO 0 (blk w b) = some (.agg #[.int .i64 ra, .int .i64 ka, .int .i64 ma, .pointer pa, .pointer qa, .bool xa, .bool ya]))
    (h1 : atO 1 (blk w b) = some (.agg #[.int .i64 rb, .int .i64 kb, .int .i64 mb, .pointer pb, .pointer qb, .bool xb, .bool yb]))
    (h2 : atO 2 (blk w b) = some (.agg #[.int .i64 rg, .int .i64 kg, .int .i64 mg, .pointer pg, .pointer qg, .bool xg, .bool yg]))
    (hab : Hid (katM ra ka ma rb kb mb = true)) (hbg : Hid (katM rb kb mb rg kg mg = true)) :
    Calls Try.prog 15 #[.map (some b)] w fun e w' => e = .returned (.bool true) ∧ Below w.heap.size w w' := by
  have hlt1 : b < w.heap.size + 1 := by omega
  have hlt2 : b < w.heap.size + 1 + 1 := by omega
  go_enter Try.func15, Try.ntmps15
  go_wp2_with fail
  refine (keptAtMost_any _ _ _ _ _ _ _ _ _ _ _ _ _ _ _ hab).mono ?_
  rintro e w1 ⟨rfl, hb1⟩
  obtain ⟨hc1, hf1⟩ := bcell hb1
  go_wp2_with fail
  refine (keptAtMost_any _ _ _ _ _ _ _ _ _ _ _ _ _ _ _ hbg).mono ?_
  rintro e w2 ⟨rfl, hb2⟩
  go_wp2_with fail
  go_ret
  refine ⟨rfl, ?_⟩
  have hz1 : w.heap.size + 1 + 1 + 1 ≤ w1.heap.size := by have := hb1.size; simp at this; omega
  have q1 : Below w.heap.size w w1 := Below.trans (by repeat (first | exact Below.refl _ _ | refine Below.alloc ?_ (by simp; try omega) _)) (hb1.mono (B' := w.heap.size) (by simp; omega))
  exact q1.trans (hb2.mono (by omega))

set_option maxHeartbeats 400000 in
theorem facing_any (bu bd : Nat) (t : Int) (ra ka ma rb kb mb : Int) (pa qa pb qb : Option Addr) (xa ya xb yb : Bool) (w : World) (hltu : bu < w.heap.size) (hltd : bd < w.heap.size)
    (hmu : isMapO (blk w bu) = true) (hmd : isMapO (blk w bd) = true)
    (h0 : atO t (blk w bu) = some (.agg #[.int .i64 rb, .int .i64 kb, .int .i64 mb, .pointer pb, .pointer qb, .bool xb, .bool yb]))
    (h1 : atO t (blk w bd) = some (.agg #[.int .i64 ra, .int .i64 ka, .int .i64 ma, .pointer pa, .pointer qa, .bool xa, .bool ya]))
    (hab : Hid (katM ra ka ma rb kb mb = true)) :
    Calls Try.prog 16 #[.map (some bu), .map (some bd), .int .i64 t] w fun e w' => e = .returned (.bool true) ∧ Below w.heap.size w w' := by
  have hlt1 : bd < w.heap.size + 1 := by omega
  go_enter Try.func16, Try.ntmps16
  go_wp2_with fail
  refine (keptAtMost_any _ _ _ _ _ _ _ _ _ _ _ _ _ _ _ hab).mono ?_
  rintro e w1 ⟨rfl, hb1⟩
  go_wp2_with fail
  go_ret
  refine ⟨rfl, ?_⟩
  exact Below.trans (by repeat (first | exact Below.refl _ _ | refine Below.alloc ?_ (by simp; try omega) _)) (hb1.mono (B' := w.heap.size) (by simp; omega))

set_option maxHeartbeats 400000 in
theorem minOr_any (b : Nat) (r m : Int) (w : World) (h0 : w.cell? ⟨b, 0, none⟩ = some (.int .i64 r)) (h1 : w.cell? ⟨b, 1, none⟩ = some (.int .i64 m)) (hlt : b < w.heap.size) :
    Calls Try.prog 25 #[.pointer (some ⟨b, 0, none⟩)] w fun e w' => e = .returned (.agg #[.int .i64 r, .int .i64 m]) ∧ Below w.heap.size w w' := by
  go_enter Try.func25, Try.ntmps25
  go_wp2
  refine bodyPost_ret (v := .agg #[.int .i64 r, .int .i64 m]) (by simp [results, Try.results25, go_sem]) rfl ⟨rfl, ?_⟩
  repeat (first | exact Below.refl _ _ | refine Below.alloc ?_ (by simp; try omega) _)

set_option maxHeartbeats 400000 in
theorem minAtMost_any (ra ka ma rb kb mb : Int) (qa qb : Option Addr) (xa ya xb yb : Bool) (ba bb : Nat) (r1 m1 r2 m2 : Int) (w : World)
    (hlta : ba < w.heap.size) (hltb : bb < w.heap.size)
    (ha0 : w.cell? ⟨ba, 0, none⟩ = some (.int .i64 r1)) (ha1 : w.cell? ⟨ba, 1, none⟩ = some (.int .i64 m1))
    (hb0 : w.cell? ⟨bb, 0, none⟩ = some (.int .i64 r2)) (hb1 : w.cell? ⟨bb, 1, none⟩ = some (.int .i64 m2))
    (hr : r1 ≤ r2) (hm : m1 ≤ m2) :
    Calls Try.prog 17 #[.agg #[.int .i64 ra, .int .i64 ka, .int .i64 ma, .pointer (some ⟨ba, 0, none⟩), .pointer qa, .bool xa, .bool ya],
      .agg #[.int .i64 rb, .int .i64 kb, .int .i64 mb, .pointer (some ⟨bb, 0, none⟩), .pointer qb, .bool xb, .bool yb]] w fun e w' => e = .returned (.bool true) ∧ Below w.heap.size w w' := by
  have hlta1 : ba < w.heap.size + 1 := by omega
  have hltb1 : bb < w.heap.size + 1 := by omega
  have hlta2 : ba < w.heap.size + 1 + 1 := by omega
  have hltb2 : bb < w.heap.size + 1 + 1 := by omega
  go_enter Try.func17, Try.ntmps17
  go_wp2_with fail
  refine (minOr_any ba r1 m1 _ (by go_simp) (by go_simp) (by simp; omega)).mono ?_
  rintro e w1 ⟨rfl, g1⟩
  obtain ⟨hc1, hf1⟩ := bcell g1
  have hz1 : w.heap.size + 1 < w1.heap.size := by have := g1.size; simp at this; omega
  have hltb3 : bb < w1.heap.size := by omega
  go_wp2_with fail
  refine (minOr_any bb r2 m2 _ (by go_simp) (by go_simp) (by simp; omega)).mono ?_
  rintro e w2 ⟨rfl, g2⟩
  obtain ⟨hc2, hf2⟩ := bcell g2
  have hz2 : w1.heap.size < w2.heap.size := by have := g2.size; simp at this; omega
  go_wp2_with fail
  go_ret
  refine ⟨rfl, ?_⟩
  have q1 : Below w.heap.size w w1 := Below.trans (by repeat (first | exact Below.refl _ _ | refine Below.alloc ?_ (by simp; try omega) _)) (g1.mono (B' := w.heap.size) (by simp; omega))
  have q2 := (q1.alloc (by omega) (.cells #[.int .i64 r1, .int .i64 m1] 24)).trans (g2.mono (by simp; omega))
  exact q2.alloc (by omega) _

end Go.Proofs.Qxb6602161a
