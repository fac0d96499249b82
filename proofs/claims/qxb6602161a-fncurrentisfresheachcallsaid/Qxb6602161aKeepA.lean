import Derived.Test.Qxb6602161aCurrent
namespace Go.Proofs.Qxb6602161a
open Go.RowKit Go.ChangeMaps

/-- how long, by KeptFor: of a number of the window -/
def kR (r k : Int) : Int := if r = 1 then k else 0
/-- does a window let it go? -/
def kB (r : Int) : Bool := !(r == 2)

theorem ret_tuple2 {a b a' b' : Int} {x y : Bool} (h1 : a = a') (h2 : b = b') (h3 : x = y) : Ending.returned (.tuple #[.agg #[.int .i64 a, .int .i64 b], .bool x]) = .returned (.tuple #[.agg #[.int .i64 a', .int .i64 b'], .bool y]) := by rw [h1, h2, h3]

set_option maxHeartbeats 400000 in
theorem keptFor_any (r kr km : Int) (p q x y : Value) (w : World) :
    Calls Try.prog 9 #[.agg #[.int .i64 r, .int .i64 kr, .int .i64 km, p, q, x, y]] w fun e w' =>
      e = .returned (.tuple #[.agg #[.int .i64 (kR r kr), .int .i64 (kR r km)], .bool (kB r)]) ∧ Below w.heap.size w w' := by
  by_cases h1 : (r == 1) = true
  · have e1 : r = 1 := by simpa using h1
    have E1 : Hid (kR r kr = kr) := by simp [Hid, kR, e1]
    have E2 : Hid (kR r km = km) := by simp [Hid, kR, e1]
    have E3 : Hid (kB r = true) := by simp [Hid, kB, e1]
    clear e1
    go_enter Try.func9, Try.ntmps9
    go_wp2
    refine bodyPost_ret (v := .tuple #[.agg #[.int .i64 kr, .int .i64 km], .bool true]) (by simp [results, Try.results9, go_sem]) rfl ⟨ret_tuple2 E1.out.symm E2.out.symm E3.out.symm, ?_⟩
    repeat (first | exact Below.refl _ _ | refine Below.alloc ?_ (by simp; try omega) _)
  · have h1' : (r == 1) = false := by simpa using h1
    have e1 : ¬ r = 1 := by simpa using h1
    have E1 : Hid (kR r kr = 0) := by simp [Hid, kR, e1]
    have E2 : Hid (kR r km = 0) := by simp [Hid, kR, e1]
    clear e1 h1
    by_cases h2 : (r == 2) = true
    · have E3 : Hid (kB r = false) := by simp [Hid, kB, h2]
      go_enter Try.func9, Try.ntmps9
      go_wp2
      refine bodyPost_ret (v := .tuple #[.agg #[.int .i64 0, .int .i64 0], .bool false]) (by simp [results, Try.results9, go_sem]) rfl ⟨ret_tuple2 E1.out.symm E2.out.symm E3.out.symm, ?_⟩
      repeat (first | exact Below.refl _ _ | refine Below.alloc ?_ (by simp; try omega) _)
    · have h2' : (r == 2) = false := by simpa using h2
      have E3 : Hid (kB r = true) := by simp [Hid, kB, h2']
      clear h2
      go_enter Try.func9, Try.ntmps9
      go_wp2
      refine bodyPost_ret (v := .tuple #[.agg #[.int .i64 0, .int .i64 0], .bool true]) (by simp [results, Try.results9, go_sem]) rfl ⟨ret_tuple2 E1.out.symm E2.out.symm E3.out.symm, ?_⟩
      repeat (first | exact Below.refl _ _ | refine Below.alloc ?_ (by simp; try omega) _)

theorem bcell {W w1 : World} (hb : Below W.heap.size W w1) : (∀ b o, b < W.heap.size → w1.cell? ⟨b, o, none⟩ = W.cell? ⟨b, o, none⟩) ∧ (∀ b o, b < W.heap.size → w1.frozen? ⟨b, o, none⟩ = W.frozen? ⟨b, o, none⟩) :=
  ⟨fun b o h => hb.cell (p := ⟨b, o, none⟩) h, fun b o h => hb.frozen (p := ⟨b, o, none⟩) h⟩
theorem bblk {W w1 : World} (hb : Below W.heap.size W w1) : ∀ b, b < W.heap.size → blk w1 b = blk W b := fun b h => hb.block b h

/-- a is kept no longer than b -/
def katM (ra ka ma rb kb mb : Int) : Bool := !kB rb || (kB ra && (decide (kR ra ka ≤ kR rb kb) && decide (kR ra ma ≤ kR rb mb)))

set_option maxHeartbeats 400000 in
theorem keptAtMost_any (ra ka ma rb kb mb : Int) (pa qa xa ya pb qb xb yb : Value) (w : World) (h : Hid (katM ra ka ma rb kb mb = true)) :
    Calls Try.prog 24 #[.agg #[.int .i64 ra, .int .i64 ka, .int .i64 ma, pa, qa, xa, ya], .agg #[.int .i64 rb, .int .i64 kb, .int .i64 mb, pb, qb, xb, yb]] w fun e w' =>
      e = .returned (.bool true) ∧ Below w.heap.size w w' := by
  have h' := h.out
  unfold katM at h'
  clear h
  cases hB : kB rb with
  | false =>
    clear h'
    go_enter Try.func24, Try.ntmps24
    go_wp2_with fail
    refine (keptFor_any _ _ _ _ _ _ _ _).mono ?_
    rintro e w1 ⟨rfl, hb1⟩
    obtain ⟨hc1, hf1⟩ := bcell hb1
    have hz1 : w.heap.size + 1 < w1.heap.size := by have := hb1.size; simp at this; omega
    generalize kR ra ka = u1
    generalize kR ra ma = u2
    generalize kB ra = u3
    go_wp2_with fail
    refine (keptFor_any _ _ _ _ _ _ _ _).mono ?_
    rintro e w2 ⟨rfl, hb2⟩
    obtain ⟨hc2, hf2⟩ := bcell hb2
    have hz2 : w1.heap.size < w2.heap.size := by have := hb2.size; simp at this; omega
    generalize kR rb kb = v1
    generalize kR rb mb = v2
    go_wp2_with fail
    go_ret
    refine ⟨rfl, ?_⟩
    have q1 := (((Below.refl w.heap.size w).alloc (Nat.le_refl _) (.cells #[.int .i64 ra, .int .i64 ka, .int .i64 ma, pa, qa, xa, ya] 27)).alloc (by simp) (.cells #[.int .i64 rb, .int .i64 kb, .int .i64 mb, pb, qb, xb, yb] 27)).trans (hb1.mono (by simp; omega))
    have q2 := (q1.alloc (by omega) (.cells #[.int .i64 u1, .int .i64 u2] 24)).trans (hb2.mono (by simp; omega))
    exact q2.alloc (by omega) _
  | true =>
    rw [hB] at h'
    simp at h'
    obtain ⟨hA, hle1, hle2⟩ := h'
    go_enter Try.func24, Try.ntmps24
    go_wp2_with fail
    refine (keptFor_any _ _ _ _ _ _ _ _).mono ?_
    rintro e w1 ⟨rfl, hb1⟩
    obtain ⟨hc1, hf1⟩ := bcell hb1
    have hz1 : w.heap.size + 1 < w1.heap.size := by have := hb1.size; simp at this; omega
    generalize kR ra ka = u1 at *
    generalize kR ra ma = u2 at *
    go_wp2_with fail
    refine (keptFor_any _ _ _ _ _ _ _ _).mono ?_
    rintro e w2 ⟨rfl, hb2⟩
    obtain ⟨hc2, hf2⟩ := bcell hb2
    have hz2 : w1.heap.size < w2.heap.size := by have := hb2.size; simp at this; omega
    generalize kR rb kb = v1 at *
    generalize kR rb mb = v2 at *
    go_wp2_with fail
    go_ret
    refine ⟨rfl, ?_⟩
    have q1 := (((Below.refl w.heap.size w).alloc (Nat.le_refl _) (.cells #[.int .i64 ra, .int .i64 ka, .int .i64 ma, pa, qa, xa, ya] 27)).alloc (by simp) (.cells #[.int .i64 rb, .int .i64 kb, .int .i64 mb, pb, qb, xb, yb] 27)).trans (hb1.mono (by simp; omega))
    have q2 := (q1.alloc (by omega) (.cells #[.int .i64 u1, .int .i64 u2] 24)).trans (hb2.mono (by simp; omega))
    exact q2.alloc (by omega) _

end Go.Proofs.Qxb6602161a
