import Derived.Test.Qxb6602161aKeepB
namespace Go.Proofs.Qxb6602161a
open Go.RowKit Go.ChangeMaps
set_option linter.unusedVariables false

/-- the cells of what Current hands back -/
def polC (N : Nat) : Array Value := #[.map (some (N + 2)), .bool true, .map (some (N + 4)), .map (some (N + 7)), .int .i64 0, .int .i64 0, .map (some (N + 8)), .int .i64 0, .map (some (N + 9)), .map (some (N + 13))]
/-- Current's blocks, and behind them the law's own variable that holds what Current handed back -/
structure Pol2 (N : Nat) (w : World) : Prop where
  pol : Pol N w
  var : blk w (N + 14) = some (.cells (polC N) 41)
  big : N + 14 < w.heap.size

theorem Pol.kept {N : Nat} {w w1 : World} (h : Pol N w) (hb : ∀ b, b < N + 14 → blk w1 b = blk w b) : Pol N w1 := by
  constructor
  · rw [hb _ (by omega)]; exact h.m2
  · rw [hb _ (by omega)]; exact h.m4
  · rw [hb _ (by omega)]; exact h.m5
  · rw [hb _ (by omega)]; exact h.m6
  · rw [hb _ (by omega)]; exact h.m7
  · rw [hb _ (by omega)]; exact h.m8
  · rw [hb _ (by omega)]; exact h.m9
  · rw [hb _ (by omega)]; exact h.m13
  · rw [hb _ (by omega)]; exact h.c3
  · rw [hb _ (by omega)]; exact h.c10
  · rw [hb _ (by omega)]; exact h.c11
  · rw [hb _ (by omega)]; exact h.c12

theorem Pol2.kept {N : Nat} {w w1 : World} (h : Pol2 N w) (hb : Below w.heap.size w w1) : Pol2 N w1 := by
  have hbig := h.big
  refine ⟨h.pol.kept fun b hl => hb.block b (by omega), ?_, by have := hb.size; omega⟩
  have e : blk w1 (N + 14) = blk w (N + 14) := hb.block _ hbig
  rw [e]; exact h.var

theorem Pol2.alloc {N : Nat} {w : World} (h : Pol2 N w) (o : Obj) : Pol2 N (w.alloc o) := h.kept ((Below.refl _ _).alloc (Nat.le_refl _) o)

theorem Pol2.cells {N : Nat} {w : World} (h : Pol2 N w) (i : Nat) : w.cell? ⟨N + 14, i, none⟩ = (polC N)[i]? := by
  have e : w.heap[N + 14]? = some (.cells (polC N) 41) := h.var
  simp only [World.cell?, e]
  simp
theorem Pol.cells {b : Nat} {w : World} {c : Array Value} {t : TypeId} (h : blk w b = some (.cells c t)) (i : Nat) : w.cell? ⟨b, i, none⟩ = c[i]? := by
  have e : w.heap[b]? = some (.cells c t) := h
  simp only [World.cell?, e]
  simp

theorem chain_2 (N : Nat) (w : World) (h : Pol2 N w) :
    Calls Try.prog 15 #[.map (some (N + 2))] w fun e w' => e = .returned (.bool true) ∧ Below w.heap.size w w' :=
  chain_any (N + 2) 0 0 0 1 3 9 2 0 0 none none none (some ⟨N + 3, 0, none⟩) none none true false true true true true w (by have := h.big; omega) (by rw [h.pol.m2]; rfl) (by rw [h.pol.m2]; rfl) (by rw [h.pol.m2]; rfl) (by rw [h.pol.m2]; rfl) (by unfold Hid; decide) (by unfold Hid; decide)

theorem chain_5 (N : Nat) (w : World) (h : Pol2 N w) :
    Calls Try.prog 15 #[.map (some (N + 5))] w fun e w' => e = .returned (.bool true) ∧ Below w.heap.size w w' :=
  chain_any (N + 5) 0 0 0 1 1 3 1 2 12 none none none none none none false false false false false false w (by have := h.big; omega) (by rw [h.pol.m5]; rfl) (by rw [h.pol.m5]; rfl) (by rw [h.pol.m5]; rfl) (by rw [h.pol.m5]; rfl) (by unfold Hid; decide) (by unfold Hid; decide)

theorem chain_6 (N : Nat) (w : World) (h : Pol2 N w) :
    Calls Try.prog 15 #[.map (some (N + 6))] w fun e w' => e = .returned (.bool true) ∧ Below w.heap.size w w' :=
  chain_any (N + 6) 0 0 0 1 1 3 1 1 6 none none none none none none false false false false false false w (by have := h.big; omega) (by rw [h.pol.m6]; rfl) (by rw [h.pol.m6]; rfl) (by rw [h.pol.m6]; rfl) (by rw [h.pol.m6]; rfl) (by unfold Hid; decide) (by unfold Hid; decide)

theorem chain_7 (N : Nat) (w : World) (h : Pol2 N w) :
    Calls Try.prog 15 #[.map (some (N + 7))] w fun e w' => e = .returned (.bool true) ∧ Below w.heap.size w w' :=
  chain_any (N + 7) 0 0 0 1 1 3 1 2 6 none none none none none none false false false false false false w (by have := h.big; omega) (by rw [h.pol.m7]; rfl) (by rw [h.pol.m7]; rfl) (by rw [h.pol.m7]; rfl) (by rw [h.pol.m7]; rfl) (by unfold Hid; decide) (by unfold Hid; decide)

theorem chain_9 (N : Nat) (w : World) (h : Pol2 N w) :
    Calls Try.prog 15 #[.map (some (N + 9))] w fun e w' => e = .returned (.bool true) ∧ Below w.heap.size w w' :=
  chain_any (N + 9) 0 0 0 1 1 4 1 3 9 (some ⟨N + 10, 0, none⟩) none (some ⟨N + 11, 0, none⟩) none (some ⟨N + 12, 0, none⟩) none false false false false false false w (by have := h.big; omega) (by rw [h.pol.m9]; rfl) (by rw [h.pol.m9]; rfl) (by rw [h.pol.m9]; rfl) (by rw [h.pol.m9]; rfl) (by unfold Hid; decide) (by unfold Hid; decide)

theorem chain_13 (N : Nat) (w : World) (h : Pol2 N w) :
    Calls Try.prog 15 #[.map (some (N + 13))] w fun e w' => e = .returned (.bool true) ∧ Below w.heap.size w w' :=
  chain_any (N + 13) 1 0 12 1 0 12 1 0 12 none none none none none none false false false false false false w (by have := h.big; omega) (by rw [h.pol.m13]; rfl) (by rw [h.pol.m13]; rfl) (by rw [h.pol.m13]; rfl) (by rw [h.pol.m13]; rfl) (by unfold Hid; decide) (by unfold Hid; decide)

theorem facing_0 (N : Nat) (w : World) (h : Pol2 N w) :
    Calls Try.prog 16 #[.map (some (N + 5)), .map (some (N + 6)), .int .i64 0] w fun e w' => e = .returned (.bool true) ∧ Below w.heap.size w w' :=
  facing_any (N + 5) (N + 6) 0 0 0 0 0 0 0 none none none none false false false false w (by have := h.big; omega) (by have := h.big; omega) (by rw [h.pol.m5]; rfl) (by rw [h.pol.m6]; rfl) (by rw [h.pol.m5]; rfl) (by rw [h.pol.m6]; rfl) (by unfold Hid; decide)

theorem facing_1 (N : Nat) (w : World) (h : Pol2 N w) :
    Calls Try.prog 16 #[.map (some (N + 5)), .map (some (N + 6)), .int .i64 1] w fun e w' => e = .returned (.bool true) ∧ Below w.heap.size w w' :=
  facing_any (N + 5) (N + 6) 1 1 1 3 1 1 3 none none none none false false false false w (by have := h.big; omega) (by have := h.big; omega) (by rw [h.pol.m5]; rfl) (by rw [h.pol.m6]; rfl) (by rw [h.pol.m5]; rfl) (by rw [h.pol.m6]; rfl) (by unfold Hid; decide)

theorem facing_2 (N : Nat) (w : World) (h : Pol2 N w) :
    Calls Try.prog 16 #[.map (some (N + 5)), .map (some (N + 6)), .int .i64 2] w fun e w' => e = .returned (.bool true) ∧ Below w.heap.size w w' :=
  facing_any (N + 5) (N + 6) 2 1 1 6 1 2 12 none none none none false false false false w (by have := h.big; omega) (by have := h.big; omega) (by rw [h.pol.m5]; rfl) (by rw [h.pol.m6]; rfl) (by rw [h.pol.m5]; rfl) (by rw [h.pol.m6]; rfl) (by unfold Hid; decide)

end Go.Proofs.Qxb6602161a
