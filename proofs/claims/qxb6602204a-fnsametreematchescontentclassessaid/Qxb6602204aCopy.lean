import Derived.Test.Qxb6602204aTreeA
namespace Go.Proofs.Qxb6602204a
open Go.RowKit
set_option linter.unusedVariables false

theorem info40 : (Try.prog.info? 40).map (fun i => (i.zero, i.size, i.bytes)) = some (some (.agg #[.int .u64 0, .int .u64 0, .int .u64 0, .int .u64 0]), 4, 32) := by kernel_rfl
theorem info43 : (Try.prog.info? 43).map (fun i => (i.zero, i.size, i.bytes)) = some (some (.agg #[.int .u64 0, .int .u64 0, .int .u64 0, .int .u64 0]), 4, 32) := by kernel_rfl

theorem lt_of_cell {w : World} {b o : Nat} {v : Value} (h : w.cell? ⟨b, o, none⟩ = some v) : b < w.heap.size := by
  unfold World.cell? at h
  by_cases hb : b < w.heap.size
  · exact hb
  · rw [Array.getElem?_eq_none (by simpa using hb)] at h
    simp at h

/-- block g holds n nodes' room, of which the first k are laid -/
def Part (w : World) (g e n k : Nat) (nd : Nat → Nat → Nat) : Prop :=
  ∃ vs : List Value, rowV w g e vs ∧ vs.length = n * 4 ∧ ∀ i j, i < k → j < 4 → vs[i * 4 + j]? = some (.int .u64 (nd i j : Nat))

theorem Part.nodes {w : World} {g e n : Nat} {nd : Nat → Nat → Nat} (h : Part w g e n n nd) : Nodes w g 0 n nd := by
  obtain ⟨vs, hr, _, hv⟩ := h
  intro i k hi hk
  rw [Nat.zero_add, hr.cell]
  exact hv i k hi hk
theorem Part.start {w : World} {g e n : Nat} {nd : Nat → Nat → Nat} {vs : List Value} (hr : rowV w g e vs) (hl : vs.length = n * 4) : Part w g e n 0 nd :=
  ⟨vs, hr, hl, fun i j hi _ => by omega⟩
/-- the four cells that the next round writes -/
theorem Part.cells {w : World} {g e n k : Nat} {nd : Nat → Nat → Nat} (h : Part w g e n k nd) (hk : k < n) (j : Nat) (hj : j < 4) : ∃ v, w.cell? ⟨g, k * 4 + j, none⟩ = some v := by
  obtain ⟨vs, hr, hl, _⟩ := h
  rw [hr.cell]
  exact ⟨vs[k * 4 + j]'(by omega), List.getElem?_eq_getElem (by omega)⟩
theorem Part.free {w : World} {g e n k : Nat} {nd : Nat → Nat → Nat} (h : Part w g e n k nd) (j : Nat) : w.frozen? ⟨g, j, none⟩ = false := by
  obtain ⟨vs, hr, _, _⟩ := h
  exact hr.frozen j
theorem Part.step {w : World} {g e n k : Nat} {nd : Nat → Nat → Nat} (h : Part w g e n k nd) (hk : k < n) :
    Part ((((w.setCell ⟨g, k * 4, none⟩ (.int .u64 (nd k 0 : Nat))).setCell ⟨g, k * 4 + 1, none⟩ (.int .u64 (nd k 1 : Nat))).setCell ⟨g, k * 4 + 2, none⟩ (.int .u64 (nd k 2 : Nat))).setCell ⟨g, k * 4 + 3, none⟩ (.int .u64 (nd k 3 : Nat))) g e n (k + 1) nd := by
  obtain ⟨vs, hr, hl, hv⟩ := h
  refine ⟨_, (((hr.set _ _).set _ _).set _ _).set _ _, by simpa using hl, fun i j hi hj => ?_⟩
  by_cases hik : i = k
  · subst hik
    match j, hj with
    | 0, _ => simp [List.getElem?_set]; omega
    | 1, _ => simp [List.getElem?_set]; omega
    | 2, _ => simp [List.getElem?_set]; omega
    | 3, _ => simp [List.getElem?_set]; omega
  · have := hv i j (by omega) hj
    rw [List.getElem?_set_ne (by omega), List.getElem?_set_ne (by omega), List.getElem?_set_ne (by omega), List.getElem?_set_ne (by omega)]
    exact this

set_option maxHeartbeats 400000 in
theorem copy_any (b off n cap : Nat) (nd : Nat → Nat → Nat) (w : World) (hn : (n : Int) ≤ 4096) (hpos : 0 < n) (hN : Nodes w b off n nd) :
    Calls Try.prog 11 #[.slice (some ⟨b, off, none⟩) n cap] w fun e w' => ∃ g, e = .returned (.slice (some ⟨g, 0, none⟩) n n) ∧ w.heap.size ≤ g ∧ g < w'.heap.size ∧ Nodes w' g 0 n nd ∧ Below w.heap.size w w' := by
  have hnn := fun w => Lib.run_eql_slice_nil (P := Try.prog) w 22 40 (some ⟨b, off, none⟩) n cap 0 0 Try.underlying22
  have hbN : b < w.heap.size := lt_of_cell (hN 0 0 hpos (by omega))
  obtain ⟨i0, hi, hz0, hz1, hz2⟩ := info_parts info40
  go_enter Try.func11, Try.ntmps11
  go_wp2_with (at_make; refine wpList_make_full _ rfl _ _ 22 rfl w.heap.size 40 i0 _ 4 Try.underlying22 hi hz0 hz1 _ _ _ _ n rfl rfl rfl rfl (by rw [hz2]; omega) (by unfold maxLen; omega) (Nat.le_refl _) ?_; intro w1 hown1 hgrow1)
  have hP1 : Part w1 w.heap.size 40 n 0 nd := Part.start (rowV_of_owns4 hown1) (by simp [madeCells])
  have hbel1 : Below w.heap.size w w1 := (Below.refl _ _).grown hgrow1 (Nat.le_refl _) (fun k h => by cases h)
  clear hown1 hgrow1
  go_loopw [4] (fun i wr => ∃ k : Nat, k ≤ n ∧ i = .int .i64 k ∧ Part wr w.heap.size 40 n k nd ∧ Below w.heap.size w wr) (fun i _ => n - (intOf i).toNat)
  case atStart => exact ⟨0, Nat.zero_le _, rfl, hP1, hbel1⟩
  case round =>
    obtain ⟨k, hk, rfl, P, hnx⟩ := hrel
    clear hP1 hbel1
    by_cases hkl : k < n
    · have e0 := (hnx.cell (p := ⟨b, off + (k * 4 + 0), none⟩) hbN).trans (hN k 0 hkl (by omega))
      have e1 := (hnx.cell (p := ⟨b, off + (k * 4 + 1), none⟩) hbN).trans (hN k 1 hkl (by omega))
      have e2 := (hnx.cell (p := ⟨b, off + (k * 4 + 2), none⟩) hbN).trans (hN k 2 hkl (by omega))
      have e3 := (hnx.cell (p := ⟨b, off + (k * 4 + 3), none⟩) hbN).trans (hN k 3 hkl (by omega))
      simp only [Nat.add_zero, ← Nat.add_assoc] at e0 e1 e2 e3
      obtain ⟨v0, o0⟩ := P.cells hkl 0 (by omega)
      obtain ⟨v1, o1⟩ := P.cells hkl 1 (by omega)
      obtain ⟨v2, o2⟩ := P.cells hkl 2 (by omega)
      obtain ⟨v3, o3⟩ := P.cells hkl 3 (by omega)
      simp only [Nat.add_zero] at o0
      have hff := fun j => P.free j
      have P2 := P.step hkl
      have B2 : Below w.heap.size w ((((wr.setCell ⟨w.heap.size, k * 4, none⟩ (.int .u64 (nd k 0 : Nat))).setCell ⟨w.heap.size, k * 4 + 1, none⟩ (.int .u64 (nd k 1 : Nat))).setCell ⟨w.heap.size, k * 4 + 2, none⟩ (.int .u64 (nd k 2 : Nat))).setCell ⟨w.heap.size, k * 4 + 3, none⟩ (.int .u64 (nd k 3 : Nat))) :=
        (((hnx.setCell (Nat.le_refl _) _).setCell (Nat.le_refl _) _).setCell (Nat.le_refl _) _).setCell (Nat.le_refl _) _
      clear P hnx hN
      go_wp2
      go_roundw
      case rel => exact ⟨k + 1, by omega, by go_num, P2, B2⟩
      case measure => simp [intOf]; omega
    · have hke : k = n := by omega
      subst hke
      clear hN
      go_wp2
      go_ret
      exact ⟨_, rfl, Nat.le_refl _, (by obtain ⟨vs, hr, _⟩ := P; exact hr.lt), P.nodes, hnx⟩

end Go.Proofs.Qxb6602204a
