import Derived.Test.Qxb6602204aTreeB
import Derived.Test.Qxb6602204aCopy
namespace Go.Proofs.Qxb6602204a
open Go.RowKit
set_option linter.unusedVariables false

theorem Nodes.below {w w' : World} {g off n B : Nat} {nd : Nat → Nat → Nat} (h : Nodes w g off n nd) (hb : Below B w w') (hg : g < B) : Nodes w' g off n nd :=
  fun i k hi hk => (hb.cell (p := ⟨g, _, none⟩) hg).trans (h i k hi hk)

set_option maxHeartbeats 1000000 in
theorem zsame_any (g n : Nat) (nd : Nat → Nat → Nat) (top fresh : Int) (x y l : Nat) (s : Int) (w : World) (hn : (n : Int) ≤ 4096) (hpos : 0 < n) (hN : Nodes w g 0 n nd)
    (hl : l ≤ 31) (hs : Hid (s = 2 * (l : Int))) (WX : Hid (Plain.wf n nd l x)) (WY : Hid (Plain.wf n nd l y)) :
    Calls Try.prog 12 #[.slice (some ⟨g, 0, none⟩) n n, .int .u64 top, .int .i64 fresh, .int .u64 x, .int .u64 y, .int .u64 s] w fun e w' =>
      ∃ r : Bool, e = .returned (.bool r) ∧ (r = true ↔ Plain.same nd l x y) ∧ Below w.heap.size w w' := by
  have hbN : g < w.heap.size := lt_of_cell (hN 0 0 hpos (by omega))
  obtain ⟨i0, hi, hz0, hz1, hz2⟩ := info_parts info43
  go_enter Try.func12, Try.ntmps12
  go_wp2_with (at_make; refine wpList_make_full _ rfl _ _ 42 rfl w.heap.size 43 i0 _ 4 Try.underlying42 hi hz0 hz1 _ _ _ _ n rfl rfl rfl rfl (by rw [hz2]; omega) (by unfold maxLen; omega) (Nat.le_refl _) ?_; intro w1 hown1 hgrow1)
  have hP1 : Part w1 w.heap.size 43 n 0 nd := Part.start (rowV_of_owns4 hown1) (by simp [madeCells])
  have hbel1 : Below w.heap.size w w1 := (Below.refl _ _).grown hgrow1 (Nat.le_refl _) (fun k h => by cases h)
  clear hown1 hgrow1
  go_loopw [14, 21] (fun _ i wr => ∃ k : Nat, k ≤ n ∧ i = .int .i64 k ∧ Part wr w.heap.size 43 n k nd ∧ Below w.heap.size w wr) (fun _ i _ => n - (intOf i).toNat)
  case atStart => exact ⟨0, Nat.zero_le _, rfl, hP1, hbel1⟩
  case round =>
    obtain ⟨k, hk, rfl, P, hnx⟩ := hrel
    clear hP1 hbel1
    by_cases hkl : k < n
    · have e0 := (hnx.cell (p := ⟨g, 0 + (k * 4 + 0), none⟩) hbN).trans (hN k 0 hkl (by omega))
      have e1 := (hnx.cell (p := ⟨g, 0 + (k * 4 + 1), none⟩) hbN).trans (hN k 1 hkl (by omega))
      have e2 := (hnx.cell (p := ⟨g, 0 + (k * 4 + 2), none⟩) hbN).trans (hN k 2 hkl (by omega))
      have e3 := (hnx.cell (p := ⟨g, 0 + (k * 4 + 3), none⟩) hbN).trans (hN k 3 hkl (by omega))
      simp only [Nat.add_zero, Nat.zero_add] at e0 e1 e2 e3
      obtain ⟨v0, o0⟩ := P.cells hkl 0 (by omega)
      obtain ⟨v1, o1⟩ := P.cells hkl 1 (by omega)
      obtain ⟨v2, o2⟩ := P.cells hkl 2 (by omega)
      obtain ⟨v3, o3⟩ := P.cells hkl 3 (by omega)
      simp only [Nat.add_zero] at o0
      have hff := fun j => P.free j
      have P2 := P.step hkl
      have B2 : Below w.heap.size w ((((wr.setCell ⟨w.heap.size, k * 4, none⟩ (.int .u64 (nd k 0 : Nat))).setCell ⟨w.heap.size, k * 4 + 1, none⟩ (.int .u64 (nd k 1 : Nat))).setCell ⟨w.heap.size, k * 4 + 2, none⟩ (.int .u64 (nd k 2 : Nat))).setCell ⟨w.heap.size, k * 4 + 3, none⟩ (.int .u64 (nd k 3 : Nat))) :=
        (((hnx.setCell (Nat.le_refl _) _).setCell (Nat.le_refl _) _).setCell (Nat.le_refl _) _).setCell (Nat.le_refl _) _
      clear P hnx hN
      go_wp2_with fail
      go_roundw
      case rel => exact ⟨k + 1, by omega, by go_num, P2, B2⟩
      case measure => simp [intOf]; omega
    · have hke : k = n := by omega
      subst hke
      clear hN
      have hNN := P.nodes
      have hNl : w.heap.size < wr.heap.size := by obtain ⟨vs, hr, _⟩ := P; exact hr.lt
      clear P
      have hB0 : Below wr.heap.size wr ((wr.alloc (.cells #[.slice (some ⟨w.heap.size, 0, none⟩) k k] 42)).alloc (.cells #[.slice (some ⟨wr.heap.size, 0, none⟩) 1 1, .int .i64 k, .int .i64 0, .int .u64 top, .int .i64 fresh] 49)) :=
        ((Below.refl _ _).alloc (Nat.le_refl _) _).alloc (by simp) _
      have T : TreeIn (wr.heap.size + 1) wr.heap.size w.heap.size k nd ((wr.alloc (.cells #[.slice (some ⟨w.heap.size, 0, none⟩) k k] 42)).alloc (.cells #[.slice (some ⟨wr.heap.size, 0, none⟩) 1 1, .int .i64 k, .int .i64 0, .int .u64 top, .int .i64 fresh] 49)) :=
        ⟨by go_simp, by go_simp, hNN.below hB0 hNl, (by simp only [World.size_alloc]; omega), (by simp only [World.size_alloc]; omega), (by simp only [World.size_alloc]; omega)⟩
      have BB : Below w.heap.size w ((wr.alloc (.cells #[.slice (some ⟨w.heap.size, 0, none⟩) k k] 42)).alloc (.cells #[.slice (some ⟨wr.heap.size, 0, none⟩) 1 1, .int .i64 k, .int .i64 0, .int .u64 top, .int .i64 fresh] 49)) := hnx.trans (hB0.mono (by omega))
      go_wp2_with fail
      refine (same_at hn l hl x y s _ hs.out WX.out WY.out T).mono ?_
      rintro e w2 ⟨r, rfl, HR, hb2⟩
      have HRR : Hid (r = true ↔ Plain.same nd l x y) := HR
      have B3 := BB.trans (hb2.mono (by simp; omega))
      clear HR hb2 T BB hB0 hNN
      go_wp2_with fail
      go_ret
      exact ⟨r, rfl, HRR.out, B3⟩

end Go.Proofs.Qxb6602204a
