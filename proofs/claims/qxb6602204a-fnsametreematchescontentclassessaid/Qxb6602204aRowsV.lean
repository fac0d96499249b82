import Derived.WalkKit
import Derived.WalkSpells
import Derived.WalkLawsBesides
/-
  A ROW OF CELLS OF THE CALL's OWN, SAID OF ITS BLOCK AS A WHOLE: 'rowV w g e vs': block g holds just the cells vs, of element type e, no mark.
-/
namespace Go.Proofs.Qxb6602204a
open Go.RowKit

def rowV (w : World) (g : Nat) (e : TypeId) (vs : List Value) : Prop := w.heap[g]? = some (.cells vs.toArray e (0, 0))

theorem rowV.lt {w : World} {g e : Nat} {vs : List Value} (h : rowV w g e vs) : g < w.heap.size := by
  unfold rowV at h
  by_cases hb : g < w.heap.size
  · exact hb
  · rw [Array.getElem?_eq_none (by omega)] at h; cases h

theorem rowV.cell {w : World} {g e : Nat} {vs : List Value} (h : rowV w g e vs) (i : Nat) : w.cell? ⟨g, i, none⟩ = vs[i]? := by
  unfold rowV at h
  simp only [World.cell?, h]
  simp
theorem rowV.frozen {w : World} {g e : Nat} {vs : List Value} (h : rowV w g e vs) (i : Nat) : w.frozen? ⟨g, i, none⟩ = false := by
  unfold rowV at h
  simp [World.frozen?, h]

theorem rowV.below {w w' : World} {g e B : Nat} {vs : List Value} (h : rowV w g e vs) (hb : Below B w w') (hg : g < B) : rowV w' g e vs := by
  unfold rowV; rw [hb.block g hg]; exact h
theorem rowV.alloc {w : World} {g e : Nat} {vs : List Value} (h : rowV w g e vs) (o : Obj) : rowV (w.alloc o) g e vs := by
  unfold rowV; rw [Below.heap_alloc _ _ _ h.lt]; exact h
theorem rowV.drew {w : World} {g e : Nat} {vs : List Value} (h : rowV w g e vs) : rowV w.drew g e vs := h

theorem rowV.set {w : World} {g e : Nat} {vs : List Value} (h : rowV w g e vs) (i : Nat) (v : Value) : rowV (w.setCell ⟨g, i, none⟩ v) g e (vs.set i v) := by
  have h' : w.heap[g]? = some (.cells vs.toArray e (0, 0)) := h
  show (w.heap.modify g _)[g]? = _
  rw [Array.getElem?_modify, if_pos rfl, h']
  simp
theorem rowV.other {w : World} {g e : Nat} {vs : List Value} (h : rowV w g e vs) {a : Addr} (ha : g ≠ a.block) (v : Value) : rowV (w.setCell a v) g e vs := by
  unfold rowV; rw [Below.heap_setCell _ _ _ _ ha]; exact h

theorem rowV_of_owns {w : World} {base e g n : Nat} {xs : List Value} (h : w.ownsRow base e 1 (.slice (some ⟨g, 0, none⟩) n n) n xs) : rowV w g e xs := by
  rcases h.2 with ⟨h', _⟩ | ⟨g', cap', cur, h', _, hg, _, _, hs, htake⟩
  · simp at h'
  · simp only [Value.slice.injEq, Option.some.injEq, Addr.mk.injEq, and_true, true_and] at h'
    obtain ⟨rfl, rfl⟩ := h'
    unfold rowV
    rw [hg]
    have e1 : cur.toList = xs := by
      rw [← htake, List.take_of_length_le (by simp; omega)]
    rw [← e1]
theorem rowV_of_owns4 {w : World} {base e g n : Nat} {xs : List Value} (h : w.ownsRow base e 4 (.slice (some ⟨g, 0, none⟩) n n) n xs) : rowV w g e xs := by
  rcases h.2 with ⟨h', _⟩ | ⟨g', cap', cur, h', _, hg, _, _, hs, htake⟩
  · simp at h'
  · simp only [Value.slice.injEq, Option.some.injEq, Addr.mk.injEq, and_true, true_and] at h'
    obtain ⟨rfl, rfl⟩ := h'
    unfold rowV
    rw [hg]
    have e1 : cur.toList = xs := by
      rw [← htake, List.take_of_length_le (by simp; omega)]
    rw [← e1]

end Go.Proofs.Qxb6602204a
