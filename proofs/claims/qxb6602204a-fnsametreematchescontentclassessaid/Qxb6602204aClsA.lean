import Derived.Test.Qxb6602204aWFB
import Derived.Test.Qxb6602204aTreeC
import Derived.Test.Qxb6602204aKids
namespace Go.Proofs.Qxb6602204a
open Go.RowKit
set_option linter.unusedVariables false

theorem info39 : (Try.prog.info? 39).map (fun i => (i.zero, i.size, i.bytes)) = some (some (.slice none 0 0), 1, 24) := by kernel_rfl
theorem info3 : (Try.prog.info? 3).map (fun i => (i.zero, i.size, i.bytes)) = some (some (.int .i64 0), 1, 8) := by kernel_rfl

theorem rowV_made {w : World} {base g n e : Nat} {v : Value} (hv : v.cells = #[v]) (h : w.ownsRow base e 1 (.slice (some ⟨g, 0, none⟩) n n) n (madeCells v.cells (n * 1)).toList) : rowV w g e (List.replicate n v) := by
  have := rowV_of_owns h
  rw [Nat.mul_one, hv, toList_madeCells_one] at this
  exact this

/-- the reach sets of the levels from k on -/
structure Reach (n : Nat) (nd : Nat → Nat → Nat) (l rb k : Nat) (G : Nat → Nat) (Rs : Nat → List Bool) (a b : Nat) (w : World) : Prop where
  row : ∃ vals, rowV w rb 39 vals ∧ vals.length = l + 1 ∧ ∀ j, k ≤ j → j ≤ l → vals[j]? = some (.slice (some ⟨G j, 0, none⟩) n n)
  bools : ∀ j, k ≤ j → j ≤ l → BoolRow w (G j) n (Rs j)
  wf : ∀ j, k ≤ j → j ≤ l → ∀ z, (Rs j).getD z false = true → Plain.wf n nd j z
  down : ∀ j, k ≤ j → j < l → ∀ z, (Rs (j + 1)).getD z false = true → ∀ c, c < 4 → (Rs j).getD (nd z c) false = true
  ha : (Rs l).getD a false = true
  hb : (Rs l).getD b false = true

section
variable {n : Nat} {nd : Nat → Nat → Nat} {l rb k : Nat} {G : Nat → Nat} {Rs : Nat → List Bool} {a b : Nat} {w w' : World}
theorem Reach.cellS (h : Reach n nd l rb k G Rs a b w) {j : Nat} (h1 : k ≤ j) (h2 : j ≤ l) : w.cell? ⟨rb, j, none⟩ = some (.slice (some ⟨G j, 0, none⟩) n n) := by
  obtain ⟨vals, hr, _, hv⟩ := h.row
  rw [hr.cell]; exact hv j h1 h2
theorem Reach.cellB (h : Reach n nd l rb k G Rs a b w) {j i : Nat} (h1 : k ≤ j) (h2 : j ≤ l) (hi : i < n) : w.cell? ⟨G j, i, none⟩ = some (.bool ((Rs j).getD i false)) := (h.bools j h1 h2).cell hi
theorem Reach.old (h : Reach n nd l rb k G Rs a b w) {j : Nat} (h2 : j ≤ l) : ∃ v, w.cell? ⟨rb, j, none⟩ = some v := by
  obtain ⟨vals, hr, hl, _⟩ := h.row
  rw [hr.cell]; exact ⟨vals[j]'(by omega), List.getElem?_eq_getElem (by omega)⟩
theorem Reach.free (h : Reach n nd l rb k G Rs a b w) (j : Nat) : w.frozen? ⟨rb, j, none⟩ = false := by
  obtain ⟨vals, hr, hl, _⟩ := h.row
  exact hr.frozen j
theorem Reach.below (h : Reach n nd l rb k G Rs a b w) (hb : Below w.heap.size w w') : Reach n nd l rb k G Rs a b w' := by
  obtain ⟨vals, hr, hl, hv⟩ := h.row
  exact ⟨⟨vals, hr.below hb hr.lt, hl, hv⟩, fun j h1 h2 => (h.bools j h1 h2).below hb (h.bools j h1 h2).lt, h.wf, h.down, h.ha, h.hb⟩
theorem Reach.push {g : Nat} {b2 : List Bool} (h : Reach n nd l rb (k + 1) G Rs a b w) (hk : k < l) (hg : BoolRow w g n b2)
    (hw : ∀ z, b2.getD z false = true → Plain.wf n nd k z) (hd : ∀ z, (Rs (k + 1)).getD z false = true → ∀ c, c < 4 → b2.getD (nd z c) false = true) :
    Reach n nd l rb k (fun j => if j = k then g else G j) (fun j => if j = k then b2 else Rs j) a b (w.setCell ⟨rb, k, none⟩ (.slice (some ⟨g, 0, none⟩) n n)) := by
  obtain ⟨vals, hr, hl, hv⟩ := h.row
  have hne : ∀ g' bs, BoolRow w g' n bs → g' ≠ rb := fun g' bs hB e => by
    subst e
    have h1 := hB.row
    unfold rowV at h1 hr
    rw [hr] at h1
    simp at h1
  refine ⟨⟨_, hr.set k _, by simpa using hl, fun j h1 h2 => ?_⟩, fun j h1 h2 => ?_, fun j h1 h2 z hz => ?_, fun j h1 h2 z hz c hc => ?_, ?_, ?_⟩
  · by_cases e : j = k
    · subst e; simp [List.getElem?_set]; omega
    · rw [List.getElem?_set_ne (by omega), hv j (by omega) h2]; simp [e]
  · by_cases e : j = k
    · simp only [e, if_true]
      exact ⟨hg.row.other (hne _ _ hg) _, hg.len⟩
    · simp only [e, if_false]
      have hB := h.bools j (by omega) h2
      exact ⟨hB.row.other (hne _ _ hB) _, hB.len⟩
  · by_cases e : j = k
    · simp only [e, if_true] at hz ⊢; exact hw z hz
    · simp only [e, if_false] at hz; exact h.wf j (by omega) h2 z hz
  · by_cases e : j = k
    · subst e
      simp only [if_true, show ¬ (j + 1 = j) by omega, if_false] at hz ⊢
      exact hd z hz c hc
    · simp only [e, show ¬ (j + 1 = k) by omega, if_false] at hz ⊢
      exact h.down j (by omega) h2 z hz c hc
  · simp only [show ¬ (l = k) by omega, if_false]; exact h.ha
  · simp only [show ¬ (l = k) by omega, if_false]; exact h.hb
theorem Reach.start {g : Nat} {b2 : List Bool} {vals : List Value} (hr : rowV w rb 39 vals) (hl : vals.length = l + 1) (hg : BoolRow w g n b2)
    (hw : ∀ z, b2.getD z false = true → Plain.wf n nd l z) (ha : b2.getD a false = true) (hb : b2.getD b false = true) :
    Reach n nd l rb l (fun _ => g) (fun _ => b2) a b (w.setCell ⟨rb, l, none⟩ (.slice (some ⟨g, 0, none⟩) n n)) := by
  have hne : g ≠ rb := fun e => by
    subst e
    have h1 := hg.row
    unfold rowV at h1 hr
    rw [hr] at h1
    simp at h1
  refine ⟨⟨_, hr.set l _, by simpa using hl, fun j h1 h2 => ?_⟩, fun j h1 h2 => ⟨hg.row.other hne _, hg.len⟩, fun j h1 h2 z hz => ?_, fun j h1 h2 => by omega, ha, hb⟩
  · have e : j = l := by omega
    subst e; simp [List.getElem?_set]; omega
  · have e : j = l := by omega
    subst e; exact hw z hz
end

/-- a row of classes at block g -/
structure ClsRow (w : World) (g n : Nat) (cls : List Nat) : Prop where
  row : rowV w g 3 (clsV cls)
  len : cls.length = n
theorem ClsRow.cell {w : World} {g n : Nat} {cls : List Nat} (h : ClsRow w g n cls) {i : Nat} (hi : i < n) : w.cell? ⟨g, i, none⟩ = some (.int .i64 (cls.getD i 0 : Nat)) := by
  rw [h.row.cell]; exact clsV_get (by rw [h.len]; exact hi)
theorem ClsRow.free {w : World} {g n : Nat} {cls : List Nat} (h : ClsRow w g n cls) (i : Nat) : w.frozen? ⟨g, i, none⟩ = false := h.row.frozen i
theorem clsV_set (cls : List Nat) (i c : Nat) : (clsV cls).set i (.int .i64 c) = clsV (cls.set i c) := by unfold clsV; rw [List.map_set]
theorem ClsRow.set {w : World} {g n : Nat} {cls : List Nat} (h : ClsRow w g n cls) (i c : Nat) : ClsRow (w.setCell ⟨g, i, none⟩ (.int .i64 c)) g n (cls.set i c) :=
  ⟨by have := h.row.set i (.int .i64 c); rw [clsV_set] at this; exact this, by rw [List.length_set]; exact h.len⟩
theorem ClsRow.below {w w' : World} {g n B : Nat} {cls : List Nat} (h : ClsRow w g n cls) (hb : Below B w w') (hg : g < B) : ClsRow w' g n cls := ⟨h.row.below hb hg, h.len⟩
theorem ClsRow.lt {w : World} {g n : Nat} {cls : List Nat} (h : ClsRow w g n cls) : g < w.heap.size := h.row.lt
theorem ClsRow.made {w : World} {base g n : Nat} (h : w.ownsRow base 3 1 (.slice (some ⟨g, 0, none⟩) n n) n (madeCells (Value.int .i64 0).cells (n * 1)).toList) : ClsRow w g n (List.replicate n 0) :=
  ⟨by have := rowV_made rfl h; unfold clsV; rw [List.map_replicate]; exact this, by simp⟩
theorem getDc_set_self (cls : List Nat) (i c : Nat) (h : i < cls.length) : (cls.set i c).getD i 0 = c := by
  rw [List.getD_eq_getElem?_getD, List.getElem?_set]; simp [h]
theorem getDc_set_ne (cls : List Nat) (i j c : Nat) (h : j ≠ i) : (cls.set i c).getD j 0 = cls.getD j 0 := by
  rw [List.getD_eq_getElem?_getD, List.getElem?_set_ne (by omega), List.getD_eq_getElem?_getD]

/-- the classes of the level j, of the nodes below m -/
def Cls (nd : Nat → Nat → Nat) (bs : List Bool) (j m : Nat) (cls : List Nat) : Prop :=
  ∀ z, z < m → bs.getD z false = true → Plain.isClass nd (fun y => bs.getD y false = true) j z (cls.getD z 0)
theorem Cls.skip {nd : Nat → Nat → Nat} {bs : List Bool} {j m : Nat} {cls : List Nat} (h : Cls nd bs j m cls) (hm : bs.getD m false = false) : Cls nd bs j (m + 1) cls := fun z hz hb => by
  by_cases e : z = m
  · subst e; rw [hm] at hb; cases hb
  · exact h z (by omega) hb
theorem Cls.put {nd : Nat → Nat → Nat} {bs : List Bool} {j m c : Nat} {cls : List Nat} (h : Cls nd bs j m cls) (hl : m < cls.length) (hc : c ≤ m) (hr : bs.getD c false = true) (hs : Plain.same nd j c m)
    (hn : ∀ y, y < c → ¬ (bs.getD y false = true ∧ Plain.same nd j y m)) : Cls nd bs j (m + 1) (cls.set m c) := fun z hz hb => by
  by_cases e : z = m
  · subst e
    rw [getDc_set_self _ _ _ hl]
    exact ⟨hc, hr, hs, hn⟩
  · rw [getDc_set_ne _ _ _ _ e]
    exact h z (by omega) hb
/-- the kids' classes agree just where the subtrees do -/
theorem Cls.kids {n : Nat} {nd : Nat → Nat → Nat} {bs hi : List Bool} {j : Nat} {cls : List Nat} (h : Cls nd bs j n cls) (hlen : bs.length = n)
    (hd : ∀ z, hi.getD z false = true → ∀ c, c < 4 → bs.getD (nd z c) false = true) {x y : Nat} (hx : hi.getD x false = true) (hy : hi.getD y false = true) :
    (∀ c, c < 4 → cls.getD (nd x c) 0 = cls.getD (nd y c) 0) ↔ Plain.same nd (j + 1) x y := by
  have hlt : ∀ z, bs.getD z false = true → z < n := fun z hz => by
    by_cases h' : z < bs.length
    · omega
    · rw [List.getD_eq_getElem?_getD, List.getElem?_eq_none (by omega)] at hz; cases hz
  constructor
  · intro he c hc
    have hx1 := hd x hx c hc
    have hy1 := hd y hy c hc
    exact (Plain.class_eq (h _ (hlt _ hx1) hx1) (h _ (hlt _ hy1) hy1)).1 (he c hc)
  · intro hs c hc
    have hx1 := hd x hx c hc
    have hy1 := hd y hy c hc
    exact (Plain.class_eq (h _ (hlt _ hx1) hx1) (h _ (hlt _ hy1) hy1)).2 (hs c hc)

end Go.Proofs.Qxb6602204a
