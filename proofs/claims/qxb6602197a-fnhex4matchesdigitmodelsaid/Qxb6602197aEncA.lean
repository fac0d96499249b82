import Derived.Test.Qxb6602197aClone
namespace Go.Proofs.Qxb6602197a
open Go.RowKit
set_option linter.unusedVariables false

set_option maxHeartbeats 400000 in
theorem clone_empty (x : Addr) (cap : Nat) (w : World) :
    Calls Try.prog 7 #[.slice (some x) 0 cap] w fun e w' => ∃ v, e = .returned v ∧ Cloned w w' [] 0 v := by
  have hn := fun w => Lib.run_eql_slice_nil (P := Try.prog) w 22 5 (some x) 0 cap 0 0 Try.underlying22
  obtain ⟨i0, hi, hz0, hz1, hz2⟩ := info_parts info5
  go_enter Try.func7, Try.ntmps7
  go_wp2_with (at_make; refine wpList_make_full _ rfl _ _ 22 rfl w.heap.size 5 i0 (.int .u8 0) 1 Try.underlying22 hi hz0 hz1 _ _ _ _ 0 rfl rfl rfl rfl (by rw [hz2]; omega) (by unfold maxLen; omega) (Nat.le_refl _) ?_; intro w1 hown1 hgrow1)
  have hbel1 : Below w.heap.size w w1 := (Below.refl _ _).grown hgrow1 (Nat.le_refl _) (fun k h => by cases h)
  have hown1' : w1.ownsRow w.heap.size 5 1 (.slice (some ⟨w.heap.size, 0, none⟩) 0 0) 0 [] := by
    have e : (madeCells (Value.int .u8 0).cells (0 * 1)).toList = [] := toList_madeCells_one _ _
    rw [e] at hown1; exact hown1
  clear hown1 hgrow1
  refine wp_loop_rounds 1 ?_
  rw [rounds_succ]
  go_wp2
  go_ret
  exact ⟨_, rfl, rfl, hown1', hbel1⟩

/-- a slice that came in: nil, empty, or a row of bytes -/
def In8 (w : World) (a : Option Addr) (len cap : Nat) (zs : List Int) : Prop :=
  (a = none ∧ len = 0 ∧ cap = 0) ∨ (∃ x, a = some x ∧ len = 0) ∨
  ∃ b off, a = some ⟨b, off, none⟩ ∧ 0 < len ∧ len ≤ zs.length ∧ ∀ j, j < zs.length → w.cell? ⟨b, off + j, none⟩ = some (.int .u8 (zs.getD j 0))

/-- the copy's cells -/
def Cells8 (w w' : World) (ta : Option Addr) (len : Nat) (zs : List Int) : Prop :=
  Hid (len = 0) ∨ (ta = some ⟨w.heap.size, 0, none⟩ ∧ w.heap.size < w'.heap.size ∧ ∀ j, j < len → w'.cell? ⟨w.heap.size, j, none⟩ = some (.int .u8 (zs.getD j 0)))

theorem Cloned.cells {w w' : World} {zs : List Int} {len : Nat} {v : Value} (h : Cloned w w' zs len v) (hl : len ≤ zs.length) :
    ∃ ta, v = .slice ta len len ∧ Cells8 w w' ta len zs ∧ Below w.heap.size w w' := by
  obtain ⟨rfl, hown, hb⟩ := h
  refine ⟨_, rfl, ?_, hb⟩
  by_cases h0 : len = 0
  · exact .inl h0
  · refine .inr ⟨rfl, (hown.lt w.heap.size rfl).2, fun j hj => ?_⟩
    rw [hown.cellAt j (by omega), List.getElem?_map, List.getElem?_take, if_pos hj, List.getElem?_eq_getElem (by omega), Option.map_some, List.getD_eq_getElem?_getD, List.getElem?_eq_getElem (by omega)]
    rfl

/-- cloneBytes, whatever came in -/
theorem clone_all (a : Option Addr) (len cap : Nat) (zs : List Int) (w : World) (hlt : (len : Int) ≤ 1048576) (hin : In8 w a len cap zs) :
    Calls Try.prog 7 #[.slice a len cap] w fun e w' => ∃ ta, e = .returned (.slice ta len len) ∧ Cells8 w w' ta len zs ∧ Below w.heap.size w w' := by
  rcases hin with ⟨rfl, rfl, rfl⟩ | ⟨x, rfl, rfl⟩ | ⟨b, off, rfl, hpos, hlz, hc⟩
  · refine (clone_nil w).mono fun e w' ⟨he, hw⟩ => ?_
    subst he hw
    exact ⟨none, rfl, .inl rfl, Below.refl _ _⟩
  · refine (clone_empty x cap w).mono fun e w' ⟨v, he, hcl⟩ => ?_
    obtain ⟨ta, rfl, hc8, hb⟩ := hcl.cells (Nat.zero_le _)
    exact ⟨ta, he, .inl rfl, hb⟩
  · refine (clone_any b off len cap zs w hlt hlz hpos hc).mono fun e w' ⟨v, he, hcl⟩ => ?_
    obtain ⟨ta, rfl, hc8, hb⟩ := hcl.cells hlz
    exact ⟨ta, he, hc8, hb⟩

set_option maxHeartbeats 400000 in
theorem digitByte_any (d : Int) (up : Bool) (w : World) (h0 : 0 ≤ d) (h1 : d ≤ 15) :
    Calls Try.prog 11 #[.int .i32 d, .bool up] w fun e w' => ∃ c : Int, e = .returned (.int .u8 c) ∧ 0 ≤ c ∧ c ≤ 255 ∧ Hid (Plain.dv c = d) ∧ w' = w := by
  by_cases hd : d < 10
  · go_enter Try.func11, Try.ntmps11
    go_wp2
    go_ret
    exact ⟨_, rfl, by omega, by omega, by unfold Hid Plain.dv; rw [if_pos (by omega)]; omega, rfl⟩
  · cases up
    · go_enter Try.func11, Try.ntmps11
      go_wp2
      go_ret
      exact ⟨_, rfl, by omega, by omega, by unfold Hid Plain.dv; rw [if_neg (by omega), if_pos (by omega)]; omega, rfl⟩
    · go_enter Try.func11, Try.ntmps11
      go_wp2
      go_ret
      exact ⟨_, rfl, by omega, by omega, by unfold Hid Plain.dv; rw [if_neg (by omega), if_neg (by omega), if_pos (by omega)]; omega, rfl⟩

end Go.Proofs.Qxb6602197a
