import Derived.Test.Qxb6602197aHex
import Derived.OpenShut
namespace Go.Proofs.Qxb6602197a
open Go.RowKit
set_option linter.unusedVariables false

theorem info5 : (Try.prog.info? 5).map (fun i => (i.zero, i.size, i.bytes)) = some (some (.int .u8 0), 1, 1) := by kernel_rfl

/-- what the copy holds behind k rounds -/
def cp (zs : List Int) (len k : Nat) : List Value := (zs.take k).map (Value.int .u8) ++ List.replicate (len - k) (.int .u8 0)

theorem cp_len (zs : List Int) (len k : Nat) (hk : k ≤ len) (hz : len ≤ zs.length) : (cp zs len k).length = len := by
  unfold cp; simp; omega
theorem cp_zero (zs : List Int) (len : Nat) : cp zs len 0 = List.replicate len (.int .u8 0) := by unfold cp; simp
theorem cp_full (zs : List Int) (len : Nat) : cp zs len len = (zs.take len).map (Value.int .u8) := by unfold cp; simp
theorem cp_step (zs : List Int) (len k : Nat) (hk : k < len) (hz : len ≤ zs.length) : (cp zs len k).set k (.int .u8 (zs.getD k 0)) = cp zs len (k + 1) := by
  unfold cp
  have e1 : ((zs.take k).map (Value.int .u8)).length = k := by simp; omega
  rw [List.set_append_right _ _ (by omega), e1, Nat.sub_self]
  obtain ⟨m, hm⟩ : ∃ m, len - k = m + 1 := ⟨len - k - 1, by omega⟩
  rw [hm, List.replicate_succ, List.set_cons_zero]
  have e2 : len - (k + 1) = m := by omega
  rw [e2, List.take_succ_eq_append_getElem (by omega)]
  have e3 : zs.getD k 0 = zs[k]'(by omega) := by rw [List.getD_eq_getElem?_getD, List.getElem?_eq_getElem (by omega)]; rfl
  rw [e3]
  simp only [List.map_append, List.map_cons, List.map_nil, List.append_assoc, List.cons_append, List.nil_append]

theorem lt_of_cell {w : World} {b o : Nat} {v : Value} (h : w.cell? ⟨b, o, none⟩ = some v) : b < w.heap.size := by
  unfold World.cell? at h
  by_cases hb : b < w.heap.size
  · exact hb
  · rw [Array.getElem?_eq_none (by simpa using hb)] at h
    simp at h

/-- what cloneBytes leaves: a row of the call's own that holds what was there -/
def Cloned (w w' : World) (zs : List Int) (len : Nat) (v : Value) : Prop :=
  v = .slice (some ⟨w.heap.size, 0, none⟩) len len ∧ w'.ownsRow w.heap.size 5 1 v len ((zs.take len).map (Value.int .u8)) ∧ Below w.heap.size w w'

set_option maxHeartbeats 400000 in
theorem clone_nil (w : World) :
    Calls Try.prog 7 #[.slice none 0 0] w fun e w' => e = .returned (.slice none 0 0) ∧ w' = w := by
  have hn := fun w => Lib.run_eql_slice_nil (P := Try.prog) w 22 5 none 0 0 0 0 Try.underlying22
  go_enter Try.func7, Try.ntmps7
  go_wp2
  go_ret
  exact ⟨rfl, rfl⟩

set_option maxHeartbeats 400000 in
theorem clone_any (b off len cap : Nat) (zs : List Int) (w : World) (hlt : (len : Int) ≤ 1048576) (hlz : len ≤ zs.length) (hpos : 0 < len)
    (hc : ∀ j, j < zs.length → w.cell? ⟨b, off + j, none⟩ = some (.int .u8 (zs.getD j 0))) :
    Calls Try.prog 7 #[.slice (some ⟨b, off, none⟩) len cap] w fun e w' => ∃ v, e = .returned v ∧ Cloned w w' zs len v := by
  have hn := fun w => Lib.run_eql_slice_nil (P := Try.prog) w 22 5 (some ⟨b, off, none⟩) len cap 0 0 Try.underlying22
  have hbN : b < w.heap.size := lt_of_cell (hc 0 (by omega))
  obtain ⟨i0, hi, hz0, hz1, hz2⟩ := info_parts info5
  go_enter Try.func7, Try.ntmps7
  go_wp2_with (at_make; refine wpList_make_full _ rfl _ _ 22 rfl w.heap.size 5 i0 (.int .u8 0) 1 Try.underlying22 hi hz0 hz1 _ _ _ _ len rfl rfl rfl rfl (by rw [hz2]; omega) (by unfold maxLen; omega) (Nat.le_refl _) ?_; intro w1 hown1 hgrow1)
  have hs1 : w.heap.size < w1.heap.size := hown1.lt w.heap.size rfl |>.2
  have hown1' : w1.ownsRow w.heap.size 5 1 (.slice (some ⟨w.heap.size, 0, none⟩) len len) len (cp zs len 0) := by
    rw [cp_zero]
    have e : (madeCells (Value.int .u8 0).cells (len * 1)).toList = List.replicate len (.int .u8 0) := by
      rw [Nat.mul_one]; exact toList_madeCells_one _ _
    rw [e] at hown1; exact hown1
  have hbel1 : Below w.heap.size w w1 := (Below.refl _ _).grown hgrow1 (Nat.le_refl _) (fun k h => by cases h)
  clear hown1 hgrow1 hs1
  go_loopw [4] (fun i wr => ∃ k : Nat, k ≤ len ∧ i = .int .i64 k ∧ wr.ownsRow w.heap.size 5 1 (.slice (some ⟨w.heap.size, 0, none⟩) len len) len (cp zs len k) ∧ Below w.heap.size w wr) (fun i _ => len - (intOf i).toNat)
  case atStart => exact ⟨0, Nat.zero_le _, rfl, hown1', hbel1⟩
  case round =>
    obtain ⟨k, hk, rfl, hown, hnx⟩ := hrel
    clear hown1' hbel1
    by_cases hkl : k < len
    · have hcx : wr.cell? ⟨b, off + k, none⟩ = some (.int .u8 (zs.getD k 0)) := (hnx.cell (p := ⟨b, off + k, none⟩) hbN).trans (hc k (by omega))
      have hcl : k < (cp zs len k).length := by rw [cp_len zs len k hk hlz]; exact hkl
      have hcc : wr.cell? ⟨w.heap.size, k, none⟩ = some ((cp zs len k)[k]'hcl) := by
        rw [hown.cellAt k (by omega), List.getElem?_eq_getElem hcl]
      have hff : wr.frozen? ⟨w.heap.size, k, none⟩ = false := hown.frozenAt k
      have hst := hown.stored k (.int .u8 (zs.getD k 0))
      have R1 : (wr.setCell ⟨w.heap.size, k, none⟩ (.int .u8 (zs.getD k 0))).ownsRow w.heap.size 5 1 (.slice (some ⟨w.heap.size, 0, none⟩) len len) len (cp zs len (k + 1)) := by
        have := hst.1; rw [cp_step zs len k hkl hlz] at this; exact this
      have R2 : Below w.heap.size w (wr.setCell ⟨w.heap.size, k, none⟩ (.int .u8 (zs.getD k 0))) := hnx.setCell (Nat.le_refl _) _
      clear hst hown hnx hc
      generalize (cp zs len k)[k]'hcl = old at hcc
      generalize zs.getD k 0 = d at *
      go_wp2
      go_roundw
      case rel => exact ⟨k + 1, by omega, by go_num, R1, R2⟩
      case measure => simp [intOf]; omega
    · have hke : k = len := by omega
      subst hke
      rw [cp_full] at hown
      clear hc
      go_wp2
      go_ret
      exact ⟨_, rfl, rfl, hown, hnx⟩

end Go.Proofs.Qxb6602197a
