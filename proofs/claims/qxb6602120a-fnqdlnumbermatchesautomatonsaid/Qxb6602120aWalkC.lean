import Derived.Test.Qxb6602120aWalkB
namespace Go.Proofs.Qxb6602120a
open Go.RowKit
set_option linter.unusedVariables false

theorem ex_toList (s : ByteArray) (a b : Nat) : (s.extract a b).toList = (s.data.toList.drop a).take (b - a) := by
  obtain ⟨⟨l⟩⟩ := s
  rw [ByteArray.extract_mk]
  simp

theorem ex_data (s : ByteArray) (a b : Nat) : (s.extract a b).data.toList = (s.data.toList.drop a).take (b - a) := by
  obtain ⟨⟨l⟩⟩ := s
  rw [ByteArray.extract_mk]

theorem ex_end (s : ByteArray) (a : Nat) : (s.extract a s.size).data.toList = s.data.toList.drop a := by
  rw [ex_data, List.take_of_length_le]
  simp

theorem len_size (s : ByteArray) : s.data.toList.length = s.size := by simp

/-- the test of HasPrefix -/
def hpB (s p : ByteArray) : Bool := decide (p.size ≤ s.size) && ((s.extract 0 p.size).toList == p.toList)

set_option maxHeartbeats 400000 in
theorem hasPrefix_any (s p : ByteArray) (w : World) (hs : s.size ≤ maxLen) (hp : p.size ≤ maxLen) :
    Calls Try.prog 43 #[.string s, .string p] w fun e w' => e = .returned (.bool (hpB s p)) ∧ w' = w := by
  unfold maxLen at hs hp
  by_cases h : p.size ≤ s.size
  · go_enter Try.func43, Try.ntmps43
    go_wp2
    go_ret
    exact ⟨ret_bool (by simp [hpB, h]), rfl⟩
  · go_enter Try.func43, Try.ntmps43
    go_wp2
    go_ret
    exact ⟨ret_bool (by simp [hpB]; omega), rfl⟩

/-- s without the prefix p -/
def tpS (s p : ByteArray) : ByteArray := if hpB s p then s.extract p.size s.size else s

theorem ret_str {a b : ByteArray} (h : a = b) : Ending.returned (.string a) = .returned (.string b) := by rw [h]
theorem ret_str2 {a b : ByteArray} {x y : Bool} (h : a = b) (g : x = y) : Ending.returned (.tuple #[.string a, .bool x]) = .returned (.tuple #[.string b, .bool y]) := by rw [h, g]

theorem hpB_le {s p : ByteArray} (h : hpB s p = true) : p.size ≤ s.size := by
  unfold hpB at h; simp at h; exact h.1

set_option maxHeartbeats 400000 in
theorem trim39_any (s p : ByteArray) (w : World) (hs : s.size ≤ maxLen) (hp : p.size ≤ maxLen) :
    Calls Try.prog 39 #[.string s, .string p] w fun e w' => e = .returned (.string (tpS s p)) ∧ w' = w := by
  by_cases h : hpB s p = true
  · have hle := hpB_le h
    have HF : Hid (tpS s p = s.extract p.size s.size) := by unfold Hid; rw [tpS, if_pos h]
    have hs' := hs
    have hp' := hp
    unfold maxLen at hs' hp'
    go_enter Try.func39, Try.ntmps39
    go_wp2_with (go_at_call 43; refine (hasPrefix_any _ _ _ hs hp).mono ?_; rintro e w' ⟨rfl, rfl⟩)
    go_ret
    exact ⟨ret_str (by rw [HF.out]), rfl⟩
  · have HF : Hid (tpS s p = s) := by unfold Hid; rw [tpS, if_neg h]
    have h' : hpB s p = false := by simpa using h
    clear h
    go_enter Try.func39, Try.ntmps39
    go_wp2_with (go_at_call 43; refine (hasPrefix_any _ _ _ hs hp).mono ?_; rintro e w' ⟨rfl, rfl⟩)
    go_ret
    exact ⟨ret_str (by rw [HF.out]), rfl⟩

set_option maxHeartbeats 400000 in
theorem trim34_any (s p : ByteArray) (w : World) (hs : s.size ≤ maxLen) (hp : p.size ≤ maxLen) :
    Calls Try.prog 34 #[.string s, .string p] w fun e w' => e = .returned (.string (tpS s p)) ∧ w' = w := by
  go_enter Try.func34, Try.ntmps34
  go_wp2_with (go_at_call 39; refine (trim39_any _ _ _ hs hp).mono ?_; rintro e w' ⟨rfl, rfl⟩)
  go_ret
  exact ⟨rfl, rfl⟩

set_option maxHeartbeats 400000 in
theorem cut40_any (s p : ByteArray) (w : World) (hs : s.size ≤ maxLen) (hp : p.size ≤ maxLen) :
    Calls Try.prog 40 #[.string s, .string p] w fun e w' => e = .returned (.tuple #[.string (tpS s p), .bool (hpB s p)]) ∧ w' = w := by
  by_cases h : hpB s p = true
  · have hle := hpB_le h
    have HF : Hid (tpS s p = s.extract p.size s.size) := by unfold Hid; rw [tpS, if_pos h]
    have hs' := hs
    have hp' := hp
    unfold maxLen at hs' hp'
    go_enter Try.func40, Try.ntmps40
    go_wp2_with (go_at_call 43; refine (hasPrefix_any _ _ _ hs hp).mono ?_; rintro e w' ⟨rfl, rfl⟩)
    go_ret2
    exact ⟨ret_str2 (by rw [HF.out]) h.symm, rfl⟩
  · have HF : Hid (tpS s p = s) := by unfold Hid; rw [tpS, if_neg h]
    have h' : hpB s p = false := by simpa using h
    clear h
    go_enter Try.func40, Try.ntmps40
    go_wp2_with (go_at_call 43; refine (hasPrefix_any _ _ _ hs hp).mono ?_; rintro e w' ⟨rfl, rfl⟩)
    go_ret2
    exact ⟨ret_str2 (by rw [HF.out]) h'.symm, rfl⟩

set_option maxHeartbeats 400000 in
theorem cut36_any (s p : ByteArray) (w : World) (hs : s.size ≤ maxLen) (hp : p.size ≤ maxLen) :
    Calls Try.prog 36 #[.string s, .string p] w fun e w' => e = .returned (.tuple #[.string (tpS s p), .bool (hpB s p)]) ∧ w' = w := by
  go_enter Try.func36, Try.ntmps36
  go_wp2_with (go_at_call 40; refine (cut40_any _ _ _ hs hp).mono ?_; rintro e w' ⟨rfl, rfl⟩)
  go_ret2
  exact ⟨rfl, rfl⟩

theorem hpB_one (s : ByteArray) (b : UInt8) : hpB s ⟨#[b]⟩ = match s.data.toList with | c :: _ => c == b | [] => false := by
  have e : (⟨#[b]⟩ : ByteArray).size = 1 := rfl
  have e2 : (⟨#[b]⟩ : ByteArray).toList = [b] := by rw [ByteArray.toList_eq]
  unfold hpB
  rw [e, ex_toList, e2, ← len_size s]
  cases h : s.data.toList with
  | nil => simp
  | cons c r => simp

theorem tpS_one (s : ByteArray) (b : UInt8) : (tpS s ⟨#[b]⟩).data.toList = match s.data.toList with | c :: r => if c = b then r else c :: r | [] => [] := by
  have e : (⟨#[b]⟩ : ByteArray).size = 1 := rfl
  unfold tpS
  rw [hpB_one, e]
  cases h : s.data.toList with
  | nil => simp [h]
  | cons c r =>
    by_cases hc : c = b
    · simp only [hc, beq_self_eq_true, if_true]; rw [ex_end, h]; rfl
    · simp [hc, h]

theorem tpS_le (s p : ByteArray) : (tpS s p).size ≤ s.size := by
  unfold tpS
  split
  · rw [← len_size, ex_data]; simp
  · exact Nat.le_refl _

end Go.Proofs.Qxb6602120a
