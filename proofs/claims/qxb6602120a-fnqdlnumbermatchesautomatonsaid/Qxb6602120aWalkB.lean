import Derived.Test.Qxb6602120aWalkA
namespace Go.Proofs.Qxb6602120a
open Go.RowKit

theorem drop_cons (s : ByteArray) (k : Nat) (h : k < s.size) : s.data.toList.drop k = s[k] :: s.data.toList.drop (k + 1) := by
  rw [List.drop_eq_getElem_cons (by simpa using h)]; rfl

theorem acc_step (q : Int) (c : UInt8) (l : List UInt8) (h : 0 ≤ stepI q (c.toNat : Int)) : Plain.acc q (c :: l) = Plain.acc (stepI q (c.toNat : Int)) l := by
  rw [Plain.acc, ← stepI_step, if_neg (by omega)]

theorem acc_dead (q : Int) (c : UInt8) (l : List UInt8) (h : stepI q (c.toNat : Int) < 0) : Plain.acc q (c :: l) = false := by
  rw [Plain.acc, ← stepI_step, if_pos h]

theorem ret_bool {a b : Bool} (h : a = b) : Ending.returned (.bool a) = .returned (.bool b) := by rw [h]

set_option maxHeartbeats 400000 in
theorem accepts_any (s : ByteArray) (w : World) (hs : s.size ≤ maxLen) :
    Calls Try.prog 14 #[.string s] w fun e w' => e = .returned (.bool (Plain.acc 0 s.data.toList)) ∧ w' = w := by
  unfold maxLen at hs
  go_enter Try.func14, Try.ntmps14
  go_wp2
  go_loop [3, 4] (fun st i => ∃ (k : Nat) (q : Int), k ≤ s.size ∧ i = .int .i64 k ∧ st = .int .i64 q ∧ 0 ≤ q ∧ q ≤ 7 ∧ Hid (Plain.acc 0 s.data.toList = Plain.acc q (s.data.toList.drop k))) (fun _ i => s.size - (intOf i).toNat)
  case atStart => exact ⟨0, 0, Nat.zero_le _, rfl, rfl, by omega, by omega, by simp [Hid]⟩
  case round =>
    obtain ⟨k, q, hk, rfl, rfl, hq0, hq7, HA⟩ := hrel
    by_cases hlt : k < s.size
    · have hr := stepI_range q (s[k].toNat : Int)
      by_cases hd : stepI q (s[k].toNat : Int) < 0
      · go_wp2_with (go_at_call 30; refine (step_any _ _ _ (by omega) (by omega)).mono ?_; rintro e w' ⟨rfl, rfl⟩)
        go_ret
        exact ⟨ret_bool (by rw [HA.out, drop_cons s k hlt, acc_dead _ _ _ hd]), rfl⟩
      · go_wp2_with (go_at_call 30; refine (step_any _ _ _ (by omega) (by omega)).mono ?_; rintro e w' ⟨rfl, rfl⟩)
        go_round
        case rel => exact ⟨k + 1, stepI q (s[k].toNat : Int), by omega, by go_num, rfl, by omega, by omega, by unfold Hid; rw [HA.out, drop_cons s k hlt, acc_step _ _ _ (by omega)]⟩
        case measure => simp [intOf]; omega
    · have he : Plain.acc 0 s.data.toList = (q == 2 || q == 4 || q == 7) := by
        rw [HA.out, List.drop_of_length_le (by simp; omega)]; rfl
      have HE : Hid (Plain.acc 0 s.data.toList = (q == 2 || q == 4 || q == 7)) := he
      clear he HA
      go_wp2
      all_goals
        go_ret
        exact ⟨ret_bool (by rw [HE.out]; try simp_all), rfl⟩

theorem da_le (l : List UInt8) : Plain.da l ≤ l.length := by
  induction l with
  | nil => exact Nat.le_refl _
  | cons c l ih => unfold Plain.da; split <;> simp <;> omega

set_option maxHeartbeats 400000 in
theorem digits_any (s : ByteArray) (w : World) (hs : s.size ≤ maxLen) :
    Calls Try.prog 35 #[.string s] w fun e w' => e = .returned (.int .i64 (Plain.da s.data.toList)) ∧ w' = w := by
  unfold maxLen at hs
  go_enter Try.func35, Try.ntmps35
  go_wp2
  go_loop [3] (fun i => ∃ (k : Nat), k ≤ s.size ∧ i = .int .i64 k ∧ Hid (Plain.da s.data.toList = k + Plain.da (s.data.toList.drop k))) (fun i => s.size - (intOf i).toNat)
  case atStart => exact ⟨0, Nat.zero_le _, rfl, by simp [Hid]⟩
  case round =>
    obtain ⟨k, hk, rfl, HA⟩ := hrel
    by_cases hlt : k < s.size
    · have e := drop_cons s k hlt
      by_cases h1 : 48 ≤ (s[k].toNat : Int)
      · by_cases h2 : (s[k].toNat : Int) ≤ 57
        · have HB : Hid (Plain.da s.data.toList = (k + 1) + Plain.da (s.data.toList.drop (k + 1))) := by
            unfold Hid; rw [HA.out, e]; simp [Plain.da, Plain.dg, h1, h2]; omega
          clear HA e
          go_wp2
          go_round
          case rel => exact ⟨k + 1, by omega, by go_num, HB⟩
          case measure => simp [intOf]; omega
        · have HB : Hid (Plain.da s.data.toList = k) := by
            unfold Hid; rw [HA.out, e]; simp [Plain.da, Plain.dg]; omega
          clear HA e
          go_wp2
          go_ret
          exact ⟨ret_int (by rw [HB.out]), rfl⟩
      · have HB : Hid (Plain.da s.data.toList = k) := by
          unfold Hid; rw [HA.out, e]; simp [Plain.da, Plain.dg]; omega
        clear HA e
        go_wp2
        go_ret
        exact ⟨ret_int (by rw [HB.out]), rfl⟩
    · have HB : Hid (Plain.da s.data.toList = k) := by
        unfold Hid; rw [HA.out, List.drop_of_length_le (by simp; omega)]; rfl
      clear HA
      go_wp2
      go_ret
      exact ⟨ret_int (by rw [HB.out]), rfl⟩

end Go.Proofs.Qxb6602120a
