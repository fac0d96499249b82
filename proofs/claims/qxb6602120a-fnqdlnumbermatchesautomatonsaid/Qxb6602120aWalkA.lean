import Derived.Test.Qxb6602120aProg
import Derived.WalkKit
import Derived.WalkSpells
import Derived.WalkLawsBesides
import Derived.Test.Qxb6602120aPlain
namespace Go.Proofs.Qxb6602120a
open Go.RowKit

/-- a digit, over Int -/
def dgI (c : Int) : Bool := decide (48 ≤ c) && decide (c ≤ 57)

set_option maxHeartbeats 400000 in
theorem isDigit_any (c : Int) (w : World) :
    Calls Try.prog 17 #[.int .u8 c] w fun e w' => e = .returned (.bool (dgI c)) ∧ w' = w := by
  by_cases h1 : 48 ≤ c
  · by_cases h2 : c ≤ 57
    · go_enter Try.func17, Try.ntmps17
      go_wp2
      go_ret
      exact ⟨by simp [dgI, h1, h2], rfl⟩
    · go_enter Try.func17, Try.ntmps17
      go_wp2
      go_ret
      exact ⟨by simp [dgI, h1]; omega, rfl⟩
  · go_enter Try.func17, Try.ntmps17
    go_wp2
    go_ret
    exact ⟨by simp [dgI]; omega, rfl⟩

/-- one move of the automaton, over Int -/
def stepI (q : Int) (c : Int) : Int :=
  if q = 0 then (if c = 45 then 1 else if dgI c then 2 else if c = 46 then 3 else -1)
  else if q = 1 then (if dgI c then 2 else if c = 46 then 3 else -1)
  else if q = 2 then (if dgI c then 2 else if c = 46 then 3 else if c = 101 ∨ c = 69 then 5 else -1)
  else if q = 3 then (if dgI c then 4 else -1)
  else if q = 4 then (if dgI c then 4 else if c = 101 ∨ c = 69 then 5 else -1)
  else if q = 5 then (if c = 43 ∨ c = 45 then 6 else if dgI c then 7 else -1)
  else if q = 6 then (if dgI c then 7 else -1)
  else if q = 7 then (if dgI c then 7 else -1)
  else -1

theorem ret_int {k : IntKind} {a b : Int} (h : a = b) : Ending.returned (.int k a) = .returned (.int k b) := by rw [h]

set_option maxHeartbeats 400000 in
theorem step0 (c : Int) (w : World) :
    Calls Try.prog 30 #[.int .i64 0, .int .u8 c] w fun e w' => e = .returned (.int .i64 (stepI 0 c)) ∧ w' = w := by
  go_enter Try.func30, Try.ntmps30
  go_wp2_with (go_at_call 17; refine (isDigit_any _ _).mono ?_; rintro e w' ⟨rfl, rfl⟩)
  all_goals
    go_ret
    exact ⟨ret_int (by simp_all [stepI]), rfl⟩

set_option maxHeartbeats 400000 in
theorem step1 (c : Int) (w : World) :
    Calls Try.prog 30 #[.int .i64 1, .int .u8 c] w fun e w' => e = .returned (.int .i64 (stepI 1 c)) ∧ w' = w := by
  go_enter Try.func30, Try.ntmps30
  go_wp2_with (go_at_call 17; refine (isDigit_any _ _).mono ?_; rintro e w' ⟨rfl, rfl⟩)
  all_goals
    go_ret
    exact ⟨ret_int (by simp_all [stepI]), rfl⟩

set_option maxHeartbeats 400000 in
theorem step2 (c : Int) (w : World) :
    Calls Try.prog 30 #[.int .i64 2, .int .u8 c] w fun e w' => e = .returned (.int .i64 (stepI 2 c)) ∧ w' = w := by
  go_enter Try.func30, Try.ntmps30
  go_wp2_with (go_at_call 17; refine (isDigit_any _ _).mono ?_; rintro e w' ⟨rfl, rfl⟩)
  all_goals
    go_ret
    exact ⟨ret_int (by simp_all [stepI]), rfl⟩

set_option maxHeartbeats 400000 in
theorem step3 (c : Int) (w : World) :
    Calls Try.prog 30 #[.int .i64 3, .int .u8 c] w fun e w' => e = .returned (.int .i64 (stepI 3 c)) ∧ w' = w := by
  go_enter Try.func30, Try.ntmps30
  go_wp2_with (go_at_call 17; refine (isDigit_any _ _).mono ?_; rintro e w' ⟨rfl, rfl⟩)
  all_goals
    go_ret
    exact ⟨ret_int (by simp_all [stepI]), rfl⟩

set_option maxHeartbeats 400000 in
theorem step4 (c : Int) (w : World) :
    Calls Try.prog 30 #[.int .i64 4, .int .u8 c] w fun e w' => e = .returned (.int .i64 (stepI 4 c)) ∧ w' = w := by
  go_enter Try.func30, Try.ntmps30
  go_wp2_with (go_at_call 17; refine (isDigit_any _ _).mono ?_; rintro e w' ⟨rfl, rfl⟩)
  all_goals
    go_ret
    exact ⟨ret_int (by simp_all [stepI]), rfl⟩

set_option maxHeartbeats 400000 in
theorem step5 (c : Int) (w : World) :
    Calls Try.prog 30 #[.int .i64 5, .int .u8 c] w fun e w' => e = .returned (.int .i64 (stepI 5 c)) ∧ w' = w := by
  go_enter Try.func30, Try.ntmps30
  go_wp2_with (go_at_call 17; refine (isDigit_any _ _).mono ?_; rintro e w' ⟨rfl, rfl⟩)
  all_goals
    go_ret
    exact ⟨ret_int (by simp_all [stepI]), rfl⟩

set_option maxHeartbeats 400000 in
theorem step6 (c : Int) (w : World) :
    Calls Try.prog 30 #[.int .i64 6, .int .u8 c] w fun e w' => e = .returned (.int .i64 (stepI 6 c)) ∧ w' = w := by
  go_enter Try.func30, Try.ntmps30
  go_wp2_with (go_at_call 17; refine (isDigit_any _ _).mono ?_; rintro e w' ⟨rfl, rfl⟩)
  all_goals
    go_ret
    exact ⟨ret_int (by simp_all [stepI]), rfl⟩

set_option maxHeartbeats 400000 in
theorem step7 (c : Int) (w : World) :
    Calls Try.prog 30 #[.int .i64 7, .int .u8 c] w fun e w' => e = .returned (.int .i64 (stepI 7 c)) ∧ w' = w := by
  go_enter Try.func30, Try.ntmps30
  go_wp2_with (go_at_call 17; refine (isDigit_any _ _).mono ?_; rintro e w' ⟨rfl, rfl⟩)
  all_goals
    go_ret
    exact ⟨ret_int (by simp_all [stepI]), rfl⟩

theorem step_any (q c : Int) (w : World) (h0 : 0 ≤ q) (h7 : q ≤ 7) :
    Calls Try.prog 30 #[.int .i64 q, .int .u8 c] w fun e w' => e = .returned (.int .i64 (stepI q c)) ∧ w' = w := by
  have h : q = 0 ∨ q = 1 ∨ q = 2 ∨ q = 3 ∨ q = 4 ∨ q = 5 ∨ q = 6 ∨ q = 7 := by omega
  rcases h with h | h | h | h | h | h | h | h
  · subst h; exact step0 c w
  · subst h; exact step1 c w
  · subst h; exact step2 c w
  · subst h; exact step3 c w
  · subst h; exact step4 c w
  · subst h; exact step5 c w
  · subst h; exact step6 c w
  · subst h; exact step7 c w

theorem stepI_range (q c : Int) : -1 ≤ stepI q c ∧ stepI q c ≤ 7 := by
  unfold stepI
  repeat' split
  all_goals omega

theorem dgI_dg (c : UInt8) : dgI (c.toNat : Int) = Plain.dg c := rfl

theorem stepI_step (q : Int) (c : UInt8) : stepI q (c.toNat : Int) = Plain.step q c := by
  unfold stepI Plain.step
  rw [dgI_dg]
  have e (n : Nat) : ((c.toNat : Int) = (n : Int)) = (c.toNat = n) := by simp; omega
  have e43 := e 43
  have e45 := e 45
  have e46 := e 46
  have e69 := e 69
  have e101 := e 101
  simp only [Int.cast_ofNat_Int] at e43 e45 e46 e69 e101
  simp only [e43, e45, e46, e69, e101]

end Go.Proofs.Qxb6602120a
