import Derived.Test.Qxb6602197aModA
namespace Go.Proofs.Qxb6602197a
open Go.RowKit
set_option linter.unusedVariables false

set_option maxHeartbeats 400000 in
theorem model_small (a : Option Addr) (len cap : Nat) (w : World) (h : (len : Int) < 4) :
    Calls Try.prog 9 #[.slice a len cap] w fun e w' => e = .returned (.int .i32 (-1)) ∧ w' = w := by
  go_enter Try.func9, Try.ntmps9
  go_wp2_with fail
  go_ret
  exact ⟨rfl, rfl⟩

/-- what is still to come behind k rounds -/
def rest (z0 z1 z2 z3 : Int) : Nat → List (Int × Int)
  | 0 => [(z0, 4096), (z1, 256), (z2, 16), (z3, 1)]
  | 1 => [(z1, 256), (z2, 16), (z3, 1)]
  | 2 => [(z2, 16), (z3, 1)]
  | 3 => [(z3, 1)]
  | _ => []
/-- how great the sum may be behind k rounds -/
def top : Nat → Int
  | 0 => 0
  | 1 => 61440
  | 2 => 65280
  | 3 => 65520
  | _ => 65535

set_option maxHeartbeats 1000000 in
theorem model_any (g len cap : Nat) (z0 z1 z2 z3 : Int) (w : World) (h4 : (4 : Int) ≤ len) (hcap : (len : Int) ≤ 9223372036854775807)
    (c0 : w.cell? ⟨g, 0, none⟩ = some (.int .u8 z0)) (c1 : w.cell? ⟨g, 1, none⟩ = some (.int .u8 z1)) (c2 : w.cell? ⟨g, 2, none⟩ = some (.int .u8 z2)) (c3 : w.cell? ⟨g, 3, none⟩ = some (.int .u8 z3))
    (b0 : 0 ≤ z0 ∧ z0 ≤ 255) (b1 : 0 ≤ z1 ∧ z1 ≤ 255) (b2 : 0 ≤ z2 ∧ z2 ≤ 255) (b3 : 0 ≤ z3 ∧ z3 ≤ 255) :
    Calls Try.prog 9 #[.slice (some ⟨g, 0, none⟩) len cap] w fun e w' => e = .returned (.int .i32 (Plain.sm [(z0, 4096), (z1, 256), (z2, 16), (z3, 1)] 0)) ∧ w' = w := by
  go_enter Try.func9, Try.ntmps9
  go_wp2_with fail
  go_loop [3, 4, 5] (fun sv i _ => ∃ (k : Nat) (s : Int), k ≤ 4 ∧ i = .int .i64 k ∧ sv = .int .i32 s ∧ 0 ≤ s ∧ s ≤ top k ∧ Hid (Plain.sm [(z0, 4096), (z1, 256), (z2, 16), (z3, 1)] 0 = Plain.sm (rest z0 z1 z2 z3 k) s)) (fun _ i _ => 4 - (intOf i).toNat)
  case atStart => exact ⟨0, 0, by omega, rfl, rfl, by omega, by decide, rfl⟩
  case round =>
    obtain ⟨k, s, hk, rfl, rfl, hs0, hs1, H⟩ := hrel
    by_cases hk4 : k < 4
    · rcases (show k = 0 ∨ k = 1 ∨ k = 2 ∨ k = 3 by omega) with rfl | rfl | rfl | rfl
      · simp only [top] at hs1
        have hr := Plain.dv_range z0
        by_cases hd : Plain.dv z0 < 0
        · have HE : Hid (-1 = Plain.sm [(z0, 4096), (z1, 256), (z2, 16), (z3, 1)] 0) := by
            unfold Hid; rw [H.out]; simp only [rest, Plain.sm]; rw [if_pos hd]
          clear H
          go_wp2_with (go_at_call 14; refine (digitValue_any _ _ (by omega) (by omega)).mono ?_; rintro e w' ⟨rfl, rfl⟩)
          go_ret
          exact ⟨ret_int HE.out, rfl⟩
        · have HE : Hid (Plain.sm [(z0, 4096), (z1, 256), (z2, 16), (z3, 1)] 0 = Plain.sm (rest z0 z1 z2 z3 (0 + 1)) (s + Plain.dv z0 * 4096)) := by
            unfold Hid; rw [H.out]; simp only [rest, Plain.sm]; rw [if_neg hd]
          clear H
          have hw : wt ((0 : Nat) : Int) = 4096 := rfl
          have hw' : wt 0 = 4096 := rfl
          go_wp2_with (first | (go_at_call 14; refine (digitValue_any _ _ (by omega) (by omega)).mono ?_; rintro e w' ⟨rfl, rfl⟩) | (go_at_call 15; refine (weight_any _ _).mono ?_; rintro e w' ⟨rfl, rfl⟩))
          go_round
          case rel => exact ⟨0 + 1, _, by omega, rfl, rfl, by omega, by simp only [top]; omega, by first | exact HE | (rw [Int.mul_one] at HE; exact HE)⟩
          case measure => simp [intOf]
      · simp only [top] at hs1
        have hr := Plain.dv_range z1
        by_cases hd : Plain.dv z1 < 0
        · have HE : Hid (-1 = Plain.sm [(z0, 4096), (z1, 256), (z2, 16), (z3, 1)] 0) := by
            unfold Hid; rw [H.out]; simp only [rest, Plain.sm]; rw [if_pos hd]
          clear H
          go_wp2_with (go_at_call 14; refine (digitValue_any _ _ (by omega) (by omega)).mono ?_; rintro e w' ⟨rfl, rfl⟩)
          go_ret
          exact ⟨ret_int HE.out, rfl⟩
        · have HE : Hid (Plain.sm [(z0, 4096), (z1, 256), (z2, 16), (z3, 1)] 0 = Plain.sm (rest z0 z1 z2 z3 (1 + 1)) (s + Plain.dv z1 * 256)) := by
            unfold Hid; rw [H.out]; simp only [rest, Plain.sm]; rw [if_neg hd]
          clear H
          have hw : wt ((1 : Nat) : Int) = 256 := rfl
          have hw' : wt 1 = 256 := rfl
          go_wp2_with (first | (go_at_call 14; refine (digitValue_any _ _ (by omega) (by omega)).mono ?_; rintro e w' ⟨rfl, rfl⟩) | (go_at_call 15; refine (weight_any _ _).mono ?_; rintro e w' ⟨rfl, rfl⟩))
          go_round
          case rel => exact ⟨1 + 1, _, by omega, rfl, rfl, by omega, by simp only [top]; omega, by first | exact HE | (rw [Int.mul_one] at HE; exact HE)⟩
          case measure => simp [intOf]
      · simp only [top] at hs1
        have hr := Plain.dv_range z2
        by_cases hd : Plain.dv z2 < 0
        · have HE : Hid (-1 = Plain.sm [(z0, 4096), (z1, 256), (z2, 16), (z3, 1)] 0) := by
            unfold Hid; rw [H.out]; simp only [rest, Plain.sm]; rw [if_pos hd]
          clear H
          go_wp2_with (go_at_call 14; refine (digitValue_any _ _ (by omega) (by omega)).mono ?_; rintro e w' ⟨rfl, rfl⟩)
          go_ret
          exact ⟨ret_int HE.out, rfl⟩
        · have HE : Hid (Plain.sm [(z0, 4096), (z1, 256), (z2, 16), (z3, 1)] 0 = Plain.sm (rest z0 z1 z2 z3 (2 + 1)) (s + Plain.dv z2 * 16)) := by
            unfold Hid; rw [H.out]; simp only [rest, Plain.sm]; rw [if_neg hd]
          clear H
          have hw : wt ((2 : Nat) : Int) = 16 := rfl
          have hw' : wt 2 = 16 := rfl
          go_wp2_with (first | (go_at_call 14; refine (digitValue_any _ _ (by omega) (by omega)).mono ?_; rintro e w' ⟨rfl, rfl⟩) | (go_at_call 15; refine (weight_any _ _).mono ?_; rintro e w' ⟨rfl, rfl⟩))
          go_round
          case rel => exact ⟨2 + 1, _, by omega, rfl, rfl, by omega, by simp only [top]; omega, by first | exact HE | (rw [Int.mul_one] at HE; exact HE)⟩
          case measure => simp [intOf]
      · simp only [top] at hs1
        have hr := Plain.dv_range z3
        by_cases hd : Plain.dv z3 < 0
        · have HE : Hid (-1 = Plain.sm [(z0, 4096), (z1, 256), (z2, 16), (z3, 1)] 0) := by
            unfold Hid; rw [H.out]; simp only [rest, Plain.sm]; rw [if_pos hd]
          clear H
          go_wp2_with (go_at_call 14; refine (digitValue_any _ _ (by omega) (by omega)).mono ?_; rintro e w' ⟨rfl, rfl⟩)
          go_ret
          exact ⟨ret_int HE.out, rfl⟩
        · have HE : Hid (Plain.sm [(z0, 4096), (z1, 256), (z2, 16), (z3, 1)] 0 = Plain.sm (rest z0 z1 z2 z3 (3 + 1)) (s + Plain.dv z3 * 1)) := by
            unfold Hid; rw [H.out]; simp only [rest, Plain.sm]; rw [if_neg hd]
          clear H
          have hw : wt ((3 : Nat) : Int) = 1 := rfl
          have hw' : wt 3 = 1 := rfl
          go_wp2_with (first | (go_at_call 14; refine (digitValue_any _ _ (by omega) (by omega)).mono ?_; rintro e w' ⟨rfl, rfl⟩) | (go_at_call 15; refine (weight_any _ _).mono ?_; rintro e w' ⟨rfl, rfl⟩))
          go_round
          case rel => exact ⟨3 + 1, _, by omega, rfl, rfl, by omega, by simp only [top]; omega, by first | exact HE | (rw [Int.mul_one] at HE; exact HE)⟩
          case measure => simp [intOf]
    · have hke : k = 4 := by omega
      subst hke
      have HE : Hid (s = Plain.sm [(z0, 4096), (z1, 256), (z2, 16), (z3, 1)] 0) := by
        unfold Hid; rw [H.out]; rfl
      clear H
      go_wp2_with fail
      go_ret
      exact ⟨ret_int HE.out, rfl⟩

end Go.Proofs.Qxb6602197a
