import Derived.Test.Qxb6602197aEncA
namespace Go.Proofs.Qxb6602197a
open Go.RowKit
set_option linter.unusedVariables false

/-- c is none of the first k digits, in either case -/
def nd (k : Nat) (c : Int) : Prop := (c < 48 ∨ 48 + ((min k 10 : Nat) : Int) ≤ c) ∧ (c < 97 ∨ 97 + ((k - 10 : Nat) : Int) ≤ c) ∧ (c < 65 ∨ 65 + ((k - 10 : Nat) : Int) ≤ c)

/-- the lower and the upper alphabet at k -/
def lo (k : Nat) : Int := if k < 10 then 48 + k else 87 + k
def up (k : Nat) : Int := if k < 10 then 48 + k else 55 + k
theorem lo_all : ∀ k : Fin 16, (((⟨#[48, 49, 50, 51, 52, 53, 54, 55, 56, 57, 97, 98, 99, 100, 101, 102]⟩ : ByteArray)[k.val]'k.isLt).toNat : Int) = lo k.val := by decide
theorem up_all : ∀ k : Fin 16, (((⟨#[48, 49, 50, 51, 52, 53, 54, 55, 56, 57, 65, 66, 67, 68, 69, 70]⟩ : ByteArray)[k.val]'k.isLt).toNat : Int) = up k.val := by decide

theorem hit_lo {k : Nat} {c : Int} (hk : k < 16) (h : lo k = c) : (k : Int) = Plain.dv c := by
  unfold lo at h
  unfold Plain.dv
  split at h
  · rw [if_pos (by omega)]; omega
  · rw [if_neg (by omega), if_pos (by omega)]; omega
theorem hit_up {k : Nat} {c : Int} (hk : k < 16) (h : up k = c) : (k : Int) = Plain.dv c := by
  unfold up at h
  unfold Plain.dv
  split at h
  · rw [if_pos (by omega)]; omega
  · rw [if_neg (by omega), if_neg (by omega), if_pos (by omega)]; omega
theorem nd_step {k : Nat} {c : Int} (hk : k < 16) (hn : nd k c) (h : ¬ lo k = c) (h' : ¬ up k = c) : nd (k + 1) c := by
  unfold lo at h
  unfold up at h'
  unfold nd at hn ⊢
  split at h
  · rename_i h10
    rw [if_pos h10] at h'
    omega
  · rename_i h10
    rw [if_neg h10] at h'
    omega
theorem nd_end {c : Int} (hn : nd 16 c) : -1 = Plain.dv c := by
  unfold nd at hn
  unfold Plain.dv
  rw [if_neg (by omega), if_neg (by omega), if_neg (by omega)]

set_option maxHeartbeats 400000 in
theorem digitValue_any (c : Int) (w : World) (h0 : 0 ≤ c) (h1 : c ≤ 255) :
    Calls Try.prog 14 #[.int .u8 c] w fun e w' => e = .returned (.int .i32 (Plain.dv c)) ∧ w' = w := by
  go_enter Try.func14, Try.ntmps14
  go_wp2
  go_loop [3] (fun i => ∃ k : Nat, k ≤ 16 ∧ i = .int .i64 k ∧ Hid (nd k c)) (fun i => 16 - (intOf i).toNat)
  case atStart => exact ⟨0, by omega, rfl, by unfold Hid nd; omega⟩
  case round =>
    obtain ⟨k, hk, rfl, hn⟩ := hrel
    by_cases hk4 : k < 16
    · have hlo := lo_all ⟨k, hk4⟩
      have hup := up_all ⟨k, hk4⟩
      dsimp only at hlo hup
      have HL : Hid (lo k = c → (k : Int) = Plain.dv c) := hit_lo hk4
      have HU : Hid (up k = c → (k : Int) = Plain.dv c) := hit_up hk4
      have HN : Hid (¬ lo k = c → ¬ up k = c → nd (k + 1) c) := nd_step hk4 hn.out
      generalize lo k = L at *
      generalize up k = U at *
      by_cases hL : (L == c) = true
      · have e : (k : Int) = Plain.dv c := HL.out (by simpa using hL)
        have E : Hid ((k : Int) = Plain.dv c) := e
        clear e HL HU HN
        go_wp2
        go_ret
        exact ⟨ret_int E.out, rfl⟩
      · have hL' : (L == c) = false := by simpa using hL
        clear hL HL
        by_cases hU : (U == c) = true
        · have e : (k : Int) = Plain.dv c := HU.out (by simpa using hU)
          have E : Hid ((k : Int) = Plain.dv c) := e
          clear e HU HN
          go_wp2
          go_ret
          exact ⟨ret_int E.out, rfl⟩
        · have hU' : (U == c) = false := by simpa using hU
          have HM : Hid (nd (k + 1) c) := HN.out (by simpa using hL') (by simpa using hU')
          clear hU HN HU
          go_wp2
          go_round
          case rel => exact ⟨k + 1, by omega, by go_num, HM⟩
          case measure => simp [intOf]; omega
    · have hke : k = 16 := by omega
      subst hke
      have HE : Hid (-1 = Plain.dv c) := nd_end hn.out
      clear hn
      go_wp2
      go_ret
      exact ⟨ret_int HE.out, rfl⟩

/-- the weight of digit k -/
def wt (k : Int) : Int := if k = 0 then 4096 else if k = 1 then 256 else if k = 2 then 16 else 1

set_option maxHeartbeats 400000 in
theorem weight_any (k : Int) (w : World) :
    Calls Try.prog 15 #[.int .i64 k] w fun e w' => e = .returned (.int .i32 (wt k)) ∧ w' = w := by
  go_enter Try.func15, Try.ntmps15
  go_wp2
  all_goals
    go_ret
    exact ⟨ret_int (by simp_all [wt]), rfl⟩

end Go.Proofs.Qxb6602197a
