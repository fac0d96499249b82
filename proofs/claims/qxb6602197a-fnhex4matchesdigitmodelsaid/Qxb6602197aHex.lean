import Derived.Test.Qxb6602197aProg
import Derived.WalkKit
import Derived.WalkSpells
import Derived.WalkLawsBesides
import Derived.Test.Qxb6602197aPlain
namespace Go.Proofs.Qxb6602197a
open Go.RowKit
set_option linter.unusedVariables false

theorem ret_int {k : IntKind} {a b : Int} (h : a = b) : Ending.returned (.int k a) = .returned (.int k b) := by rw [h]

theorem i32_or_nat (a b : Nat) (ha : a < 2147483648) (hb : b < 2147483648) : bits .or .i32 (a : Int) (b : Int) = ((a ||| b : Nat) : Int) := by
  have hx : a ||| b < 2 ^ 31 := Nat.or_lt_two_pow (by omega) (by omega)
  show IntKind.i32.wrap ((BitVec.ofInt 32 (a : Int) ||| BitVec.ofInt 32 (b : Int)).toNat : Int) = _
  rw [BitVec.toNat_or, ofInt_u32 a (by omega), ofInt_u32 b (by omega)]
  simp [IntKind.wrap, IntKind.bits, IntKind.signed]
  omega
theorem i32_and_nat (a b : Nat) (ha : a < 2147483648) (hb : b < 2147483648) : bits .and .i32 (a : Int) (b : Int) = ((a &&& b : Nat) : Int) := by
  have hx : a &&& b < 2 ^ 31 := Nat.and_lt_two_pow _ (by omega)
  show IntKind.i32.wrap ((BitVec.ofInt 32 (a : Int) &&& BitVec.ofInt 32 (b : Int)).toNat : Int) = _
  rw [BitVec.toNat_and, ofInt_u32 a (by omega), ofInt_u32 b (by omega)]
  simp [IntKind.wrap, IntKind.bits, IntKind.signed]
  omega
/-- a digit laid behind r -/
theorem or_digit (r : Nat) (e : Int) (hr : (r : Int) ≤ 4095) (h0 : 0 ≤ e) (h1 : e ≤ 15) : bits .or .i32 ((r : Int) * 16) e = (r : Int) * 16 + e := by
  obtain ⟨e, rfl⟩ := Int.eq_ofNat_of_zero_le h0
  have h : ((r : Int) * 16) = ((r * 16 : Nat) : Int) := by simp
  rw [h, i32_or_nat _ _ (by omega) (by omega), nat_join 4 (r * 16) e (by omega) (by omega)]
  simp

/-- the round's end: one digit more -/
theorem rel_more {z : List Int} {k r : Nat} {d e : Int} (hk : k < 4) (hl : z.length = 4) (HD : Hid (z.getD k 0 = d)) (H : Hid (Plain.hx z 0 = Plain.hx (z.drop k) r)) (hr : r < 16 ^ k)
    (he : Plain.dv d = e) (h0 : 0 ≤ e) (h1 : e ≤ 15) :
    ∃ k1 r1 : Nat, k1 ≤ 4 ∧ Value.int .i64 ((k : Int) + 1) = .int .i64 k1 ∧ Value.int .i32 (bits .or .i32 ((r : Int) * 16) e) = .int .i32 r1 ∧ r1 < 16 ^ k1 ∧ Hid (Plain.hx z 0 = Plain.hx (z.drop k1) r1) := by
  have hr' : (r : Int) ≤ 4095 := by
    have : 16 ^ k ≤ 16 ^ 3 := Nat.pow_le_pow_right (by omega) (by omega)
    omega
  obtain ⟨e, rfl⟩ := Int.eq_ofNat_of_zero_le h0
  refine ⟨k + 1, r * 16 + e, by omega, by simp, by rw [or_digit r _ hr' h0 h1]; simp, ?_, ?_⟩
  · rw [Nat.pow_succ]; omega
  · unfold Hid
    rw [H.out, List.drop_eq_getElem_cons (by omega), Plain.hx]
    have hg : z[k]'(by omega) = d := by rw [← HD.out, List.getD_eq_getElem?_getD, List.getElem?_eq_getElem (by omega)]; rfl
    rw [hg, he, if_neg (by omega)]
    simp
theorem rel_dead {z : List Int} {k r : Nat} {d : Int} (hk : k < 4) (hl : z.length = 4) (HD : Hid (z.getD k 0 = d)) (H : Hid (Plain.hx z 0 = Plain.hx (z.drop k) r))
    (he : Plain.dv d < 0) : -1 = Plain.hx z 0 := by
  rw [H.out, List.drop_eq_getElem_cons (by omega), Plain.hx]
  have hg : z[k]'(by omega) = d := by rw [← HD.out, List.getD_eq_getElem?_getD, List.getElem?_eq_getElem (by omega)]; rfl
  rw [hg, if_pos he]

set_option maxHeartbeats 400000 in
theorem hex4_small (a : Option Addr) (len cap : Nat) (w : World) (h : (len : Int) < 4) :
    Calls Try.prog 13 #[.slice a len cap] w fun e w' => e = .returned (.int .i32 (-1)) ∧ w' = w := by
  go_enter Try.func13, Try.ntmps13
  go_wp2
  go_ret
  exact ⟨rfl, rfl⟩

set_option maxHeartbeats 400000 in
theorem hex4_any (g len cap : Nat) (z : List Int) (w : World) (h4 : (4 : Int) ≤ len) (hlc : (len : Int) ≤ cap) (hcap : (cap : Int) ≤ 9223372036854775807)
    (hz : ∀ i, i < 4 → w.cell? ⟨g, i, none⟩ = some (.int .u8 (z.getD i 0))) (hb : ∀ i, i < 4 → 0 ≤ z.getD i 0 ∧ z.getD i 0 ≤ 255) (hl : z.length = 4) :
    Calls Try.prog 13 #[.slice (some ⟨g, 0, none⟩) len cap] w fun e w' => e = .returned (.int .i32 (Plain.hx z 0)) ∧ w' = w := by
  go_enter Try.func13, Try.ntmps13
  go_wp2
  go_loop [3, 5, 12] (fun rr c i => ∃ (k r : Nat), k ≤ 4 ∧ i = .int .i64 k ∧ rr = .int .i32 r ∧ r < 16 ^ k ∧ Hid (Plain.hx z 0 = Plain.hx (z.drop k) r)) (fun _ _ i => 4 - (intOf i).toNat)
  case atStart => exact ⟨0, 0, by omega, rfl, rfl, by decide, by simp [Hid]⟩
  case round =>
    obtain ⟨k, r, hk, rfl, rfl, hr, H⟩ := hrel
    by_cases hlt : k < 4
    · have hc := hz k hlt
      have hbk := hb k hlt
      generalize hd : z.getD k 0 = d at *
      have hr' : (r : Int) ≤ 4095 := by
        have : 16 ^ k ≤ 16 ^ 3 := Nat.pow_le_pow_right (by omega) (by omega)
        omega
      have HD : Hid (z.getD k 0 = d) := hd
      clear hd hz hb
      rcases (show (48 ≤ d ∧ d ≤ 57) ∨ (97 ≤ d ∧ d ≤ 102) ∨ (65 ≤ d ∧ d ≤ 70) ∨ (d < 48 ∨ (57 < d ∧ d < 65) ∨ (70 < d ∧ d < 97) ∨ 102 < d) by omega) with ⟨h1, h2⟩ | ⟨h1, h2⟩ | ⟨h1, h2⟩ | hno
      · go_wp2
        go_round
        case rel => exact rel_more hlt hl HD H hr (by unfold Plain.dv; rw [if_pos ⟨h1, h2⟩]) (by omega) (by omega)
        case measure => simp [intOf]; omega
      · go_wp2
        go_round
        case rel => exact rel_more hlt hl HD H hr (by unfold Plain.dv; rw [if_neg (by omega), if_pos ⟨h1, h2⟩]) (by omega) (by omega)
        case measure => simp [intOf]; omega
      · go_wp2
        go_round
        case rel => exact rel_more hlt hl HD H hr (by unfold Plain.dv; rw [if_neg (by omega), if_neg (by omega), if_pos ⟨h1, h2⟩]) (by omega) (by omega)
        case measure => simp [intOf]; omega
      · have hdead : Plain.dv d < 0 := by unfold Plain.dv; rw [if_neg (by omega), if_neg (by omega), if_neg (by omega)]; omega
        rcases hno with h1 | ⟨h1, h2⟩ | ⟨h1, h2⟩ | h1
        all_goals
          go_wp2
          go_ret
          exact ⟨ret_int (rel_dead hlt hl HD H hdead), rfl⟩
    · have hk4 : k = 4 := by omega
      have HE : Hid (Plain.hx z 0 = r) := by
        unfold Hid; rw [H.out, List.drop_of_length_le (by omega)]; rfl
      clear H hz hb
      subst hk4
      go_wp2
      go_ret
      exact ⟨ret_int HE.out.symm, rfl⟩

set_option maxHeartbeats 400000 in
theorem zhex4_small (a : Option Addr) (len cap : Nat) (w : World) (h : (len : Int) < 4) :
    Calls Try.prog 8 #[.slice a len cap] w fun e w' => e = .returned (.int .i32 (-1)) ∧ w' = w := by
  go_enter Try.func8, Try.ntmps8
  go_wp2_with (go_at_call 13; refine (hex4_small _ _ _ _ h).mono ?_; rintro e w' ⟨rfl, rfl⟩)
  go_ret
  exact ⟨rfl, rfl⟩

set_option maxHeartbeats 400000 in
theorem zhex4_any (g len cap : Nat) (z : List Int) (w : World) (h4 : (4 : Int) ≤ len) (hlc : (len : Int) ≤ cap) (hcap : (cap : Int) ≤ 9223372036854775807)
    (hz : ∀ i, i < 4 → w.cell? ⟨g, i, none⟩ = some (.int .u8 (z.getD i 0))) (hb : ∀ i, i < 4 → 0 ≤ z.getD i 0 ∧ z.getD i 0 ≤ 255) (hl : z.length = 4) :
    Calls Try.prog 8 #[.slice (some ⟨g, 0, none⟩) len cap] w fun e w' => e = .returned (.int .i32 (Plain.hx z 0)) ∧ w' = w := by
  go_enter Try.func8, Try.ntmps8
  go_wp2_with (go_at_call 13; refine (hex4_any _ _ _ z _ h4 hlc hcap hz hb hl).mono ?_; rintro e w' ⟨rfl, rfl⟩)
  go_ret
  exact ⟨rfl, rfl⟩

end Go.Proofs.Qxb6602197a
