import Derived.Test.Qxb6602204aWF
namespace Go.Proofs.Qxb6602204a
open Go.RowKit
set_option linter.unusedVariables false

theorem wf_out (base : Option Addr) (n cap : Nat) (x y s : Int) (w : World) (hn : (n : Int) ≤ 4096) (hsb : s ≤ 62) (hev : bits .and .u64 s 1 = 0)
    (ho : (n : Int) ≤ x ∨ (n : Int) ≤ y) :
    Calls Try.prog 9 #[.slice base n cap, .int .u64 x, .int .u64 y, .int .u64 y, .int .u64 s] w fun e w' =>
      e = .returned (.bool false) ∧ w' = w := by
  have hwn : IntKind.u64.wrap (n : Int) = n := by simp [IntKind.wrap, IntKind.bits, IntKind.signed]; omega
  by_cases hx : (n : Int) ≤ x
  · clear ho
    go_enter Try.func9, Try.ntmps9
    go_wp2_with fail
    go_ret
    exact ⟨rfl, rfl⟩
  · have hy : (n : Int) ≤ y := by omega
    have hx2 : x < (n : Int) := by omega
    clear ho hx
    go_enter Try.func9, Try.ntmps9
    go_wp2_with fail
    go_ret
    exact ⟨rfl, rfl⟩

theorem bytes_any (base : Option Addr) (n cap : Nat) (top fresh a b s : Int) (w : World) :
    Calls Try.prog 8 #[.slice base n cap, .int .u64 top, .int .i64 fresh, .int .u64 a, .int .u64 b, .int .u64 s] w fun e w' =>
      e = .returned (.bool (decide (n ≤ 1048576))) ∧ w' = w := by
  by_cases h : n ≤ 1048576
  · have h1 : (n : Int) ≤ 1048576 := by omega
    have hw : IntKind.i64.wrap (n : Int) = n := by simp [IntKind.wrap, IntKind.bits, IntKind.signed]; omega
    have hd : decide (n ≤ 1048576) = true := by simp [h]
    rw [hd]
    go_enter Try.func8, Try.ntmps8
    go_wp2_with fail
    go_ret
    exact ⟨rfl, rfl⟩
  · have h1 : 1048576 < (n : Int) := by omega
    have hd : decide (n ≤ 1048576) = false := by simp [h]
    rw [hd]
    go_enter Try.func8, Try.ntmps8
    go_wp2_with fail
    go_ret
    exact ⟨rfl, rfl⟩

end Go.Proofs.Qxb6602204a
