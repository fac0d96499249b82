import Derived.Test.Qxb6602197aRows
import Derived.WalkKit
import Derived.ProofKit
import Derived.OpenShut
import Derived.ShutString
import Derived.ChangeOld
import Derived.Below
import Derived.Test.Qxb6602197aModB
import Derived.Test.Qxb6602197aClosed
namespace Go.Proofs.Qxb6602197a.fnHex4MatchesDigitModel
open Go.ChangeShapes Go.WideShapes Go.ChangeAt Go.RowKit
open Go.ChangeMaps (open_string shut_string)
set_option linter.unusedVariables false

theorem own : ownKnob Try.prog.godebug = none := by kernel_rfl
theorem laidOut : laidOutB Try.prog = true := by kernel_rfl

/-- WHAT THE WALK IS TOLD OF A SLICE OF INTEGERS THAT CAME IN: it is nil; or it leads to a row of 'cap' cells, the numbers 'zs' (the first 'len' are its elements, the rest its spare room), each fitting its kind. -/
def IsRow (k : IntKind) (w : World) (a : Option Addr) (len cap : Nat) (zs : List Int) : Prop :=
  (a = none ∧ len = 0 ∧ cap = 0 ∧ zs = []) ∨
  ∃ x, a = some x ∧ len ≤ cap ∧ cap ≤ maxLen ∧ zs.length = cap ∧ (∀ i, i < zs.length → w.cell? (x.add i) = some (.int k (zs.getD i 0))) ∧ ∀ n ∈ zs, (Lit.int k n).wf = true

theorem in8_of_row {w : World} {a : Option Addr} {len cap : Nat} {zs : List Int} (h : IsRow .u8 w a len cap zs) : In8 w a len cap zs ∧ len ≤ maxLen ∧ (∀ i, 0 ≤ zs.getD i 0 ∧ zs.getD i 0 ≤ 255) := by
  rcases h with ⟨rfl, rfl, rfl, rfl⟩ | ⟨x, rfl, hl, hm, hz, hc, hw⟩
  · exact ⟨.inl ⟨rfl, rfl, rfl⟩, Nat.zero_le _, fun i => by simp⟩
  · refine ⟨?_, Nat.le_trans hl hm, fun i => ?_⟩
    · by_cases h0 : len = 0
      · exact .inr (.inl ⟨x, rfl, h0⟩)
      · obtain ⟨b, off, rfl, hc'⟩ := ints_at hc (by omega)
        exact .inr (.inr ⟨b, off, rfl, by omega, by omega, hc'⟩)
    · by_cases hi : i < zs.length
      · have e : zs.getD i 0 = zs[i] := by rw [List.getD_eq_getElem?_getD, List.getElem?_eq_getElem hi]; rfl
        rw [e]
        exact bounds_u8 (hw _ (List.getElem_mem hi))
      · have e : zs.getD i 0 = 0 := by rw [List.getD_eq_getElem?_getD, List.getElem?_eq_none (by omega)]; rfl
        rw [e]; omega

set_option maxHeartbeats 400000 in
theorem zz6_any (a : Option Addr) (len cap : Nat) (w : World) (hl : (len : Int) ≤ 9223372036854775807) :
    Calls Try.prog 6 #[.slice a len cap] w fun e w' => e = .returned (.bool (decide (len ≤ 1048576))) ∧ w' = w := by
  by_cases h : (len : Int) ≤ 1048576
  · go_enter Try.func6, Try.ntmps6
    go_wp2
    go_ret
    exact ⟨by simp; omega, rfl⟩
  · go_enter Try.func6, Try.ntmps6
    go_wp2
    go_ret
    exact ⟨by simp; omega, rfl⟩

set_option maxHeartbeats 400000 in
theorem walk (a0 : Option Addr) (len0 cap0 : Nat) (z0 : List Int) (w : World) (w0 : IsRow .u8 w a0 len0 cap0 z0) :
    Calls Try.prog 3 #[.slice a0 len0 cap0] w fun e w' => e = .returned (.bool true) ∧ Below w.heap.size w w' := by
  obtain ⟨hin, hml, hrng⟩ := in8_of_row w0
  clear w0
  unfold maxLen at hml
  by_cases hl : len0 ≤ 1048576
  · have hd : decide (len0 ≤ 1048576) = true := by simpa using hl
    have hl' : (len0 : Int) ≤ 1048576 := by omega
    go_enter Try.func3, Try.ntmps3
    go_wp2_with fail
    refine (zz6_any _ _ _ _ (by omega)).mono ?_
    rintro e w' ⟨rfl, rfl⟩
    rw [hd]
    go_wp2_with fail
    refine (clone_all a0 len0 cap0 z0 _ hl' hin).mono ?_
    rintro e w1 ⟨ta, rfl, hT, hB1⟩
    clear hin hd
    by_cases h4 : (len0 : Int) < 4
    · go_wp2_with fail
      refine (zhex4_small _ _ _ _ h4).mono ?_
      rintro e w2 ⟨rfl, rfl⟩
      go_wp2_with fail
      refine (model_small _ _ _ _ h4).mono ?_
      rintro e w3 ⟨rfl, rfl⟩
      go_wp2_with fail
      go_ret
      exact ⟨rfl, hB1⟩
    · rcases hT with h0 | ⟨rfl, hTN, hTc⟩
      · exfalso; have := h0.out; omega
      · have hl4 : (4 : Int) ≤ len0 := by omega
        have c0 := hTc 0 (by omega)
        have c1 := hTc 1 (by omega)
        have c2 := hTc 2 (by omega)
        have c3 := hTc 3 (by omega)
        have b0 := hrng 0
        have b1 := hrng 1
        have b2 := hrng 2
        have b3 := hrng 3
        clear hTc hrng
        generalize z0.getD 0 0 = d0 at *
        generalize z0.getD 1 0 = d1 at *
        generalize z0.getD 2 0 = d2 at *
        generalize z0.getD 3 0 = d3 at *
        have hpl : Hid (Plain.hx [d0, d1, d2, d3] 0 = Plain.sm [(d0, 4096), (d1, 256), (d2, 16), (d3, 1)] 0) := Plain.hx_sm d0 d1 d2 d3
        go_wp2_with fail
        refine (zhex4_any w'.heap.size len0 len0 [d0, d1, d2, d3] _ hl4 (by omega) (by omega) ?_ ?_ rfl).mono ?_
        · intro i hi
          match i, hi with
          | 0, _ => exact c0
          | 1, _ => exact c1
          | 2, _ => exact c2
          | 3, _ => exact c3
        · intro i hi
          match i, hi with
          | 0, _ => exact b0
          | 1, _ => exact b1
          | 2, _ => exact b2
          | 3, _ => exact b3
        rintro e w2 ⟨rfl, rfl⟩
        generalize Plain.hx [d0, d1, d2, d3] 0 = A at *
        go_wp2_with fail
        refine (model_any w'.heap.size len0 len0 d0 d1 d2 d3 _ hl4 (by omega) c0 c1 c2 c3 b0 b1 b2 b3).mono ?_
        rintro e w3 ⟨rfl, rfl⟩
        rw [← hpl.out]
        clear hpl
        go_wp2_with fail
        go_ret
        exact ⟨by simp, hB1⟩
  · have hd : decide (len0 ≤ 1048576) = false := by simpa using hl
    go_enter Try.func3, Try.ntmps3
    go_wp2_with (go_at_call 6; refine (zz6_any _ _ _ _ (by omega)).mono ?_; rintro e w' ⟨rfl, rfl⟩; rw [hd])
    go_ret
    exact ⟨rfl, Below.refl _ _⟩

/-! ### THE ROW's STEP: WRITTEN OUT: LEAVE IT -/
set_option maxRecDepth 100000 in
theorem lifted (os : Os) (started : os.Started) (H : Type) (enc : TypeId × Value → H) :
    ReturnsInHanded {} Try.checked os 3 .any (Rows.fnHex4MatchesDigitModelSpec.pre6 enc Try.prog Try.f3 Rows.fnHex4MatchesDigitModelRow.domain false) (Rows.fnHex4MatchesDigitModelSpec.post enc Try.prog Try.f3 false true false false) := by
  refine returnsInHanded_of_change (C := Try.checked) own started (by kernel_rfl) Try.func3
    (ChangeSpec.witness6 (enc := enc) (C := Try.checked) false ⟨#[], #[.slice none 0 0], []⟩ 8 (by kernel_rfl) (by kernel_rfl) (by kernel_rfl) (by kernel_rfl)) ?_
  intro W base args ds gs before hval0 hW hcnd _
  have hval : ∀ (j : Nat) t v, Try.f3.params[j]? = some t → args[j]? = some v → Value.okWide Try.prog W .any base t v := hval0
  have hW' := hW
  obtain ⟨p, q, hA0, hV, rfl, hfz, hnd⟩ := hW
  have hA : DataW.TrodAll enc Try.prog W 0 (fun _ => true) true Try.f3.params.toList args.toList ds p := hA0
  rw [Try.params3] at hA hval
  obtain ⟨v0, vs0, d0, ds0, p0, q0, hargs, rfl, rfl, h0, r0⟩ := trodAll_cons hA
  obtain ⟨rfl, rfl, rfl⟩ := trodAll_nil r0
  obtain rfl : args = #[v0] := by cases args; simp_all
  obtain ⟨rfl, rfl⟩ := trodVars_none hV
  obtain ⟨a0, len0, cap0, rfl⟩ := okWide_slice Try.underlying22 (hval 0 22 v0 rfl rfl)
  have k0 := h0
  have lt0 : ∀ x ∈ p0, x.block < W.heap.size := by obtain ⟨m, hm⟩ := k0; exact DataW.trod_lt m _ _ _ hm
  obtain ⟨z0, w0⟩ : ∃ zs, IsRow .u8 W a0 len0 cap0 zs := by
    obtain ⟨fuel, hf⟩ := h0
    rcases open_ints Try.underlying22 Try.underlying5 (by kernel_rfl) hf with ⟨hcs, _⟩ | ⟨x, l, c, zs, hcs, _, hl, hm, hz, _, hcell, hwz⟩
    · simp [Value.cells] at hcs
      obtain ⟨rfl, rfl, rfl⟩ := hcs
      exact ⟨[], .inl ⟨rfl, rfl, rfl, rfl⟩⟩
    · simp [Value.cells] at hcs
      obtain ⟨rfl, rfl, rfl⟩ := hcs
      exact ⟨zs, .inr ⟨_, rfl, hl, hm, by simpa using hz, hcell, hwz⟩⟩
  clear hA0 hval0
  refine (walk a0 len0 cap0 z0 W w0).mono fun e W' ⟨he, bel⟩ => ?_
  subst he
  exact ⟨_, rfl, _, _, _, [], _, [], hW', trodAll_mk1 (shut_bool Try.underlying4 _), (trodAll_cons_mk (Below.trod laidOut (by kernel_rfl) (of_decide_eq_true (by kernel_rfl)) k0 bel lt0) trodAll_mk0), rfl, bel.frame _, fun h => by cases h⟩

theorem closed : joinedFacts Try.prog 3 Try.f3 Rows.fnHex4MatchesDigitModelSpec Rows.fnHex4MatchesDigitModelRow = true := by
  unfold joinedFacts
  exact (Closed.band (Closed.band (Closed.band (Closed.band (Closed.band (Closed.band (Closed.band (Closed.band (Closed.band (Closed.band (Closed.band (Closed.band (Closed.band (Closed.band (Closed.band (Closed.band (Closed.band (Closed.band (Closed.band (Closed.band (Closed.band (Closed.band (Closed.band (Closed.band (Closed.band (Closed.band (Closed.band (Closed.band (Closed.band (Closed.band (Closed.band (by kernel_rfl) (by kernel_rfl)) (by kernel_rfl)) (by kernel_rfl)) (by kernel_rfl)) (by kernel_rfl)) (by kernel_rfl)) (by kernel_rfl)) (by kernel_rfl)) (by kernel_rfl)) (by kernel_rfl)) (by kernel_rfl)) (by kernel_rfl)) (by kernel_rfl)) (by kernel_rfl)) (by kernel_rfl)) (by kernel_rfl)) (by kernel_rfl)) (by kernel_rfl)) (by kernel_rfl)) (by kernel_rfl)) (by kernel_rfl)) (by kernel_rfl)) (by kernel_rfl)) (by kernel_rfl)) Closed.enter_is) (by rewrite [Closed.final_is]; kernel_rfl)) (by rewrite [Closed.make_is]; kernel_rfl)) (by kernel_rfl)) (by kernel_rfl)) (by kernel_rfl)) (by kernel_rfl))

theorem over : Rows.fnHex4MatchesDigitModelRow.holds Try.pinned (OpenSpec.ofChange Rows.fnHex4MatchesDigitModelSpec) :=
  OpenClaim.holds_of_wide 3 Try.f3 rfl rfl rfl rfl rfl rfl rfl ⟨rfl, rfl, rfl, rfl, rfl⟩ rfl rfl rfl rfl rfl (by kernel_rfl) Try.func3 closed
    (of_decide_eq_true (by kernel_rfl)) (by unfold Func.isWrapper; first | (rw [if_pos (by decide +kernel)]; kernel_rfl) | (rw [if_neg (by decide +kernel)]; exact ⟨rfl, rfl⟩))
    (fun os started H enc _ => lifted os started H enc)

/-- ████ THE STATEMENT ████ -/
theorem proved : Rows.FnHex4MatchesDigitModelSaid := over
end Go.Proofs.Qxb6602197a.fnHex4MatchesDigitModel
