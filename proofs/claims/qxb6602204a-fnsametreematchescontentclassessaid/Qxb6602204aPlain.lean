namespace Go.Proofs.Qxb6602204a
namespace Plain
set_option linter.unusedVariables false

/-- node x, and all that is met from it down l levels, are nodes -/
def wf (n : Nat) (nd : Nat → Nat → Nat) : Nat → Nat → Prop
  | 0, x => x < n
  | l + 1, x => x < n ∧ ∀ k, k < 4 → wf n nd l (nd x k)

/-- the subtrees at x and y, l levels deep, hold the same values -/
def same (nd : Nat → Nat → Nat) : Nat → Nat → Nat → Prop
  | 0, x, y => ∀ k, k < 4 → nd x k = nd y k
  | l + 1, x, y => ∀ k, k < 4 → same nd l (nd x k) (nd y k)

theorem wf_lt {n : Nat} {nd : Nat → Nat → Nat} {l x : Nat} (h : wf n nd l x) : x < n := by
  cases l with
  | zero => exact h
  | succ l => exact h.1
theorem wf_kid {n : Nat} {nd : Nat → Nat → Nat} {l x k : Nat} (h : wf n nd (l + 1) x) (hk : k < 4) : wf n nd l (nd x k) := h.2 k hk

theorem same_refl (nd : Nat → Nat → Nat) : ∀ l x, same nd l x x
  | 0, _ => fun _ _ => rfl
  | l + 1, x => fun k _ => same_refl nd l (nd x k)
theorem same_symm (nd : Nat → Nat → Nat) : ∀ l x y, same nd l x y → same nd l y x
  | 0, _, _, h => fun k hk => (h k hk).symm
  | l + 1, x, y, h => fun k hk => same_symm nd l _ _ (h k hk)
theorem same_trans (nd : Nat → Nat → Nat) : ∀ l x y z, same nd l x y → same nd l y z → same nd l x z
  | 0, _, _, _, h, g => fun k hk => (h k hk).trans (g k hk)
  | l + 1, x, y, z, h, g => fun k hk => same_trans nd l _ _ _ (h k hk) (g k hk)

/-- c is the class of x: the least index of R whose subtree holds what x's holds -/
def isClass (nd : Nat → Nat → Nat) (R : Nat → Prop) (l x c : Nat) : Prop :=
  c ≤ x ∧ R c ∧ same nd l c x ∧ ∀ y, y < c → ¬ (R y ∧ same nd l y x)

theorem class_eq {nd : Nat → Nat → Nat} {R : Nat → Prop} {l x y c d : Nat} (hc : isClass nd R l x c) (hd : isClass nd R l y d) : c = d ↔ same nd l x y := by
  obtain ⟨_, c2, c3, c4⟩ := hc
  obtain ⟨_, d2, d3, d4⟩ := hd
  constructor
  · intro h
    subst h
    exact same_trans nd l _ _ _ (same_symm nd l _ _ c3) d3
  · intro h
    rcases Nat.lt_trichotomy c d with h1 | h1 | h1
    · exact absurd ⟨c2, same_trans nd l _ _ _ c3 h⟩ (d4 c h1)
    · exact h1
    · exact absurd ⟨d2, same_trans nd l _ _ _ d3 (same_symm nd l _ _ h)⟩ (c4 d h1)

end Plain
end Go.Proofs.Qxb6602204a
