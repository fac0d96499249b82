namespace Go.Proofs.Qxb6602197a
namespace Plain

/-- the value of a hexadecimal digit, or -1 -/
def dv (c : Int) : Int :=
  if 48 ≤ c ∧ c ≤ 57 then c - 48 else if 97 ≤ c ∧ c ≤ 102 then c - 87 else if 65 ≤ c ∧ c ≤ 70 then c - 55 else -1

theorem dv_range (c : Int) : -1 ≤ dv c ∧ dv c ≤ 15 := by
  unfold dv
  repeat' split
  all_goals omega

/-- what hex4 comes to over the digits l, r being what was read before -/
def hx : List Int → Int → Int
  | [], r => r
  | c :: l, r => if dv c < 0 then -1 else hx l (r * 16 + dv c)

/-- what hex4Model comes to: each digit beside its weight -/
def sm : List (Int × Int) → Int → Int
  | [], s => s
  | (c, k) :: l, s => if dv c < 0 then -1 else sm l (s + dv c * k)

theorem hx_sm (a b c d : Int) : hx [a, b, c, d] 0 = sm [(a, 4096), (b, 256), (c, 16), (d, 1)] 0 := by
  simp only [hx, sm]
  by_cases h1 : dv a < 0
  · simp [h1]
  · by_cases h2 : dv b < 0
    · simp [h1, h2]
    · by_cases h3 : dv c < 0
      · simp [h1, h2, h3]
      · by_cases h4 : dv d < 0
        · simp [h1, h2, h3, h4]
        · simp only [h1, h2, h3, h4, if_false]; omega

end Plain
end Go.Proofs.Qxb6602197a
