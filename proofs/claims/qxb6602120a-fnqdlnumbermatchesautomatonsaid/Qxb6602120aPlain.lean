namespace Go.Proofs.Qxb6602120a
namespace Plain

/-- an ASCII digit, as Go's test reads it -/
def dg (c : UInt8) : Bool := decide (48 ≤ (c.toNat : Int)) && decide ((c.toNat : Int) ≤ 57)

/-- one move of the automaton -/
def step (q : Int) (c : UInt8) : Int :=
  if q = 0 then (if c.toNat = 45 then 1 else if dg c then 2 else if c.toNat = 46 then 3 else -1)
  else if q = 1 then (if dg c then 2 else if c.toNat = 46 then 3 else -1)
  else if q = 2 then (if dg c then 2 else if c.toNat = 46 then 3 else if c.toNat = 101 ∨ c.toNat = 69 then 5 else -1)
  else if q = 3 then (if dg c then 4 else -1)
  else if q = 4 then (if dg c then 4 else if c.toNat = 101 ∨ c.toNat = 69 then 5 else -1)
  else if q = 5 then (if c.toNat = 43 ∨ c.toNat = 45 then 6 else if dg c then 7 else -1)
  else if q = 6 then (if dg c then 7 else -1)
  else if q = 7 then (if dg c then 7 else -1)
  else -1

/-- the automaton from state q over l -/
def acc (q : Int) : List UInt8 → Bool
  | [] => q == 2 || q == 4 || q == 7
  | c :: l => if step q c < 0 then false else acc (step q c) l

/-- how many digits l begins with -/
def da : List UInt8 → Nat
  | [] => 0
  | c :: l => if dg c then da l + 1 else 0

/-- the exponent's part -/
def expo (s : List UInt8) : Bool :=
  match s with
  | [] => true
  | c :: t =>
    if c.toNat = 69 ∨ c.toNat = 101 then
      let u := match t with
        | [] => t
        | e :: v => if e.toNat = 43 ∨ e.toNat = 45 then v else t
      if da u = 0 then false else (u.drop (da u)).isEmpty
    else false

/-- isQDLNumber behind the sign -/
def body (s : List UInt8) : Bool :=
  match s.drop (da s) with
  | c :: r =>
    if c.toNat = 46 then (if da r = 0 then false else expo (r.drop (da r)))
    else if da s = 0 then false else expo (c :: r)
  | [] => if da s = 0 then false else expo []

def num (s : List UInt8) : Bool :=
  match s with
  | c :: r => if c.toNat = 45 then body r else body (c :: r)
  | [] => body []

theorem dg_iff (c : UInt8) : dg c = true ↔ 48 ≤ c.toNat ∧ c.toNat ≤ 57 := by
  unfold dg; simp; omega

theorem acc7 (l : List UInt8) : acc 7 l = (l.drop (da l)).isEmpty := by
  induction l with
  | nil => rfl
  | cons c l ih =>
    by_cases h : dg c = true
    · simp [acc, step, da, h, ih]
    · simp [acc, step, da, h]

theorem acc6 (l : List UInt8) : acc 6 l = if da l = 0 then false else (l.drop (da l)).isEmpty := by
  cases l with
  | nil => rfl
  | cons c l =>
    by_cases h : dg c = true
    · simp [acc, step, da, h, acc7]
    · simp [acc, step, da, h]

theorem acc5 (l : List UInt8) : acc 5 l =
    (let u := match l with
        | [] => l
        | e :: v => if e.toNat = 43 ∨ e.toNat = 45 then v else l
     if da u = 0 then false else (u.drop (da u)).isEmpty) := by
  cases l with
  | nil => rfl
  | cons c l =>
    by_cases h0 : c.toNat = 43 ∨ c.toNat = 45
    · simp [acc, step, h0, acc6]
    · by_cases h : dg c = true
      · simp [acc, step, da, h, h0, acc7]
      · simp [acc, step, da, h, h0]

theorem acc4 (l : List UInt8) : acc 4 l = expo (l.drop (da l)) := by
  induction l with
  | nil => rfl
  | cons c l ih =>
    by_cases h : dg c = true
    · simp [acc, step, da, h, ih]
    · by_cases h0 : c.toNat = 101 ∨ c.toNat = 69
      · have h1 : c.toNat = 69 ∨ c.toNat = 101 := h0.symm
        simp [acc, step, da, h, h0, h1, acc5, expo]
      · have h1 : ¬ (c.toNat = 69 ∨ c.toNat = 101) := fun x => h0 x.symm
        simp [acc, step, da, h, h0, h1, expo]

theorem acc3 (l : List UInt8) : acc 3 l = if da l = 0 then false else expo (l.drop (da l)) := by
  cases l with
  | nil => rfl
  | cons c l =>
    by_cases h : dg c = true
    · simp [acc, step, da, h, acc4]
    · simp [acc, step, da, h]

theorem acc2 (l : List UInt8) : acc 2 l =
    match l.drop (da l) with
    | c :: r => if c.toNat = 46 then (if da r = 0 then false else expo (r.drop (da r))) else expo (c :: r)
    | [] => expo [] := by
  induction l with
  | nil => rfl
  | cons c l ih =>
    by_cases h : dg c = true
    · simp [acc, step, da, h, ih]
    · by_cases h46 : c.toNat = 46
      · simp [acc, step, da, h, h46, acc3]
      · by_cases h0 : c.toNat = 101 ∨ c.toNat = 69
        · have h1 : c.toNat = 69 ∨ c.toNat = 101 := h0.symm
          simp [acc, step, da, h, h46, h0, h1, acc5, expo]
        · have h1 : ¬ (c.toNat = 69 ∨ c.toNat = 101) := fun x => h0 x.symm
          simp [acc, step, da, h, h46, h0, h1, expo]

theorem acc1 (l : List UInt8) : acc 1 l = body l := by
  cases l with
  | nil => rfl
  | cons c l =>
    by_cases h : dg c = true
    · have h46 : ¬ c.toNat = 46 := by have := (dg_iff c).1 h; omega
      simp [acc, step, da, h, acc2, body]
    · by_cases h46 : c.toNat = 46
      · simp [acc, step, da, h, h46, acc3, body]
      · simp [acc, step, da, h, h46, body]

theorem acc0 (l : List UInt8) : acc 0 l = num l := by
  cases l with
  | nil => rfl
  | cons c l =>
    by_cases h45 : c.toNat = 45
    · simp [acc, step, h45, num, acc1]
    · have e : acc 0 (c :: l) = acc 1 (c :: l) := by simp [acc, step, h45]
      rw [e, acc1]; simp [num, h45]

end Plain
end Go.Proofs.Qxb6602120a
