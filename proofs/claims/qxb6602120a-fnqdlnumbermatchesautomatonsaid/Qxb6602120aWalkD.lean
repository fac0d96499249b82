import Derived.Test.Qxb6602120aWalkC
import Derived.Deep.DeepCutAuto
namespace Go.Proofs.Qxb6602120a
open Go.RowKit
set_option linter.unusedVariables false

theorem u8_ne {c b : UInt8} (h : ¬ c = b) : ¬ c.toNat = b.toNat := fun g => h (UInt8.toNat_inj.1 g)

theorem isEmpty_of {s : ByteArray} (h : s.size = 0) : s.toList.isEmpty = true := by
  rw [ByteArray.toList_eq, List.isEmpty_iff_length_eq_zero, len_size, h]
theorem isEmpty_not {s : ByteArray} (h : ¬ s.size = 0) : s.toList.isEmpty = false := by
  rw [ByteArray.toList_eq, ← Bool.not_eq_true, List.isEmpty_iff_length_eq_zero, len_size]; exact h
theorem list_nil {s : ByteArray} (h : s.size = 0) : s.data.toList = [] := by
  rw [← len_size] at h; exact List.length_eq_zero_iff.1 h
theorem list_cons {s : ByteArray} (h : 0 < s.size) : s.data.toList = s[0] :: s.data.toList.drop 1 := by
  have := drop_cons s 0 h; simpa using this
theorem toList_isEmpty (s : ByteArray) : s.toList.isEmpty = s.data.toList.isEmpty := by rw [ByteArray.toList_eq]

/-- what stands behind the exponent's letter -/
def tl (s : ByteArray) : Bool := if Plain.da s.data.toList = 0 then false else (s.data.toList.drop (Plain.da s.data.toList)).isEmpty

theorem expo_nil {s : ByteArray} (h : s.size = 0) : Plain.expo s.data.toList = true := by rw [list_nil h]; rfl
theorem expo_no {s : ByteArray} (h : 0 < s.size) (h1 : ((s[0].toNat : Int) == 69) = false) (h2 : ((s[0].toNat : Int) == 101) = false) : Plain.expo s.data.toList = false := by
  rw [list_cons h]
  simp at h1 h2
  simp only [Plain.expo]
  rw [if_neg (by omega)]
theorem expo_yes {s : ByteArray} (h : 0 < s.size) (h1 : ((s[0].toNat : Int) == 69) = true ∨ ((s[0].toNat : Int) == 101) = true) : Plain.expo s.data.toList = (
    let u := match (s.extract 1 s.size).data.toList with
        | [] => (s.extract 1 s.size).data.toList
        | e :: v => if e.toNat = 43 ∨ e.toNat = 45 then v else (s.extract 1 s.size).data.toList
      if Plain.da u = 0 then false else (u.drop (Plain.da u)).isEmpty) := by
  rw [ex_end]
  rw [list_cons h]
  simp at h1
  simp only [Plain.expo]
  rw [if_pos (by omega)]
  rfl
theorem four_nil {s4 : ByteArray} {b : Bool} (h : s4.size = 0) (hb : b = (
    let u := match s4.data.toList with
        | [] => s4.data.toList
        | e :: v => if e.toNat = 43 ∨ e.toNat = 45 then v else s4.data.toList
      if Plain.da u = 0 then false else (u.drop (Plain.da u)).isEmpty)) : b = tl s4 := by
  rw [hb, list_nil h]; unfold tl; rw [list_nil h]
theorem four_sign {s4 : ByteArray} {b : Bool} (h : 0 < s4.size) (h1 : ((s4[0].toNat : Int) == 43) = true ∨ ((s4[0].toNat : Int) == 45) = true) (hb : b = (
    let u := match s4.data.toList with
        | [] => s4.data.toList
        | e :: v => if e.toNat = 43 ∨ e.toNat = 45 then v else s4.data.toList
      if Plain.da u = 0 then false else (u.drop (Plain.da u)).isEmpty)) : b = tl (s4.extract 1 s4.size) := by
  simp at h1
  have hc : s4[0].toNat = 43 ∨ s4[0].toNat = 45 := by omega
  rw [hb, list_cons h]; unfold tl; rw [ex_end]
  simp only [if_pos hc]
theorem four_bare {s4 : ByteArray} {b : Bool} (h : 0 < s4.size) (h1 : ((s4[0].toNat : Int) == 43) = false) (h2 : ((s4[0].toNat : Int) == 45) = false) (hb : b = (
    let u := match s4.data.toList with
        | [] => s4.data.toList
        | e :: v => if e.toNat = 43 ∨ e.toNat = 45 then v else s4.data.toList
      if Plain.da u = 0 then false else (u.drop (Plain.da u)).isEmpty)) : b = tl s4 := by
  simp at h1 h2
  have hc : ¬ (s4[0].toNat = 43 ∨ s4[0].toNat = 45) := by omega
  rw [hb]; unfold tl
  rw [list_cons h]
  simp only [if_neg hc]
theorem tl_no {s : ByteArray} (h : (((Plain.da s.data.toList : Nat) : Int) == 0) = true) : tl s = false := by
  simp at h; unfold tl; rw [if_pos (by omega)]
theorem tl_yes {s : ByteArray} (h : (((Plain.da s.data.toList : Nat) : Int) == 0) = false) : tl s = (s.extract (Plain.da s.data.toList) s.size).toList.isEmpty := by
  simp at h; unfold tl; rw [if_neg (by omega), toList_isEmpty, ex_end]
theorem ex1_le (s : ByteArray) (n : Nat) (h : s.size ≤ n) : (s.extract 1 s.size).size ≤ n := by
  rw [← len_size, ex_end]; simp; omega

set_option maxHeartbeats 1000000 in
theorem isNum_any (s : ByteArray) (w : World) (hs : s.size ≤ maxLen) :
    Calls Try.prog 29 #[.string s] w fun e w' => e = .returned (.bool (Plain.num s.data.toList)) ∧ w' = w := by
  have h45 : (⟨#[45]⟩ : ByteArray).size ≤ maxLen := by decide
  have h46 : (⟨#[46]⟩ : ByteArray).size ≤ maxLen := by decide
  have hnum : Hid (Plain.num s.data.toList = Plain.body (tpS s ⟨#[45]⟩).data.toList) := by
    unfold Hid
    rw [tpS_one]
    cases h : s.data.toList with
    | nil => rfl
    | cons c r =>
      by_cases hc : c = 45
      · subst hc; rfl
      · have hc' := u8_ne hc
        simp at hc'
        simp [Plain.num, hc, hc']
  have hs1 := Nat.le_trans (tpS_le s ⟨#[45]⟩) hs
  go_enter Try.func29, Try.ntmps29
  go_wp2_with fail
  refine (trim34_any _ _ _ hs h45).mono ?_
  rintro e w' ⟨rfl, rfl⟩
  generalize tpS s ⟨#[45]⟩ = s1 at *
  go_wp2_with fail
  refine (digits_any _ _ hs1).mono ?_
  rintro e w' ⟨rfl, rfl⟩
  have hd1 : Plain.da s1.data.toList ≤ s1.size := by rw [← len_size]; exact da_le _
  have hs1' := hs1
  unfold maxLen at hs1'
  go_wp2_with fail
  have hs2 : (s1.extract (Plain.da s1.data.toList) s1.size).size ≤ maxLen := by rw [← len_size, ex_end]; simp; omega
  have hb : Hid (Plain.num s.data.toList = match (s1.extract (Plain.da s1.data.toList) s1.size).data.toList with
      | c :: r => if c.toNat = 46 then (if Plain.da r = 0 then false else Plain.expo (r.drop (Plain.da r))) else if Plain.da s1.data.toList = 0 then false else Plain.expo (c :: r)
      | [] => if Plain.da s1.data.toList = 0 then false else Plain.expo []) := by
    unfold Hid; rw [hnum.out, ex_end]; rfl
  generalize s1.extract (Plain.da s1.data.toList) s1.size = s2 at *
  generalize Plain.da s1.data.toList = d1 at *
  clear hnum
  refine (cut36_any _ _ _ hs2 h46).mono ?_
  rintro e w' ⟨rfl, rfl⟩
  have hs3 := Nat.le_trans (tpS_le s2 ⟨#[46]⟩) hs2
  have ht := tpS_one s2 46
  have hq := hpB_one s2 46
  by_cases hp : hpB s2 ⟨#[46]⟩ = true
  · have hb2 : Hid (Plain.num s.data.toList = (if Plain.da (tpS s2 ⟨#[46]⟩).data.toList = 0 then false else Plain.expo ((tpS s2 ⟨#[46]⟩).data.toList.drop (Plain.da (tpS s2 ⟨#[46]⟩).data.toList)))) := by
      unfold Hid
      rw [hb.out, ht]
      rw [hp] at hq
      cases h : s2.data.toList with
      | nil => rw [h] at hq; simp at hq
      | cons c r => rw [h] at hq; simp at hq; subst hq; simp
    clear hb ht hq
    generalize tpS s2 ⟨#[46]⟩ = r at *
    go_wp2_with fail
    refine (digits_any _ _ hs3).mono ?_
    rintro e w' ⟨rfl, rfl⟩
    have hdr : Plain.da r.data.toList ≤ r.size := by rw [← len_size]; exact da_le _
    have hs3' := hs3
    unfold maxLen at hs3'
    have hr3 : (r.extract (Plain.da r.data.toList) r.size).size ≤ maxLen := by rw [← len_size, ex_end]; simp; omega
    by_cases hz : Plain.da r.data.toList = 0
    · have hz' : (((Plain.da r.data.toList : Nat) : Int) == 0) = true := by rw [hz]; rfl
      have HF : Hid (Plain.num s.data.toList = false) := by unfold Hid; rw [hb2.out, if_pos hz]
      clear hb2
      generalize Plain.da r.data.toList = d2 at *
      clear hz
      go_wp2_with fail
      go_ret
      exact ⟨ret_bool HF.out.symm, rfl⟩
    · have hz' : (((Plain.da r.data.toList : Nat) : Int) == 0) = false := by simp; omega
      have HF : Hid (Plain.num s.data.toList = Plain.expo (r.extract (Plain.da r.data.toList) r.size).data.toList) := by unfold Hid; rw [hb2.out, if_neg hz, ex_end]
      clear hb2 hz
      by_cases hd : ((d1 : Int) == 0) = true
      · go_upto_region 13 with fail
        clear hz' hdr hs3 hs3'
        generalize hE : r.extract (Plain.da r.data.toList) r.size = s3 at *
        have hs3 := hr3
        clear hE hr3
        by_cases hz3 : s3.size = 0
        · have he := isEmpty_of hz3
          have HE : Hid (Plain.num s.data.toList = true) := by unfold Hid; rw [HF.out, expo_nil hz3]
          clear HF hz3
          go_wp2_with fail
          go_ret
          exact ⟨ret_bool HE.out.symm, rfl⟩
        · have he := isEmpty_not hz3
          have h0 : 0 < s3.size := by omega
          have hs3'' := hs3
          unfold maxLen at hs3''
          by_cases h1 : ((s3[0].toNat : Int) == 69) = true
          · have HE := Eq.trans HF.out (expo_yes h0 (.inl h1))
            have HE : Hid (_ = _) := HE
            clear HF hz3
            go_upto_region 15 with fail
            have hs4 := ex1_le s3 _ hs3
            generalize s3.extract 1 s3.size = s4 at *
            have hs4' := hs4
            unfold maxLen at hs4'
            by_cases hz4 : s4.size = 0
            · have he4 := isEmpty_of hz4
              have HG : Hid (Plain.num s.data.toList = tl s4) := four_nil hz4 HE.out
              clear HE hz4
              go_wp2_with fail
              have hd5 : Plain.da s4.data.toList ≤ s4.size := by rw [← len_size]; exact da_le _
              refine (digits_any _ _ hs4).mono ?_
              rintro e w' ⟨rfl, rfl⟩
              by_cases hz5 : (((Plain.da s4.data.toList : Nat) : Int) == 0) = true
              · have HT : Hid (Plain.num s.data.toList = false) := by unfold Hid; rw [HG.out, tl_no hz5]
                clear HG
                generalize Plain.da s4.data.toList = d5 at *
                go_wp2_with fail
                go_ret
                exact ⟨ret_bool HT.out.symm, rfl⟩
              · have hz5' : (((Plain.da s4.data.toList : Nat) : Int) == 0) = false := by simpa using hz5
                have HT : Hid (Plain.num s.data.toList = (s4.extract (Plain.da s4.data.toList) s4.size).toList.isEmpty) := by unfold Hid; rw [HG.out, tl_yes hz5']
                clear HG hz5
                generalize Plain.da s4.data.toList = d5 at *
                go_wp2_with fail
                go_ret
                exact ⟨ret_bool HT.out.symm, rfl⟩
            · have he4 := isEmpty_not hz4
              have h04 : 0 < s4.size := by omega
              by_cases h43 : ((s4[0].toNat : Int) == 43) = true
              · have HG : Hid (Plain.num s.data.toList = tl (s4.extract 1 s4.size)) := four_sign h04 (.inl h43) HE.out
                have hs5 := ex1_le s4 _ hs4
                clear HE hz4
                go_wp2_with fail
                generalize s4.extract 1 s4.size = s5 at *
                have hs5' := hs5
                unfold maxLen at hs5'
                have hd5 : Plain.da s5.data.toList ≤ s5.size := by rw [← len_size]; exact da_le _
                refine (digits_any _ _ hs5).mono ?_
                rintro e w' ⟨rfl, rfl⟩
                by_cases hz5 : (((Plain.da s5.data.toList : Nat) : Int) == 0) = true
                · have HT : Hid (Plain.num s.data.toList = false) := by unfold Hid; rw [HG.out, tl_no hz5]
                  clear HG
                  generalize Plain.da s5.data.toList = d5 at *
                  go_wp2_with fail
                  go_ret
                  exact ⟨ret_bool HT.out.symm, rfl⟩
                · have hz5' : (((Plain.da s5.data.toList : Nat) : Int) == 0) = false := by simpa using hz5
                  have HT : Hid (Plain.num s.data.toList = (s5.extract (Plain.da s5.data.toList) s5.size).toList.isEmpty) := by unfold Hid; rw [HG.out, tl_yes hz5']
                  clear HG hz5
                  generalize Plain.da s5.data.toList = d5 at *
                  go_wp2_with fail
                  go_ret
                  exact ⟨ret_bool HT.out.symm, rfl⟩
              · have h43' : ((s4[0].toNat : Int) == 43) = false := by simpa using h43
                clear h43
                by_cases h45s : ((s4[0].toNat : Int) == 45) = true
                · have HG : Hid (Plain.num s.data.toList = tl (s4.extract 1 s4.size)) := four_sign h04 (.inr h45s) HE.out
                  have hs5 := ex1_le s4 _ hs4
                  clear HE hz4
                  go_wp2_with fail
                  generalize s4.extract 1 s4.size = s5 at *
                  have hs5' := hs5
                  unfold maxLen at hs5'
                  have hd5 : Plain.da s5.data.toList ≤ s5.size := by rw [← len_size]; exact da_le _
                  refine (digits_any _ _ hs5).mono ?_
                  rintro e w' ⟨rfl, rfl⟩
                  by_cases hz5 : (((Plain.da s5.data.toList : Nat) : Int) == 0) = true
                  · have HT : Hid (Plain.num s.data.toList = false) := by unfold Hid; rw [HG.out, tl_no hz5]
                    clear HG
                    generalize Plain.da s5.data.toList = d5 at *
                    go_wp2_with fail
                    go_ret
                    exact ⟨ret_bool HT.out.symm, rfl⟩
                  · have hz5' : (((Plain.da s5.data.toList : Nat) : Int) == 0) = false := by simpa using hz5
                    have HT : Hid (Plain.num s.data.toList = (s5.extract (Plain.da s5.data.toList) s5.size).toList.isEmpty) := by unfold Hid; rw [HG.out, tl_yes hz5']
                    clear HG hz5
                    generalize Plain.da s5.data.toList = d5 at *
                    go_wp2_with fail
                    go_ret
                    exact ⟨ret_bool HT.out.symm, rfl⟩
                · have h45s' : ((s4[0].toNat : Int) == 45) = false := by simpa using h45s
                  have HG : Hid (Plain.num s.data.toList = tl s4) := four_bare h04 h43' h45s' HE.out
                  clear HE hz4 h45s
                  go_wp2_with fail
                  have hd5 : Plain.da s4.data.toList ≤ s4.size := by rw [← len_size]; exact da_le _
                  refine (digits_any _ _ hs4).mono ?_
                  rintro e w' ⟨rfl, rfl⟩
                  by_cases hz5 : (((Plain.da s4.data.toList : Nat) : Int) == 0) = true
                  · have HT : Hid (Plain.num s.data.toList = false) := by unfold Hid; rw [HG.out, tl_no hz5]
                    clear HG
                    generalize Plain.da s4.data.toList = d5 at *
                    go_wp2_with fail
                    go_ret
                    exact ⟨ret_bool HT.out.symm, rfl⟩
                  · have hz5' : (((Plain.da s4.data.toList : Nat) : Int) == 0) = false := by simpa using hz5
                    have HT : Hid (Plain.num s.data.toList = (s4.extract (Plain.da s4.data.toList) s4.size).toList.isEmpty) := by unfold Hid; rw [HG.out, tl_yes hz5']
                    clear HG hz5
                    generalize Plain.da s4.data.toList = d5 at *
                    go_wp2_with fail
                    go_ret
                    exact ⟨ret_bool HT.out.symm, rfl⟩
          · have h1' : ((s3[0].toNat : Int) == 69) = false := by simpa using h1
            clear h1
            by_cases h1 : ((s3[0].toNat : Int) == 101) = true
            · have HE := Eq.trans HF.out (expo_yes h0 (.inr h1))
              have HE : Hid (_ = _) := HE
              clear HF hz3
              go_upto_region 15 with fail
              have hs4 := ex1_le s3 _ hs3
              generalize s3.extract 1 s3.size = s4 at *
              have hs4' := hs4
              unfold maxLen at hs4'
              by_cases hz4 : s4.size = 0
              · have he4 := isEmpty_of hz4
                have HG : Hid (Plain.num s.data.toList = tl s4) := four_nil hz4 HE.out
                clear HE hz4
                go_wp2_with fail
                have hd5 : Plain.da s4.data.toList ≤ s4.size := by rw [← len_size]; exact da_le _
                refine (digits_any _ _ hs4).mono ?_
                rintro e w' ⟨rfl, rfl⟩
                by_cases hz5 : (((Plain.da s4.data.toList : Nat) : Int) == 0) = true
                · have HT : Hid (Plain.num s.data.toList = false) := by unfold Hid; rw [HG.out, tl_no hz5]
                  clear HG
                  generalize Plain.da s4.data.toList = d5 at *
                  go_wp2_with fail
                  go_ret
                  exact ⟨ret_bool HT.out.symm, rfl⟩
                · have hz5' : (((Plain.da s4.data.toList : Nat) : Int) == 0) = false := by simpa using hz5
                  have HT : Hid (Plain.num s.data.toList = (s4.extract (Plain.da s4.data.toList) s4.size).toList.isEmpty) := by unfold Hid; rw [HG.out, tl_yes hz5']
                  clear HG hz5
                  generalize Plain.da s4.data.toList = d5 at *
                  go_wp2_with fail
                  go_ret
                  exact ⟨ret_bool HT.out.symm, rfl⟩
              · have he4 := isEmpty_not hz4
                have h04 : 0 < s4.size := by omega
                by_cases h43 : ((s4[0].toNat : Int) == 43) = true
                · have HG : Hid (Plain.num s.data.toList = tl (s4.extract 1 s4.size)) := four_sign h04 (.inl h43) HE.out
                  have hs5 := ex1_le s4 _ hs4
                  clear HE hz4
                  go_wp2_with fail
                  generalize s4.extract 1 s4.size = s5 at *
                  have hs5' := hs5
                  unfold maxLen at hs5'
                  have hd5 : Plain.da s5.data.toList ≤ s5.size := by rw [← len_size]; exact da_le _
                  refine (digits_any _ _ hs5).mono ?_
                  rintro e w' ⟨rfl, rfl⟩
                  by_cases hz5 : (((Plain.da s5.data.toList : Nat) : Int) == 0) = true
                  · have HT : Hid (Plain.num s.data.toList = false) := by unfold Hid; rw [HG.out, tl_no hz5]
                    clear HG
                    generalize Plain.da s5.data.toList = d5 at *
                    go_wp2_with fail
                    go_ret
                    exact ⟨ret_bool HT.out.symm, rfl⟩
                  · have hz5' : (((Plain.da s5.data.toList : Nat) : Int) == 0) = false := by simpa using hz5
                    have HT : Hid (Plain.num s.data.toList = (s5.extract (Plain.da s5.data.toList) s5.size).toList.isEmpty) := by unfold Hid; rw [HG.out, tl_yes hz5']
                    clear HG hz5
                    generalize Plain.da s5.data.toList = d5 at *
                    go_wp2_with fail
                    go_ret
                    exact ⟨ret_bool HT.out.symm, rfl⟩
                · have h43' : ((s4[0].toNat : Int) == 43) = false := by simpa using h43
                  clear h43
                  by_cases h45s : ((s4[0].toNat : Int) == 45) = true
                  · have HG : Hid (Plain.num s.data.toList = tl (s4.extract 1 s4.size)) := four_sign h04 (.inr h45s) HE.out
                    have hs5 := ex1_le s4 _ hs4
                    clear HE hz4
                    go_wp2_with fail
                    generalize s4.extract 1 s4.size = s5 at *
                    have hs5' := hs5
                    unfold maxLen at hs5'
                    have hd5 : Plain.da s5.data.toList ≤ s5.size := by rw [← len_size]; exact da_le _
                    refine (digits_any _ _ hs5).mono ?_
                    rintro e w' ⟨rfl, rfl⟩
                    by_cases hz5 : (((Plain.da s5.data.toList : Nat) : Int) == 0) = true
                    · have HT : Hid (Plain.num s.data.toList = false) := by unfold Hid; rw [HG.out, tl_no hz5]
                      clear HG
                      generalize Plain.da s5.data.toList = d5 at *
                      go_wp2_with fail
                      go_ret
                      exact ⟨ret_bool HT.out.symm, rfl⟩
                    · have hz5' : (((Plain.da s5.data.toList : Nat) : Int) == 0) = false := by simpa using hz5
                      have HT : Hid (Plain.num s.data.toList = (s5.extract (Plain.da s5.data.toList) s5.size).toList.isEmpty) := by unfold Hid; rw [HG.out, tl_yes hz5']
                      clear HG hz5
                      generalize Plain.da s5.data.toList = d5 at *
                      go_wp2_with fail
                      go_ret
                      exact ⟨ret_bool HT.out.symm, rfl⟩
                  · have h45s' : ((s4[0].toNat : Int) == 45) = false := by simpa using h45s
                    have HG : Hid (Plain.num s.data.toList = tl s4) := four_bare h04 h43' h45s' HE.out
                    clear HE hz4 h45s
                    go_wp2_with fail
                    have hd5 : Plain.da s4.data.toList ≤ s4.size := by rw [← len_size]; exact da_le _
                    refine (digits_any _ _ hs4).mono ?_
                    rintro e w' ⟨rfl, rfl⟩
                    by_cases hz5 : (((Plain.da s4.data.toList : Nat) : Int) == 0) = true
                    · have HT : Hid (Plain.num s.data.toList = false) := by unfold Hid; rw [HG.out, tl_no hz5]
                      clear HG
                      generalize Plain.da s4.data.toList = d5 at *
                      go_wp2_with fail
                      go_ret
                      exact ⟨ret_bool HT.out.symm, rfl⟩
                    · have hz5' : (((Plain.da s4.data.toList : Nat) : Int) == 0) = false := by simpa using hz5
                      have HT : Hid (Plain.num s.data.toList = (s4.extract (Plain.da s4.data.toList) s4.size).toList.isEmpty) := by unfold Hid; rw [HG.out, tl_yes hz5']
                      clear HG hz5
                      generalize Plain.da s4.data.toList = d5 at *
                      go_wp2_with fail
                      go_ret
                      exact ⟨ret_bool HT.out.symm, rfl⟩
            · have h2' : ((s3[0].toNat : Int) == 101) = false := by simpa using h1
              have HE : Hid (Plain.num s.data.toList = false) := by unfold Hid; rw [HF.out, expo_no h0 h1' h2']
              clear HF hz3 h1
              go_wp2_with fail
              go_ret
              exact ⟨ret_bool HE.out.symm, rfl⟩
      · have hd' : ((d1 : Int) == 0) = false := by simpa using hd
        clear hd
        go_upto_region 13 with fail
        clear hz' hdr hs3 hs3'
        generalize hE : r.extract (Plain.da r.data.toList) r.size = s3 at *
        have hs3 := hr3
        clear hE hr3
        by_cases hz3 : s3.size = 0
        · have he := isEmpty_of hz3
          have HE : Hid (Plain.num s.data.toList = true) := by unfold Hid; rw [HF.out, expo_nil hz3]
          clear HF hz3
          go_wp2_with fail
          go_ret
          exact ⟨ret_bool HE.out.symm, rfl⟩
        · have he := isEmpty_not hz3
          have h0 : 0 < s3.size := by omega
          have hs3'' := hs3
          unfold maxLen at hs3''
          by_cases h1 : ((s3[0].toNat : Int) == 69) = true
          · have HE := Eq.trans HF.out (expo_yes h0 (.inl h1))
            have HE : Hid (_ = _) := HE
            clear HF hz3
            go_upto_region 15 with fail
            have hs4 := ex1_le s3 _ hs3
            generalize s3.extract 1 s3.size = s4 at *
            have hs4' := hs4
            unfold maxLen at hs4'
            by_cases hz4 : s4.size = 0
            · have he4 := isEmpty_of hz4
              have HG : Hid (Plain.num s.data.toList = tl s4) := four_nil hz4 HE.out
              clear HE hz4
              go_wp2_with fail
              have hd5 : Plain.da s4.data.toList ≤ s4.size := by rw [← len_size]; exact da_le _
              refine (digits_any _ _ hs4).mono ?_
              rintro e w' ⟨rfl, rfl⟩
              by_cases hz5 : (((Plain.da s4.data.toList : Nat) : Int) == 0) = true
              · have HT : Hid (Plain.num s.data.toList = false) := by unfold Hid; rw [HG.out, tl_no hz5]
                clear HG
                generalize Plain.da s4.data.toList = d5 at *
                go_wp2_with fail
                go_ret
                exact ⟨ret_bool HT.out.symm, rfl⟩
              · have hz5' : (((Plain.da s4.data.toList : Nat) : Int) == 0) = false := by simpa using hz5
                have HT : Hid (Plain.num s.data.toList = (s4.extract (Plain.da s4.data.toList) s4.size).toList.isEmpty) := by unfold Hid; rw [HG.out, tl_yes hz5']
                clear HG hz5
                generalize Plain.da s4.data.toList = d5 at *
                go_wp2_with fail
                go_ret
                exact ⟨ret_bool HT.out.symm, rfl⟩
            · have he4 := isEmpty_not hz4
              have h04 : 0 < s4.size := by omega
              by_cases h43 : ((s4[0].toNat : Int) == 43) = true
              · have HG : Hid (Plain.num s.data.toList = tl (s4.extract 1 s4.size)) := four_sign h04 (.inl h43) HE.out
                have hs5 := ex1_le s4 _ hs4
                clear HE hz4
                go_wp2_with fail
                generalize s4.extract 1 s4.size = s5 at *
                have hs5' := hs5
                unfold maxLen at hs5'
                have hd5 : Plain.da s5.data.toList ≤ s5.size := by rw [← len_size]; exact da_le _
                refine (digits_any _ _ hs5).mono ?_
                rintro e w' ⟨rfl, rfl⟩
                by_cases hz5 : (((Plain.da s5.data.toList : Nat) : Int) == 0) = true
                · have HT : Hid (Plain.num s.data.toList = false) := by unfold Hid; rw [HG.out, tl_no hz5]
                  clear HG
                  generalize Plain.da s5.data.toList = d5 at *
                  go_wp2_with fail
                  go_ret
                  exact ⟨ret_bool HT.out.symm, rfl⟩
                · have hz5' : (((Plain.da s5.data.toList : Nat) : Int) == 0) = false := by simpa using hz5
                  have HT : Hid (Plain.num s.data.toList = (s5.extract (Plain.da s5.data.toList) s5.size).toList.isEmpty) := by unfold Hid; rw [HG.out, tl_yes hz5']
                  clear HG hz5
                  generalize Plain.da s5.data.toList = d5 at *
                  go_wp2_with fail
                  go_ret
                  exact ⟨ret_bool HT.out.symm, rfl⟩
              · have h43' : ((s4[0].toNat : Int) == 43) = false := by simpa using h43
                clear h43
                by_cases h45s : ((s4[0].toNat : Int) == 45) = true
                · have HG : Hid (Plain.num s.data.toList = tl (s4.extract 1 s4.size)) := four_sign h04 (.inr h45s) HE.out
                  have hs5 := ex1_le s4 _ hs4
                  clear HE hz4
                  go_wp2_with fail
                  generalize s4.extract 1 s4.size = s5 at *
                  have hs5' := hs5
                  unfold maxLen at hs5'
                  have hd5 : Plain.da s5.data.toList ≤ s5.size := by rw [← len_size]; exact da_le _
                  refine (digits_any _ _ hs5).mono ?_
                  rintro e w' ⟨rfl, rfl⟩
                  by_cases hz5 : (((Plain.da s5.data.toList : Nat) : Int) == 0) = true
                  · have HT : Hid (Plain.num s.data.toList = false) := by unfold Hid; rw [HG.out, tl_no hz5]
                    clear HG
                    generalize Plain.da s5.data.toList = d5 at *
                    go_wp2_with fail
                    go_ret
                    exact ⟨ret_bool HT.out.symm, rfl⟩
                  · have hz5' : (((Plain.da s5.data.toList : Nat) : Int) == 0) = false := by simpa using hz5
                    have HT : Hid (Plain.num s.data.toList = (s5.extract (Plain.da s5.data.toList) s5.size).toList.isEmpty) := by unfold Hid; rw [HG.out, tl_yes hz5']
                    clear HG hz5
                    generalize Plain.da s5.data.toList = d5 at *
                    go_wp2_with fail
                    go_ret
                    exact ⟨ret_bool HT.out.symm, rfl⟩
                · have h45s' : ((s4[0].toNat : Int) == 45) = false := by simpa using h45s
                  have HG : Hid (Plain.num s.data.toList = tl s4) := four_bare h04 h43' h45s' HE.out
                  clear HE hz4 h45s
                  go_wp2_with fail
                  have hd5 : Plain.da s4.data.toList ≤ s4.size := by rw [← len_size]; exact da_le _
                  refine (digits_any _ _ hs4).mono ?_
                  rintro e w' ⟨rfl, rfl⟩
                  by_cases hz5 : (((Plain.da s4.data.toList : Nat) : Int) == 0) = true
                  · have HT : Hid (Plain.num s.data.toList = false) := by unfold Hid; rw [HG.out, tl_no hz5]
                    clear HG
                    generalize Plain.da s4.data.toList = d5 at *
                    go_wp2_with fail
                    go_ret
                    exact ⟨ret_bool HT.out.symm, rfl⟩
                  · have hz5' : (((Plain.da s4.data.toList : Nat) : Int) == 0) = false := by simpa using hz5
                    have HT : Hid (Plain.num s.data.toList = (s4.extract (Plain.da s4.data.toList) s4.size).toList.isEmpty) := by unfold Hid; rw [HG.out, tl_yes hz5']
                    clear HG hz5
                    generalize Plain.da s4.data.toList = d5 at *
                    go_wp2_with fail
                    go_ret
                    exact ⟨ret_bool HT.out.symm, rfl⟩
          · have h1' : ((s3[0].toNat : Int) == 69) = false := by simpa using h1
            clear h1
            by_cases h1 : ((s3[0].toNat : Int) == 101) = true
            · have HE := Eq.trans HF.out (expo_yes h0 (.inr h1))
              have HE : Hid (_ = _) := HE
              clear HF hz3
              go_upto_region 15 with fail
              have hs4 := ex1_le s3 _ hs3
              generalize s3.extract 1 s3.size = s4 at *
              have hs4' := hs4
              unfold maxLen at hs4'
              by_cases hz4 : s4.size = 0
              · have he4 := isEmpty_of hz4
                have HG : Hid (Plain.num s.data.toList = tl s4) := four_nil hz4 HE.out
                clear HE hz4
                go_wp2_with fail
                have hd5 : Plain.da s4.data.toList ≤ s4.size := by rw [← len_size]; exact da_le _
                refine (digits_any _ _ hs4).mono ?_
                rintro e w' ⟨rfl, rfl⟩
                by_cases hz5 : (((Plain.da s4.data.toList : Nat) : Int) == 0) = true
                · have HT : Hid (Plain.num s.data.toList = false) := by unfold Hid; rw [HG.out, tl_no hz5]
                  clear HG
                  generalize Plain.da s4.data.toList = d5 at *
                  go_wp2_with fail
                  go_ret
                  exact ⟨ret_bool HT.out.symm, rfl⟩
                · have hz5' : (((Plain.da s4.data.toList : Nat) : Int) == 0) = false := by simpa using hz5
                  have HT : Hid (Plain.num s.data.toList = (s4.extract (Plain.da s4.data.toList) s4.size).toList.isEmpty) := by unfold Hid; rw [HG.out, tl_yes hz5']
                  clear HG hz5
                  generalize Plain.da s4.data.toList = d5 at *
                  go_wp2_with fail
                  go_ret
                  exact ⟨ret_bool HT.out.symm, rfl⟩
              · have he4 := isEmpty_not hz4
                have h04 : 0 < s4.size := by omega
                by_cases h43 : ((s4[0].toNat : Int) == 43) = true
                · have HG : Hid (Plain.num s.data.toList = tl (s4.extract 1 s4.size)) := four_sign h04 (.inl h43) HE.out
                  have hs5 := ex1_le s4 _ hs4
                  clear HE hz4
                  go_wp2_with fail
                  generalize s4.extract 1 s4.size = s5 at *
                  have hs5' := hs5
                  unfold maxLen at hs5'
                  have hd5 : Plain.da s5.data.toList ≤ s5.size := by rw [← len_size]; exact da_le _
                  refine (digits_any _ _ hs5).mono ?_
                  rintro e w' ⟨rfl, rfl⟩
                  by_cases hz5 : (((Plain.da s5.data.toList : Nat) : Int) == 0) = true
                  · have HT : Hid (Plain.num s.data.toList = false) := by unfold Hid; rw [HG.out, tl_no hz5]
                    clear HG
                    generalize Plain.da s5.data.toList = d5 at *
                    go_wp2_with fail
                    go_ret
                    exact ⟨ret_bool HT.out.symm, rfl⟩
                  · have hz5' : (((Plain.da s5.data.toList : Nat) : Int) == 0) = false := by simpa using hz5
                    have HT : Hid (Plain.num s.data.toList = (s5.extract (Plain.da s5.data.toList) s5.size).toList.isEmpty) := by unfold Hid; rw [HG.out, tl_yes hz5']
                    clear HG hz5
                    generalize Plain.da s5.data.toList = d5 at *
                    go_wp2_with fail
                    go_ret
                    exact ⟨ret_bool HT.out.symm, rfl⟩
                · have h43' : ((s4[0].toNat : Int) == 43) = false := by simpa using h43
                  clear h43
                  by_cases h45s : ((s4[0].toNat : Int) == 45) = true
                  · have HG : Hid (Plain.num s.data.toList = tl (s4.extract 1 s4.size)) := four_sign h04 (.inr h45s) HE.out
                    have hs5 := ex1_le s4 _ hs4
                    clear HE hz4
                    go_wp2_with fail
                    generalize s4.extract 1 s4.size = s5 at *
                    have hs5' := hs5
                    unfold maxLen at hs5'
                    have hd5 : Plain.da s5.data.toList ≤ s5.size := by rw [← len_size]; exact da_le _
                    refine (digits_any _ _ hs5).mono ?_
                    rintro e w' ⟨rfl, rfl⟩
                    by_cases hz5 : (((Plain.da s5.data.toList : Nat) : Int) == 0) = true
                    · have HT : Hid (Plain.num s.data.toList = false) := by unfold Hid; rw [HG.out, tl_no hz5]
                      clear HG
                      generalize Plain.da s5.data.toList = d5 at *
                      go_wp2_with fail
                      go_ret
                      exact ⟨ret_bool HT.out.symm, rfl⟩
                    · have hz5' : (((Plain.da s5.data.toList : Nat) : Int) == 0) = false := by simpa using hz5
                      have HT : Hid (Plain.num s.data.toList = (s5.extract (Plain.da s5.data.toList) s5.size).toList.isEmpty) := by unfold Hid; rw [HG.out, tl_yes hz5']
                      clear HG hz5
                      generalize Plain.da s5.data.toList = d5 at *
                      go_wp2_with fail
                      go_ret
                      exact ⟨ret_bool HT.out.symm, rfl⟩
                  · have h45s' : ((s4[0].toNat : Int) == 45) = false := by simpa using h45s
                    have HG : Hid (Plain.num s.data.toList = tl s4) := four_bare h04 h43' h45s' HE.out
                    clear HE hz4 h45s
                    go_wp2_with fail
                    have hd5 : Plain.da s4.data.toList ≤ s4.size := by rw [← len_size]; exact da_le _
                    refine (digits_any _ _ hs4).mono ?_
                    rintro e w' ⟨rfl, rfl⟩
                    by_cases hz5 : (((Plain.da s4.data.toList : Nat) : Int) == 0) = true
                    · have HT : Hid (Plain.num s.data.toList = false) := by unfold Hid; rw [HG.out, tl_no hz5]
                      clear HG
                      generalize Plain.da s4.data.toList = d5 at *
                      go_wp2_with fail
                      go_ret
                      exact ⟨ret_bool HT.out.symm, rfl⟩
                    · have hz5' : (((Plain.da s4.data.toList : Nat) : Int) == 0) = false := by simpa using hz5
                      have HT : Hid (Plain.num s.data.toList = (s4.extract (Plain.da s4.data.toList) s4.size).toList.isEmpty) := by unfold Hid; rw [HG.out, tl_yes hz5']
                      clear HG hz5
                      generalize Plain.da s4.data.toList = d5 at *
                      go_wp2_with fail
                      go_ret
                      exact ⟨ret_bool HT.out.symm, rfl⟩
            · have h2' : ((s3[0].toNat : Int) == 101) = false := by simpa using h1
              have HE : Hid (Plain.num s.data.toList = false) := by unfold Hid; rw [HF.out, expo_no h0 h1' h2']
              clear HF hz3 h1
              go_wp2_with fail
              go_ret
              exact ⟨ret_bool HE.out.symm, rfl⟩
  · have hp' : hpB s2 ⟨#[46]⟩ = false := by simpa using hp
    have ht2 : Hid (tpS s2 ⟨#[46]⟩ = s2) := by unfold Hid tpS; rw [if_neg hp]
    have hb2 : Hid (Plain.num s.data.toList = if d1 = 0 then false else Plain.expo s2.data.toList) := by
      unfold Hid
      rw [hb.out]
      rw [hp'] at hq
      cases h : s2.data.toList with
      | nil => rfl
      | cons c r =>
        rw [h] at hq
        have hc : ¬ c = 46 := by simpa using hq.symm
        have hc' := u8_ne hc
        simp at hc'
        simp [hc']
    clear hb ht hq hp
    rw [ht2.out] at hs3 ⊢
    clear ht2 hs2
    by_cases hd : ((d1 : Int) == 0) = true
    · have HF : Hid (Plain.num s.data.toList = false) := by unfold Hid; rw [hb2.out, if_pos (by simp at hd; omega)]
      clear hb2
      go_wp2_with fail
      go_ret
      exact ⟨ret_bool HF.out.symm, rfl⟩
    · have hd' : ((d1 : Int) == 0) = false := by simpa using hd
      have HF : Hid (Plain.num s.data.toList = Plain.expo s2.data.toList) := by unfold Hid; rw [hb2.out, if_neg (by simp at hd; omega)]
      clear hb2 hd
      go_upto_region 13 with fail
      generalize hE : s2 = s3 at *
      clear hE
      by_cases hz3 : s3.size = 0
      · have he := isEmpty_of hz3
        have HE : Hid (Plain.num s.data.toList = true) := by unfold Hid; rw [HF.out, expo_nil hz3]
        clear HF hz3
        go_wp2_with fail
        go_ret
        exact ⟨ret_bool HE.out.symm, rfl⟩
      · have he := isEmpty_not hz3
        have h0 : 0 < s3.size := by omega
        have hs3'' := hs3
        unfold maxLen at hs3''
        by_cases h1 : ((s3[0].toNat : Int) == 69) = true
        · have HE := Eq.trans HF.out (expo_yes h0 (.inl h1))
          have HE : Hid (_ = _) := HE
          clear HF hz3
          go_upto_region 15 with fail
          have hs4 := ex1_le s3 _ hs3
          generalize s3.extract 1 s3.size = s4 at *
          have hs4' := hs4
          unfold maxLen at hs4'
          by_cases hz4 : s4.size = 0
          · have he4 := isEmpty_of hz4
            have HG : Hid (Plain.num s.data.toList = tl s4) := four_nil hz4 HE.out
            clear HE hz4
            go_wp2_with fail
            have hd5 : Plain.da s4.data.toList ≤ s4.size := by rw [← len_size]; exact da_le _
            refine (digits_any _ _ hs4).mono ?_
            rintro e w' ⟨rfl, rfl⟩
            by_cases hz5 : (((Plain.da s4.data.toList : Nat) : Int) == 0) = true
            · have HT : Hid (Plain.num s.data.toList = false) := by unfold Hid; rw [HG.out, tl_no hz5]
              clear HG
              generalize Plain.da s4.data.toList = d5 at *
              go_wp2_with fail
              go_ret
              exact ⟨ret_bool HT.out.symm, rfl⟩
            · have hz5' : (((Plain.da s4.data.toList : Nat) : Int) == 0) = false := by simpa using hz5
              have HT : Hid (Plain.num s.data.toList = (s4.extract (Plain.da s4.data.toList) s4.size).toList.isEmpty) := by unfold Hid; rw [HG.out, tl_yes hz5']
              clear HG hz5
              generalize Plain.da s4.data.toList = d5 at *
              go_wp2_with fail
              go_ret
              exact ⟨ret_bool HT.out.symm, rfl⟩
          · have he4 := isEmpty_not hz4
            have h04 : 0 < s4.size := by omega
            by_cases h43 : ((s4[0].toNat : Int) == 43) = true
            · have HG : Hid (Plain.num s.data.toList = tl (s4.extract 1 s4.size)) := four_sign h04 (.inl h43) HE.out
              have hs5 := ex1_le s4 _ hs4
              clear HE hz4
              go_wp2_with fail
              generalize s4.extract 1 s4.size = s5 at *
              have hs5' := hs5
              unfold maxLen at hs5'
              have hd5 : Plain.da s5.data.toList ≤ s5.size := by rw [← len_size]; exact da_le _
              refine (digits_any _ _ hs5).mono ?_
              rintro e w' ⟨rfl, rfl⟩
              by_cases hz5 : (((Plain.da s5.data.toList : Nat) : Int) == 0) = true
              · have HT : Hid (Plain.num s.data.toList = false) := by unfold Hid; rw [HG.out, tl_no hz5]
                clear HG
                generalize Plain.da s5.data.toList = d5 at *
                go_wp2_with fail
                go_ret
                exact ⟨ret_bool HT.out.symm, rfl⟩
              · have hz5' : (((Plain.da s5.data.toList : Nat) : Int) == 0) = false := by simpa using hz5
                have HT : Hid (Plain.num s.data.toList = (s5.extract (Plain.da s5.data.toList) s5.size).toList.isEmpty) := by unfold Hid; rw [HG.out, tl_yes hz5']
                clear HG hz5
                generalize Plain.da s5.data.toList = d5 at *
                go_wp2_with fail
                go_ret
                exact ⟨ret_bool HT.out.symm, rfl⟩
            · have h43' : ((s4[0].toNat : Int) == 43) = false := by simpa using h43
              clear h43
              by_cases h45s : ((s4[0].toNat : Int) == 45) = true
              · have HG : Hid (Plain.num s.data.toList = tl (s4.extract 1 s4.size)) := four_sign h04 (.inr h45s) HE.out
                have hs5 := ex1_le s4 _ hs4
                clear HE hz4
                go_wp2_with fail
                generalize s4.extract 1 s4.size = s5 at *
                have hs5' := hs5
                unfold maxLen at hs5'
                have hd5 : Plain.da s5.data.toList ≤ s5.size := by rw [← len_size]; exact da_le _
                refine (digits_any _ _ hs5).mono ?_
                rintro e w' ⟨rfl, rfl⟩
                by_cases hz5 : (((Plain.da s5.data.toList : Nat) : Int) == 0) = true
                · have HT : Hid (Plain.num s.data.toList = false) := by unfold Hid; rw [HG.out, tl_no hz5]
                  clear HG
                  generalize Plain.da s5.data.toList = d5 at *
                  go_wp2_with fail
                  go_ret
                  exact ⟨ret_bool HT.out.symm, rfl⟩
                · have hz5' : (((Plain.da s5.data.toList : Nat) : Int) == 0) = false := by simpa using hz5
                  have HT : Hid (Plain.num s.data.toList = (s5.extract (Plain.da s5.data.toList) s5.size).toList.isEmpty) := by unfold Hid; rw [HG.out, tl_yes hz5']
                  clear HG hz5
                  generalize Plain.da s5.data.toList = d5 at *
                  go_wp2_with fail
                  go_ret
                  exact ⟨ret_bool HT.out.symm, rfl⟩
              · have h45s' : ((s4[0].toNat : Int) == 45) = false := by simpa using h45s
                have HG : Hid (Plain.num s.data.toList = tl s4) := four_bare h04 h43' h45s' HE.out
                clear HE hz4 h45s
                go_wp2_with fail
                have hd5 : Plain.da s4.data.toList ≤ s4.size := by rw [← len_size]; exact da_le _
                refine (digits_any _ _ hs4).mono ?_
                rintro e w' ⟨rfl, rfl⟩
                by_cases hz5 : (((Plain.da s4.data.toList : Nat) : Int) == 0) = true
                · have HT : Hid (Plain.num s.data.toList = false) := by unfold Hid; rw [HG.out, tl_no hz5]
                  clear HG
                  generalize Plain.da s4.data.toList = d5 at *
                  go_wp2_with fail
                  go_ret
                  exact ⟨ret_bool HT.out.symm, rfl⟩
                · have hz5' : (((Plain.da s4.data.toList : Nat) : Int) == 0) = false := by simpa using hz5
                  have HT : Hid (Plain.num s.data.toList = (s4.extract (Plain.da s4.data.toList) s4.size).toList.isEmpty) := by unfold Hid; rw [HG.out, tl_yes hz5']
                  clear HG hz5
                  generalize Plain.da s4.data.toList = d5 at *
                  go_wp2_with fail
                  go_ret
                  exact ⟨ret_bool HT.out.symm, rfl⟩
        · have h1' : ((s3[0].toNat : Int) == 69) = false := by simpa using h1
          clear h1
          by_cases h1 : ((s3[0].toNat : Int) == 101) = true
          · have HE := Eq.trans HF.out (expo_yes h0 (.inr h1))
            have HE : Hid (_ = _) := HE
            clear HF hz3
            go_upto_region 15 with fail
            have hs4 := ex1_le s3 _ hs3
            generalize s3.extract 1 s3.size = s4 at *
            have hs4' := hs4
            unfold maxLen at hs4'
            by_cases hz4 : s4.size = 0
            · have he4 := isEmpty_of hz4
              have HG : Hid (Plain.num s.data.toList = tl s4) := four_nil hz4 HE.out
              clear HE hz4
              go_wp2_with fail
              have hd5 : Plain.da s4.data.toList ≤ s4.size := by rw [← len_size]; exact da_le _
              refine (digits_any _ _ hs4).mono ?_
              rintro e w' ⟨rfl, rfl⟩
              by_cases hz5 : (((Plain.da s4.data.toList : Nat) : Int) == 0) = true
              · have HT : Hid (Plain.num s.data.toList = false) := by unfold Hid; rw [HG.out, tl_no hz5]
                clear HG
                generalize Plain.da s4.data.toList = d5 at *
                go_wp2_with fail
                go_ret
                exact ⟨ret_bool HT.out.symm, rfl⟩
              · have hz5' : (((Plain.da s4.data.toList : Nat) : Int) == 0) = false := by simpa using hz5
                have HT : Hid (Plain.num s.data.toList = (s4.extract (Plain.da s4.data.toList) s4.size).toList.isEmpty) := by unfold Hid; rw [HG.out, tl_yes hz5']
                clear HG hz5
                generalize Plain.da s4.data.toList = d5 at *
                go_wp2_with fail
                go_ret
                exact ⟨ret_bool HT.out.symm, rfl⟩
            · have he4 := isEmpty_not hz4
              have h04 : 0 < s4.size := by omega
              by_cases h43 : ((s4[0].toNat : Int) == 43) = true
              · have HG : Hid (Plain.num s.data.toList = tl (s4.extract 1 s4.size)) := four_sign h04 (.inl h43) HE.out
                have hs5 := ex1_le s4 _ hs4
                clear HE hz4
                go_wp2_with fail
                generalize s4.extract 1 s4.size = s5 at *
                have hs5' := hs5
                unfold maxLen at hs5'
                have hd5 : Plain.da s5.data.toList ≤ s5.size := by rw [← len_size]; exact da_le _
                refine (digits_any _ _ hs5).mono ?_
                rintro e w' ⟨rfl, rfl⟩
                by_cases hz5 : (((Plain.da s5.data.toList : Nat) : Int) == 0) = true
                · have HT : Hid (Plain.num s.data.toList = false) := by unfold Hid; rw [HG.out, tl_no hz5]
                  clear HG
                  generalize Plain.da s5.data.toList = d5 at *
                  go_wp2_with fail
                  go_ret
                  exact ⟨ret_bool HT.out.symm, rfl⟩
                · have hz5' : (((Plain.da s5.data.toList : Nat) : Int) == 0) = false := by simpa using hz5
                  have HT : Hid (Plain.num s.data.toList = (s5.extract (Plain.da s5.data.toList) s5.size).toList.isEmpty) := by unfold Hid; rw [HG.out, tl_yes hz5']
                  clear HG hz5
                  generalize Plain.da s5.data.toList = d5 at *
                  go_wp2_with fail
                  go_ret
                  exact ⟨ret_bool HT.out.symm, rfl⟩
              · have h43' : ((s4[0].toNat : Int) == 43) = false := by simpa using h43
                clear h43
                by_cases h45s : ((s4[0].toNat : Int) == 45) = true
                · have HG : Hid (Plain.num s.data.toList = tl (s4.extract 1 s4.size)) := four_sign h04 (.inr h45s) HE.out
                  have hs5 := ex1_le s4 _ hs4
                  clear HE hz4
                  go_wp2_with fail
                  generalize s4.extract 1 s4.size = s5 at *
                  have hs5' := hs5
                  unfold maxLen at hs5'
                  have hd5 : Plain.da s5.data.toList ≤ s5.size := by rw [← len_size]; exact da_le _
                  refine (digits_any _ _ hs5).mono ?_
                  rintro e w' ⟨rfl, rfl⟩
                  by_cases hz5 : (((Plain.da s5.data.toList : Nat) : Int) == 0) = true
                  · have HT : Hid (Plain.num s.data.toList = false) := by unfold Hid; rw [HG.out, tl_no hz5]
                    clear HG
                    generalize Plain.da s5.data.toList = d5 at *
                    go_wp2_with fail
                    go_ret
                    exact ⟨ret_bool HT.out.symm, rfl⟩
                  · have hz5' : (((Plain.da s5.data.toList : Nat) : Int) == 0) = false := by simpa using hz5
                    have HT : Hid (Plain.num s.data.toList = (s5.extract (Plain.da s5.data.toList) s5.size).toList.isEmpty) := by unfold Hid; rw [HG.out, tl_yes hz5']
                    clear HG hz5
                    generalize Plain.da s5.data.toList = d5 at *
                    go_wp2_with fail
                    go_ret
                    exact ⟨ret_bool HT.out.symm, rfl⟩
                · have h45s' : ((s4[0].toNat : Int) == 45) = false := by simpa using h45s
                  have HG : Hid (Plain.num s.data.toList = tl s4) := four_bare h04 h43' h45s' HE.out
                  clear HE hz4 h45s
                  go_wp2_with fail
                  have hd5 : Plain.da s4.data.toList ≤ s4.size := by rw [← len_size]; exact da_le _
                  refine (digits_any _ _ hs4).mono ?_
                  rintro e w' ⟨rfl, rfl⟩
                  by_cases hz5 : (((Plain.da s4.data.toList : Nat) : Int) == 0) = true
                  · have HT : Hid (Plain.num s.data.toList = false) := by unfold Hid; rw [HG.out, tl_no hz5]
                    clear HG
                    generalize Plain.da s4.data.toList = d5 at *
                    go_wp2_with fail
                    go_ret
                    exact ⟨ret_bool HT.out.symm, rfl⟩
                  · have hz5' : (((Plain.da s4.data.toList : Nat) : Int) == 0) = false := by simpa using hz5
                    have HT : Hid (Plain.num s.data.toList = (s4.extract (Plain.da s4.data.toList) s4.size).toList.isEmpty) := by unfold Hid; rw [HG.out, tl_yes hz5']
                    clear HG hz5
                    generalize Plain.da s4.data.toList = d5 at *
                    go_wp2_with fail
                    go_ret
                    exact ⟨ret_bool HT.out.symm, rfl⟩
          · have h2' : ((s3[0].toNat : Int) == 101) = false := by simpa using h1
            have HE : Hid (Plain.num s.data.toList = false) := by unfold Hid; rw [HF.out, expo_no h0 h1' h2']
            clear HF hz3 h1
            go_wp2_with fail
            go_ret
            exact ⟨ret_bool HE.out.symm, rfl⟩

end Go.Proofs.Qxb6602120a
