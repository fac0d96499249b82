import Derived.Test.Qxb6602204aClsA
import Derived.Deep.Cut
import Derived.Deep.CutRange
import Derived.Deep.RegionHeld3
namespace Go.Proofs.Qxb6602204a
open Go.RowKit
set_option linter.unusedVariables false

set_option maxRecDepth 100000 in
set_option maxHeartbeats 8000000 in
theorem cls_walk (b0 n : Nat) (nd : Nat → Nat → Nat) (x y l : Nat) (s : Int) (w : World) (hn : (n : Int) ≤ 4096) (hpos : 0 < n) (hN : Nodes w b0 0 n nd)
    (hl : (l : Int) ≤ 31) (hs : Hid (s = 2 * (l : Int))) (WX : Hid (Plain.wf n nd l x)) (WY : Hid (Plain.wf n nd l y)) :
    Calls Try.prog 13 #[.slice (some ⟨b0, 0, none⟩) n n, .int .u64 x, .int .u64 y, .int .u64 s] w fun e w' =>
      ∃ r : Bool, e = .returned (.bool r) ∧ (r = true ↔ Plain.same nd l x y) ∧ Below w.heap.size w w' := by
  have hbN : b0 < w.heap.size := lt_of_cell (hN 0 0 hpos (by omega))
  obtain ⟨i4, hi4, hz40, hz41, hz42⟩ := info_parts info4
  obtain ⟨i39, hi39, hz390, hz391, hz392⟩ := info_parts info39
  obtain ⟨i3, hi3, hz30, hz31, hz32⟩ := info_parts info3
  have hx : x < n := Plain.wf_lt WX.out
  have hy : y < n := Plain.wf_lt WY.out
  have hxI : (x : Int) < n := by omega
  have hyI : (y : Int) < n := by omega
  have hq : s / 2 = l := by have := hs.out; omega
  have hq2 : s.tdiv 2 = l := by have := hs.out; rw [this]; exact Int.mul_tdiv_cancel_left _ (by decide)
  have hwl : IntKind.i64.wrap (l : Int) = l := by simp [IntKind.wrap, IntKind.bits, IntKind.signed]; omega
  have hwl2 : IntKind.u64.wrap (l : Int) = l := by simp [IntKind.wrap, IntKind.bits, IntKind.signed]; omega
  go_enter Try.func13, Try.ntmps13
  go_upto_region 4 with (at_make; refine wpList_make_full _ rfl _ _ 51 rfl w.heap.size 39 i39 _ 1 Try.underlying51 hi39 hz390 hz391 _ _ _ _ (l + 1) rfl rfl rfl rfl (by rw [hz392]; omega) (by unfold maxLen; omega) (Nat.le_refl _) ?_; intro w1 hown1 hgrow1)
  have V1 := rowV_made rfl hown1
  have B1 : Below w.heap.size w w1 := (Below.refl _ _).grown hgrow1 (Nat.le_refl _) (fun k h => by cases h)
  clear hown1 hgrow1
  go_upto_region 5 with (at_make; refine wpList_make_full _ rfl _ _ 39 rfl w1.heap.size 4 i4 _ 1 Try.underlying39 hi4 hz40 hz41 _ _ _ _ n rfl rfl rfl rfl (by rw [hz42]; omega) (by unfold maxLen; omega) (Nat.le_refl _) ?_; intro w2 hown2 hgrow2)
  have B2 : Below w1.heap.size w1 w2 := (Below.refl _ _).grown hgrow2 (Nat.le_refl _) (fun k h => by cases h)
  have R2 := BoolRow.made hown2
  have V2 := V1.below B2 V1.lt
  have hVl := V1.lt
  clear hown2 hgrow2
  have R3 := R2.set x
  have R4 := R3.set y
  have d1 := R2.cell hx
  have d2 := R3.cell hy
  have f1 := fun i => R2.free i
  have f2 := fun i => V2.frozen i
  have hll : (l : Int) < (l : Int) + 1 := by omega
  have d3 : w2.cell? ⟨w.heap.size, l, none⟩ = some (.slice none 0 0) := by rw [V2.cell]; simp
  have d4 : ((w2.setCell ⟨w1.heap.size, x, none⟩ (.bool true)).setCell ⟨w1.heap.size, y, none⟩ (.bool true)).cell? ⟨w.heap.size, l, none⟩ = some (.slice none 0 0) := by
    rw [((V2.other (a := ⟨w1.heap.size, x, none⟩) (by show w.heap.size ≠ w1.heap.size; omega) (.bool true)).other (a := ⟨w1.heap.size, y, none⟩) (by show w.heap.size ≠ w1.heap.size; omega) (.bool true)).cell]; simp
  have V4 := (V2.other (a := ⟨w1.heap.size, x, none⟩) (by show w.heap.size ≠ w1.heap.size; omega) (.bool true)).other (a := ⟨w1.heap.size, y, none⟩) (by show w.heap.size ≠ w1.heap.size; omega) (.bool true)
  have HW : ∀ z, (((List.replicate n false).set x true).set y true).getD z false = true → Plain.wf n nd l z := fun z hz => by
    rcases getD_set_inv _ _ _ hz with h | h
    · rcases getD_set_inv _ _ _ h with h | h
      · rw [getD_rep] at h; cases h
      · subst h; exact WX.out
    · subst h; exact WY.out
  have RR : Reach n nd l w.heap.size l (fun _ => w1.heap.size) (fun _ => ((List.replicate n false).set x true).set y true) x y _ :=
    Reach.start V4 (by simp) R4 HW (getD_set_true _ _ _ (getD_set_self _ _ (by simp; omega))) (getD_set_self _ _ (by simp; omega))
  have B5 : Below w.heap.size w (((w2.setCell ⟨w1.heap.size, x, none⟩ (.bool true)).setCell ⟨w1.heap.size, y, none⟩ (.bool true)).setCell ⟨w.heap.size, l, none⟩ (.slice (some ⟨w1.heap.size, 0, none⟩) n n)) :=
    (((B1.trans (B2.mono B1.size)).setCell B1.size _).setCell B1.size _).setCell (Nat.le_refl _) _
  clear HW
  generalize (fun _ => ((List.replicate n false).set x true).set y true : Nat → List Bool) = Rs0 at RR
  generalize (fun _ => w1.heap.size : Nat → Nat) = G0 at RR
  go_upto_region 8 with fail
  clear d1 d2 d3 d4 f1 f2 R2 R3 R4 V1 V2 V4 B1 B2 hll
  generalize (((w2.setCell ⟨w1.heap.size, x, none⟩ (.bool true)).setCell ⟨w1.heap.size, y, none⟩ (.bool true)).setCell ⟨w.heap.size, l, none⟩ (.slice (some ⟨w1.heap.size, 0, none⟩) n n)) = w5 at RR B5 ⊢
  go_wp2_with fail
  go_loopw [13] (fun kv wr => ∃ (k : Nat) (G : Nat → Nat) (Rs : Nat → List Bool), (k : Int) ≤ l ∧ kv = .int .i64 k ∧ Reach n nd l w.heap.size k G Rs x y wr ∧ Below w.heap.size w wr) (fun kv _ => (intOf kv).toNat)
  case atStart => exact ⟨l, G0, Rs0, Int.le_refl _, rfl, RR, B5⟩
  case round =>
    obtain ⟨k, G, Rs, hk, rfl, R, hnx⟩ := hrel
    clear RR B5
    cases k with
    | succ k =>
      have hk1 : (k : Int) + 1 ≤ l := by omega
      obtain ⟨W, rfl⟩ : ∃ W, W = wr := ⟨wr, rfl⟩
      have hNW : w.heap.size ≤ W.heap.size := hnx.size
      go_wp2_with (at_make; refine wpList_make_full _ rfl _ _ 39 rfl W.heap.size 4 i4 _ 1 Try.underlying39 hi4 hz40 hz41 _ _ _ _ n rfl rfl rfl rfl (by rw [hz42]; omega) (by unfold maxLen; omega) (Nat.le_refl _) ?_; intro w6 hown6 hgrow6)
      have R6 := BoolRow.made hown6
      have B6 : Below W.heap.size W w6 := (Below.refl _ _).grown hgrow6 (Nat.le_refl _) (fun k h => by cases h)
      clear hown6 hgrow6
      go_loopw [15] (fun iv wx => ∃ (i : Nat) (b2 : List Bool), i ≤ n ∧ iv = .int .i64 i ∧ BoolRow wx W.heap.size n b2 ∧ Below W.heap.size W wx ∧ Hid (∀ z, b2.getD z false = true → Plain.wf n nd k z) ∧
          Hid (∀ z, z < i → (Rs (k + 1)).getD z false = true → ∀ c, c < 4 → b2.getD (nd z c) false = true)) (fun iv _ => n - (intOf iv).toNat)
      case atStart => exact ⟨0, List.replicate n false, Nat.zero_le _, rfl, R6, B6, (fun z hz => Bool.noConfusion ((getD_rep n z).symm.trans hz) : ∀ z, (List.replicate n false).getD z false = true → Plain.wf n nd k z), fun z hz => by omega⟩
      case round =>
        obtain ⟨i, b2, hin, rfl, R7, B7, HF, HP⟩ := hrel
        clear R6 B6
        obtain ⟨V, rfl⟩ : ∃ V, V = wr := ⟨wr, rfl⟩
        have RV := R.below B7
        by_cases hil : i < n
        · have hiI : (i : Int) < n := by omega
          have cs := RV.cellS (j := k + 1) (Nat.le_refl _) (by omega)
          have ci := RV.cellB (j := k + 1) (Nat.le_refl _) (by omega) hil
          cases hbi : (Rs (k + 1)).getD i false with
          | false =>
            rw [hbi] at ci
            have HP2 : Hid (∀ z, z < i + 1 → (Rs (k + 1)).getD z false = true → ∀ c, c < 4 → b2.getD (nd z c) false = true) := fun z hz hbz => by
              by_cases e : z = i
              · subst e; rw [hbi] at hbz; cases hbz
              · exact HP.out z (by omega) hbz
            clear hbi HP RV
            go_wp2_with fail
            go_roundw
            case rel => exact ⟨i + 1, b2, by omega, by go_num, R7, B7, HF, HP2⟩
            case measure => simp [intOf]; omega
          | true =>
            rw [hbi] at ci
            have HBI : Hid (Plain.wf n nd (k + 1) i) := R.wf (k + 1) (Nat.le_refl _) (by omega) i hbi
            clear hbi RV
            go_wp2_with fail
            go_loopw [16] (fun cv wy => ∃ (c : Nat) (b3 : List Bool), c ≤ 4 ∧ cv = .int .i64 c ∧ BoolRow wy W.heap.size n b3 ∧ Below W.heap.size W wy ∧ Hid (∀ z, b3.getD z false = true → Plain.wf n nd k z) ∧
                Hid (∀ z, z < i → (Rs (k + 1)).getD z false = true → ∀ c, c < 4 → b3.getD (nd z c) false = true) ∧ Hid (∀ j, j < c → b3.getD (nd i j) false = true)) (fun cv _ => 4 - (intOf cv).toNat)
            case atStart => exact ⟨0, b2, by omega, rfl, R7, B7, HF, HP, fun j hj => by omega⟩
            case round =>
              obtain ⟨c, b3, hc, rfl, R8, B8, HF3, HQ, HK⟩ := hrel
              clear R7 B7 HP HF cs ci
              by_cases hc4 : c < 4
              · have hcI : (c : Int) < 4 := by omega
                have cn := (B8.cell (p := ⟨b0, 0 + (i * 4 + c), none⟩) (show b0 < W.heap.size by omega)).trans ((hnx.cell (p := ⟨b0, 0 + (i * 4 + c), none⟩) hbN).trans (hN i c hil hc4))
                simp only [Nat.zero_add] at cn
                have WK : Hid (Plain.wf n nd k (nd i c)) := Plain.wf_kid HBI.out hc4
                have hch : nd i c < n := Plain.wf_lt WK.out
                have hchI : ((nd i c : Nat) : Int) < n := by omega
                have cw := R8.cell hch
                have fw := fun i => R8.free i
                have R9 := R8.set (nd i c)
                have B9 : Below W.heap.size W (wr.setCell ⟨W.heap.size, nd i c, none⟩ (.bool true)) := B8.setCell (Nat.le_refl _) _
                have HF4 : Hid (∀ z, (b3.set (nd i c) true).getD z false = true → Plain.wf n nd k z) := fun z hz => by
                  rcases getD_set_inv _ _ _ hz with h | h
                  · exact HF3.out z h
                  · subst h; exact WK.out
                have HQ2 : Hid (∀ z, z < i → (Rs (k + 1)).getD z false = true → ∀ c', c' < 4 → (b3.set (nd i c) true).getD (nd z c') false = true) := fun z hz hbz c' hc' => getD_set_true _ _ _ (HQ.out z hz hbz c' hc')
                have HK2 : Hid (∀ j, j < c + 1 → (b3.set (nd i c) true).getD (nd i j) false = true) := fun j hj => by
                  by_cases e : j < c
                  · exact getD_set_true _ _ _ (HK.out j e)
                  · have e' : j = c := by omega
                    subst e'
                    exact getD_set_self _ _ (by rw [R8.len]; exact hch)
                clear HQ HK R8 B8 HF3
                generalize b3.getD (nd i c) false = old at cw
                generalize (b3.set (nd i c) true) = b4 at R9 HQ2 HK2 HF4
                go_wp2_with fail
                go_roundw
                case rel => exact ⟨c + 1, b4, by omega, by go_num, R9, B9, HF4, HQ2, HK2⟩
                case measure => simp [intOf]; omega
              · have hce : c = 4 := by omega
                subst hce
                have HP3 : Hid (∀ z, z < i + 1 → (Rs (k + 1)).getD z false = true → ∀ c, c < 4 → b3.getD (nd z c) false = true) := fun z hz hbz c hc => by
                  by_cases e : z = i
                  · subst e; exact HK.out c hc
                  · exact HQ.out z (by omega) hbz c hc
                clear HQ HK
                simp only [Int.cast_ofNat_Int]
                go_wp2_with fail
                go_roundw
                case rel => exact ⟨i + 1, b3, by omega, by go_num, R8, B8, HF3, HP3⟩
                case measure => simp [intOf]; omega
        · have hie : i = n := by omega
          subst hie
          have hk1I : (k : Int) < (l : Int) + 1 := by omega
          have hlt : ∀ z, (Rs (k + 1)).getD z false = true → z < i := fun z hz => Plain.wf_lt (R.wf (k + 1) (Nat.le_refl _) (by omega) z hz)
          have RP := RV.push (by omega) R7 HF.out (fun z hz => HP.out z (hlt z hz) hz)
          obtain ⟨v0, o0⟩ := RV.old (j := k) (by omega)
          have ff := fun j => RV.free j
          have BP : Below w.heap.size w (V.setCell ⟨w.heap.size, k, none⟩ (.slice (some ⟨W.heap.size, 0, none⟩) i i)) := (hnx.trans (B7.mono hNW)).setCell (Nat.le_refl _) _
          clear HF HP RV R B7 R7 hlt
          generalize (fun j => if j = k then W.heap.size else G j) = G2 at RP
          generalize (fun j => if j = k then b2 else Rs j) = Rs2 at RP
          go_wp2_with fail
          go_roundw
          case rel => exact ⟨k, G2, Rs2, by omega, by go_num, RP, BP⟩
          case measure => simp [intOf]
    | zero =>
      go_upto_region 22 with (at_make; refine wpList_make_full _ rfl _ _ 52 rfl wr.heap.size 3 i3 _ 1 Try.underlying52 hi3 hz30 hz31 _ _ _ _ n rfl rfl rfl rfl (by rw [hz32]; omega) (by unfold maxLen; omega) (Nat.le_refl _) ?_; intro w6 hown6 hgrow6)
      have C6 := ClsRow.made hown6
      have B6 : Below wr.heap.size wr w6 := (Below.refl _ _).grown hgrow6 (Nat.le_refl _) (fun k h => by cases h)
      clear hown6 hgrow6 hk
      obtain ⟨W, rfl⟩ : ∃ W, W = wr := ⟨wr, rfl⟩
      have hNW : w.heap.size ≤ W.heap.size := hnx.size
      have h0l : (0 : Int) < (l : Int) + 1 := by omega
      go_wp2_with fail
      go_loopw [18] (fun xv wx => ∃ (p : Nat) (cls : List Nat), p ≤ n ∧ xv = .int .i64 p ∧ ClsRow wx W.heap.size n cls ∧ Below W.heap.size W wx ∧ Hid (Cls nd (Rs 0) 0 p cls)) (fun xv _ => n - (intOf xv).toNat)
      case atStart => exact ⟨0, List.replicate n 0, Nat.zero_le _, rfl, C6, B6, fun z hz => by omega⟩
      case round =>
        obtain ⟨p, cls, hpn, rfl, C7, B7, HC⟩ := hrel
        clear C6 B6
        obtain ⟨V, rfl⟩ : ∃ V, V = wr := ⟨wr, rfl⟩
        have RV := R.below B7
        by_cases hpl : p < n
        · have hpI : (p : Int) < n := by omega
          have cs := RV.cellS (j := 0) (Nat.le_refl _) (by omega)
          have ci := RV.cellB (j := 0) (Nat.le_refl _) (by omega) hpl
          cases hbi : (Rs 0).getD p false with
          | false =>
            rw [hbi] at ci
            have HC2 : Hid (Cls nd (Rs 0) 0 (p + 1) cls) := HC.out.skip hbi
            clear hbi HC RV
            go_wp2_with fail
            go_roundw
            case rel => exact ⟨p + 1, cls, by omega, by go_num, C7, B7, HC2⟩
            case measure => simp [intOf]; omega
          | true =>
            rw [hbi] at ci
            have HBI : Hid ((Rs 0).getD p false = true) := hbi
            clear hbi RV
            go_wp2_with fail
            go_loopw [19] (fun yv wy => ∃ (q : Nat), q ≤ p ∧ yv = .int .i64 q ∧ ClsRow wy W.heap.size n cls ∧ Below W.heap.size W wy ∧ Hid (∀ z, z < q → ¬ ((Rs 0).getD z false = true ∧ Plain.same nd 0 z p))) (fun yv _ => p - (intOf yv).toNat)
            case atStart => exact ⟨0, Nat.zero_le _, rfl, C7, B7, fun z hz => by omega⟩
            case round =>
              obtain ⟨q, hq1, rfl, C8, B8, HQ⟩ := hrel
              clear C7 B7 cs ci
              have hqI : (q : Int) ≤ p := by omega
              have hqn : (q : Int) < n := by omega
              have RV := R.below B8
              have cs := RV.cellS (j := 0) (Nat.le_refl _) (by omega)
              have ci := RV.cellB (j := 0) (i := q) (Nat.le_refl _) (by omega) (by omega)
              have cn : ∀ i c, i < n → c < 4 → wr.cell? ⟨b0, i * 4 + c, none⟩ = some (.int .u64 (nd i c : Nat)) := fun i c hi hc => by
                have := (B8.cell (p := ⟨b0, 0 + (i * 4 + c), none⟩) (show b0 < W.heap.size by omega)).trans ((hnx.cell (p := ⟨b0, 0 + (i * 4 + c), none⟩) hbN).trans (hN i c hi hc))
                rw [Nat.zero_add] at this
                exact this
              clear RV
              cases hbq : (Rs 0).getD q false with
              | false =>
                rw [hbq] at ci
                have hqp : q < p := by
                  by_cases e : q = p
                  · subst e; rw [HBI.out] at hbq; cases hbq
                  · omega
                have HQ2 : Hid (∀ z, z < q + 1 → ¬ ((Rs 0).getD z false = true ∧ Plain.same nd 0 z p)) := fun z hz => by
                  by_cases e : z = q
                  · subst e; rw [hbq]; rintro ⟨h, _⟩; cases h
                  · exact HQ.out z (by omega)
                clear hbq HQ cn
                go_wp2_with fail
                go_quiet (fail)
                go_wp2_with fail
                go_roundw
                case rel => exact ⟨q + 1, by omega, by go_num, ⟨C8.row, C8.len⟩, ⟨B8.os, B8.tape, B8.output, B8.size, B8.block⟩, HQ2⟩
                case measure => simp [intOf]; omega
              | true =>
                rw [hbq] at ci
                have a0 := cn q 0 (by omega) (by omega)
                have a1 := cn q 1 (by omega) (by omega)
                have a2 := cn q 2 (by omega) (by omega)
                have a3 := cn q 3 (by omega) (by omega)
                have b0' := cn p 0 (by omega) (by omega)
                have b1 := cn p 1 (by omega) (by omega)
                have b2 := cn p 2 (by omega) (by omega)
                have b3 := cn p 3 (by omega) (by omega)
                simp only [Nat.add_zero] at a0 b0'
                clear cn
                have heq := fun w => eq40 (nd q 0 : Nat) (nd q 1 : Nat) (nd q 2 : Nat) (nd q 3 : Nat) (nd p 0 : Nat) (nd p 1 : Nat) (nd p 2 : Nat) (nd p 3 : Nat) w
                have HE := eqB_same0 nd q p
                cases hE : eqB (nd q 0 : Nat) (nd q 1 : Nat) (nd q 2 : Nat) (nd q 3 : Nat) (nd p 0 : Nat) (nd p 1 : Nat) (nd p 2 : Nat) (nd p 3 : Nat) with
                | false =>
                  rw [hE] at heq HE
                  have HE2 : Hid (¬ Plain.same nd 0 q p) := fun h => by have := HE.2 h; cases this
                  have hqp : q < p := by
                    by_cases e : q = p
                    · subst e; exact absurd (Plain.same_refl nd 0 q) HE2.out
                    · omega
                  have HQ2 : Hid (∀ z, z < q + 1 → ¬ ((Rs 0).getD z false = true ∧ Plain.same nd 0 z p)) := fun z hz => by
                    by_cases e : z = q
                    · subst e; exact fun h => HE2.out h.2
                    · exact HQ.out z (by omega)
                  clear hbq HQ HE hE HE2
                  go_wp2_with fail
                  go_quiet (fail)
                  go_wp2_with fail
                  go_roundw
                  case rel => exact ⟨q + 1, by omega, by go_num, ⟨C8.row, C8.len⟩, ⟨B8.os, B8.tape, B8.output, B8.size, B8.block⟩, HQ2⟩
                  case measure => simp [intOf]; omega
                | true =>
                  rw [hE] at heq HE
                  have HC2 : Hid (Cls nd (Rs 0) 0 (p + 1) (cls.set p q)) := HC.out.put (by rw [C8.len]; exact hpl) hq1 hbq (HE.1 rfl) HQ.out
                  have cw := C8.cell hpl
                  have fw := fun i => C8.free i
                  have C9 := C8.set p q
                  have B9 : Below W.heap.size W (wr.setCell ⟨W.heap.size, p, none⟩ (.int .i64 q)) := B8.setCell (Nat.le_refl _) _
                  clear hbq HQ HE hE HC C8 B8
                  go_wp2_with fail
                  go_quiet (fail)
                  go_wp2_with fail
                  go_roundw
                  case rel => exact ⟨p + 1, cls.set p q, by omega, by go_num, ⟨C9.row, C9.len⟩, ⟨B9.os, B9.tape, B9.output, B9.size, B9.block⟩, HC2⟩
                  case measure => simp [intOf]; omega
        · have hpe : p = n := by omega
          subst hpe
          have BW : Below w.heap.size w V := hnx.trans (B7.mono hNW)
          clear R B7 hnx
          obtain ⟨C0, hC0⟩ : ∃ C0, C0 = W.heap.size := ⟨_, rfl⟩
          rw [← hC0] at C7 hNW ⊢
          clear hC0
          go_wp2_with fail
          go_loopw [17, 20] (fun cv kv wx => ∃ (k g : Nat) (cl : List Nat), (k : Int) ≤ l ∧ kv = .int .i64 ((k : Int) + 1) ∧ cv = .slice (some ⟨g, 0, none⟩) p p ∧ w.heap.size ≤ g ∧ ClsRow wx g p cl ∧ Hid (Cls nd (Rs k) k p cl) ∧ Reach p nd l w.heap.size 0 G Rs x y wx ∧ Below w.heap.size w wx) (fun _ kv _ => l + 1 - (intOf kv).toNat)
          case atStart => exact ⟨0, C0, cls, by omega, rfl, rfl, hNW, C7, HC, RV, BW⟩
          case round =>
            obtain ⟨k, g, cl, hk, rfl, rfl, hg, C8, HC8, RX, BX⟩ := hrel
            clear C7 HC RV BW
            by_cases hkl : (k : Int) < l
            · have hk1 : (k : Int) + 1 ≤ l := by omega
              have hk2 : (k : Int) + 1 < (l : Int) + 1 := by omega
              clear hk
              obtain ⟨W2, rfl⟩ : ∃ W2, W2 = wr := ⟨wr, rfl⟩
              have hNW2 : w.heap.size ≤ W2.heap.size := BX.size
              have hgW : g < W2.heap.size := C8.lt
              go_wp2_with (at_make; refine wpList_make_full _ rfl _ _ 52 rfl W2.heap.size 3 i3 _ 1 Try.underlying52 hi3 hz30 hz31 _ _ _ _ p rfl rfl rfl rfl (by rw [hz32]; omega) (by unfold maxLen; omega) (Nat.le_refl _) ?_; intro w6 hown6 hgrow6)
              have C9 := ClsRow.made hown6
              have B9 : Below W2.heap.size W2 w6 := (Below.refl _ _).grown hgrow6 (Nat.le_refl _) (fun k h => by cases h)
              clear hown6 hgrow6
              go_loopw [22] (fun uv wx => ∃ (u : Nat) (c2 : List Nat), u ≤ p ∧ uv = .int .i64 u ∧ ClsRow wx W2.heap.size p c2 ∧ Below W2.heap.size W2 wx ∧ Hid (Cls nd (Rs (k + 1)) (k + 1) u c2)) (fun uv _ => p - (intOf uv).toNat)
              case atStart => exact ⟨0, List.replicate p 0, Nat.zero_le _, rfl, C9, B9, fun z hz => by omega⟩
              case round =>
                obtain ⟨u, c2, hup, rfl, D7, B7, HD⟩ := hrel
                clear C9 B9
                have RV := RX.below B7
                by_cases hul : u < p
                · have huI : (u : Int) < p := by omega
                  have cs := RV.cellS (j := k + 1) (Nat.zero_le _) (by omega)
                  have ci := RV.cellB (j := k + 1) (Nat.zero_le _) (by omega) hul
                  cases hbi : (Rs (k + 1)).getD u false with
                  | false =>
                    rw [hbi] at ci
                    have HD2 : Hid (Cls nd (Rs (k + 1)) (k + 1) (u + 1) c2) := HD.out.skip hbi
                    clear hbi HD RV
                    go_wp2_with fail
                    go_roundw
                    case rel => exact ⟨u + 1, c2, by omega, by go_num, D7, B7, HD2⟩
                    case measure => simp [intOf]; omega
                  | true =>
                    rw [hbi] at ci
                    have HBI : Hid ((Rs (k + 1)).getD u false = true) := hbi
                    clear hbi RV
                    go_wp2_with fail
                    go_loopw [23] (fun vv wy => ∃ (v : Nat), v ≤ u ∧ vv = .int .i64 v ∧ ClsRow wy W2.heap.size p c2 ∧ Below W2.heap.size W2 wy ∧ Hid (∀ z, z < v → ¬ ((Rs (k + 1)).getD z false = true ∧ Plain.same nd (k + 1) z u))) (fun vv _ => u - (intOf vv).toNat)
                    case atStart => exact ⟨0, Nat.zero_le _, rfl, D7, B7, fun z hz => by omega⟩
                    case round =>
                      obtain ⟨v, hvu, rfl, D8, B8, HQ⟩ := hrel
                      clear D7 B7 cs ci
                      have hvI : (v : Int) ≤ u := by omega
                      have hvn : (v : Int) < p := by omega
                      have RV := RX.below B8
                      have cs := RV.cellS (j := k + 1) (Nat.zero_le _) (by omega)
                      have ci := RV.cellB (j := k + 1) (i := v) (Nat.zero_le _) (by omega) (by omega)
                      have cn : ∀ i c, i < p → c < 4 → wr.cell? ⟨b0, i * 4 + c, none⟩ = some (.int .u64 (nd i c : Nat)) := fun i c hi hc => by
                        have := (B8.cell (p := ⟨b0, 0 + (i * 4 + c), none⟩) (show b0 < W2.heap.size by omega)).trans ((BX.cell (p := ⟨b0, 0 + (i * 4 + c), none⟩) hbN).trans (hN i c hi hc))
                        rw [Nat.zero_add] at this
                        exact this
                      clear RV
                      cases hbq : (Rs (k + 1)).getD v false with
                      | false =>
                        rw [hbq] at ci
                        have hqp : v < u := by
                          by_cases e : v = u
                          · subst e; rw [HBI.out] at hbq; cases hbq
                          · omega
                        have HQ2 : Hid (∀ z, z < v + 1 → ¬ ((Rs (k + 1)).getD z false = true ∧ Plain.same nd (k + 1) z u)) := fun z hz => by
                          by_cases e : z = v
                          · subst e; rw [hbq]; rintro ⟨h, _⟩; cases h
                          · exact HQ.out z (by omega)
                        clear hbq HQ cn
                        go_wp2_with fail
                        go_quiet (fail)
                        go_wp2_with fail
                        go_roundw
                        case rel => exact ⟨v + 1, by omega, by go_num, ⟨D8.row, D8.len⟩, ⟨B8.os, B8.tape, B8.output, B8.size, B8.block⟩, HQ2⟩
                        case measure => simp [intOf]; omega
                      | true =>
                        rw [hbq] at ci
                        have a0 := cn v 0 (by omega) (by omega)
                        have a1 := cn v 1 (by omega) (by omega)
                        have a2 := cn v 2 (by omega) (by omega)
                        have a3 := cn v 3 (by omega) (by omega)
                        have b0' := cn u 0 (by omega) (by omega)
                        have b1 := cn u 1 (by omega) (by omega)
                        have b2 := cn u 2 (by omega) (by omega)
                        have b3 := cn u 3 (by omega) (by omega)
                        simp only [Nat.add_zero] at a0 b0'
                        clear cn
                        have HX : Hid (∀ c, c < 4 → nd u c < p) := fun c hc => Plain.wf_lt (Plain.wf_kid (RX.wf (k + 1) (Nat.zero_le _) (by omega) u HBI.out) hc)
                        have HY : Hid (∀ c, c < 4 → nd v c < p) := fun c hc => Plain.wf_lt (Plain.wf_kid (RX.wf (k + 1) (Nat.zero_le _) (by omega) v hbq) hc)
                        have HE : Hid ((∀ c, c < 4 → cl.getD (nd u c) 0 = cl.getD (nd v c) 0) ↔ Plain.same nd (k + 1) u v) :=
                          HC8.out.kids (RX.bools k (Nat.zero_le _) (by omega)).len (RX.down k (Nat.zero_le _) (by omega)) HBI.out hbq
                        have CR := C8.row.below B8 hgW
                        have hcl := C8.len
                        have HVQ : Hid ((Rs (k + 1)).getD v false = true) := hbq
                        clear hbq
                        have KS : ∀ w', Below wr.heap.size wr w' → (w'.cell? ⟨w.heap.size, k + 1, none⟩ = some (.slice (some ⟨G (k + 1), 0, none⟩) p p) ∧ w'.cell? ⟨G (k + 1), v, none⟩ = some (.bool true) ∧
                            w'.cell? ⟨b0, v * 4, none⟩ = some (.int .u64 (nd v 0 : Nat)) ∧ w'.cell? ⟨b0, v * 4 + 1, none⟩ = some (.int .u64 (nd v 1 : Nat)) ∧ w'.cell? ⟨b0, v * 4 + 2, none⟩ = some (.int .u64 (nd v 2 : Nat)) ∧ w'.cell? ⟨b0, v * 4 + 3, none⟩ = some (.int .u64 (nd v 3 : Nat)) ∧
                            w'.cell? ⟨b0, u * 4, none⟩ = some (.int .u64 (nd u 0 : Nat)) ∧ w'.cell? ⟨b0, u * 4 + 1, none⟩ = some (.int .u64 (nd u 1 : Nat)) ∧ w'.cell? ⟨b0, u * 4 + 2, none⟩ = some (.int .u64 (nd u 2 : Nat)) ∧ w'.cell? ⟨b0, u * 4 + 3, none⟩ = some (.int .u64 (nd u 3 : Nat))) := fun w' hb =>
          ⟨(hb.cell (p := ⟨_, _, none⟩) (lt_of_cell cs)).trans cs, (hb.cell (p := ⟨_, _, none⟩) (lt_of_cell ci)).trans ci, (hb.cell (p := ⟨_, _, none⟩) (lt_of_cell a0)).trans a0, (hb.cell (p := ⟨_, _, none⟩) (lt_of_cell a1)).trans a1, (hb.cell (p := ⟨_, _, none⟩) (lt_of_cell a2)).trans a2, (hb.cell (p := ⟨_, _, none⟩) (lt_of_cell a3)).trans a3,
            (hb.cell (p := ⟨_, _, none⟩) (lt_of_cell b0')).trans b0', (hb.cell (p := ⟨_, _, none⟩) (lt_of_cell b1)).trans b1, (hb.cell (p := ⟨_, _, none⟩) (lt_of_cell b2)).trans b2, (hb.cell (p := ⟨_, _, none⟩) (lt_of_cell b3)).trans b3⟩
                        have hkN : k < l := by omega
                        have hk0 : (0 : Int) ≤ (k : Int) + 1 := by omega
                        have hk00 : (0 : Int) ≤ (k : Int) := by omega
                        have HKS : Hid (∀ w', Below wr.heap.size wr w' → _) := KS
                        clear KS a0 a1 a2 a3 b0' b1 b2 b3 cs ci
                        go_wp2_with fail
                        go_region_held3 (fun w' => w'.cell? ⟨w.heap.size, k + 1, none⟩ = some (.slice (some ⟨G (k + 1), 0, none⟩) p p) ∧ w'.cell? ⟨G (k + 1), v, none⟩ = some (.bool true) ∧
                            w'.cell? ⟨b0, v * 4, none⟩ = some (.int .u64 (nd v 0 : Nat)) ∧ w'.cell? ⟨b0, v * 4 + 1, none⟩ = some (.int .u64 (nd v 1 : Nat)) ∧ w'.cell? ⟨b0, v * 4 + 2, none⟩ = some (.int .u64 (nd v 2 : Nat)) ∧ w'.cell? ⟨b0, v * 4 + 3, none⟩ = some (.int .u64 (nd v 3 : Nat)) ∧
                            w'.cell? ⟨b0, u * 4, none⟩ = some (.int .u64 (nd u 0 : Nat)) ∧ w'.cell? ⟨b0, u * 4 + 1, none⟩ = some (.int .u64 (nd u 1 : Nat)) ∧ w'.cell? ⟨b0, u * 4 + 2, none⟩ = some (.int .u64 (nd u 2 : Nat)) ∧ w'.cell? ⟨b0, u * 4 + 3, none⟩ = some (.int .u64 (nd u 3 : Nat)))
                          (first | exact HKS.out _ ((Below.refl _ _).drew.trans hb9) | exact HKS.out _ (Below.refl _ _).drew)
                          (first | (go_at_call 24; refine (kids_any g p nd cl u v _ hn hcl HX.out HY.out ?_).mono ?_; (repeat (first | exact CR | refine rowV.drew ?_)); rintro e w9 ⟨r, rfl, HR, hb9⟩))
                        have hbB : Below wr.heap.size wr w9 := (Below.refl _ _).drew.trans hb9
                        have hwrW : W2.heap.size ≤ wr.heap.size := B8.size
                        have B10 := B8.trans (hbB.mono hwrW)
                        have D10 := D8.below hbB D8.lt
                        clear hb9 CR HKS hcl HX HY hbB D8 B8
                        cases r with
                        | false =>
                          have HE2 : Hid (¬ Plain.same nd (k + 1) v u) := fun h => by have := HR.2 (HE.out.2 (Plain.same_symm nd _ _ _ h)); cases this
                          have hqp : v < u := by
                            by_cases e : v = u
                            · subst e; exact absurd (Plain.same_refl nd (k + 1) v) HE2.out
                            · omega
                          have HQ2 : Hid (∀ z, z < v + 1 → ¬ ((Rs (k + 1)).getD z false = true ∧ Plain.same nd (k + 1) z u)) := fun z hz => by
                            by_cases e : z = v
                            · subst e; exact fun h => HE2.out h.2
                            · exact HQ.out z (by omega)
                          clear HQ HE HE2 HR HVQ
                          go_wp2_with fail
                          go_roundw
                          case rel => exact ⟨v + 1, by omega, by go_num, ⟨D10.row, D10.len⟩, ⟨B10.os, B10.tape, B10.output, B10.size, B10.block⟩, HQ2⟩
                          case measure => simp [intOf]; omega
                        | true =>
                          have HD2 : Hid (Cls nd (Rs (k + 1)) (k + 1) (u + 1) (c2.set u v)) := HD.out.put (by rw [D10.len]; exact hul) hvu HVQ.out (Plain.same_symm nd _ _ _ (HE.out.1 (HR.1 rfl))) HQ.out
                          have cw := D10.cell hul
                          have fw := fun i => D10.free i
                          have D11 := D10.set u v
                          have B11 : Below W2.heap.size W2 (w9.setCell ⟨W2.heap.size, u, none⟩ (.int .i64 v)) := B10.setCell (Nat.le_refl _) _
                          clear HQ HE HR HVQ HD D10 B10
                          go_wp2_with fail
                          go_roundw
                          case rel => exact ⟨u + 1, c2.set u v, by omega, by go_num, ⟨D11.row, D11.len⟩, ⟨B11.os, B11.tape, B11.output, B11.size, B11.block⟩, HD2⟩
                          case measure => simp [intOf]; omega
                · have hue : u = p := by omega
                  subst hue
                  have BF : Below w.heap.size w wr := BX.trans (B7.mono hNW2)
                  clear RX B7 BX C8
                  go_wp2_with fail
                  go_roundw
                  case rel => exact ⟨k + 1, W2.heap.size, c2, by omega, by go_num, rfl, hNW2, D7, HD, RV, BF⟩
                  case measure => simp [intOf]; omega
            · obtain rfl : k = l := by omega
              have HF : Hid (cl.getD x 0 = cl.getD y 0 ↔ Plain.same nd k x y) := Plain.class_eq (HC8.out x hx RX.ha) (HC8.out y hy RX.hb)
              have cx := C8.cell hx
              have cy := C8.cell hy
              generalize cl.getD x 0 = cx0 at HF cx
              generalize cl.getD y 0 = cy0 at HF cy
              have hkx : (k : Int) < (k : Int) + 1 := by omega
              clear HC8 RX C8
              go_wp2_with fail
              go_quiet (fail)
              go_wp2_with fail
              go_ret
              refine ⟨_, rfl, ?_, ⟨BX.os, BX.tape, BX.output, BX.size, BX.block⟩⟩
              rw [← HF.out]
              simp
              omega

end Go.Proofs.Qxb6602204a
