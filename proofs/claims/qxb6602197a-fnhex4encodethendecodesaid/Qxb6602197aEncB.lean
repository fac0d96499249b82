import Derived.Test.Qxb6602197aEncA
namespace Go.Proofs.Qxb6602197a
open Go.RowKit
set_option linter.unusedVariables false

set_option maxHeartbeats 400000 in
theorem zz10_any (r m : Int) (a : Option Addr) (len cap : Nat) (w : World) (hl : (len : Int) ≤ 9223372036854775807) :
    Calls Try.prog 10 #[.int .i32 r, .int .u8 m, .slice a len cap] w fun e w' => e = .returned (.bool (decide (len ≤ 1048576))) ∧ w' = w := by
  by_cases h : (len : Int) ≤ 1048576
  · go_enter Try.func10, Try.ntmps10
    go_wp2
    go_ret
    exact ⟨by simp; omega, rfl⟩
  · go_enter Try.func10, Try.ntmps10
    go_wp2
    go_ret
    exact ⟨by simp; omega, rfl⟩

/-- what has been read behind k digits of r -/
def vk (r : Int) : Nat → Int
  | 0 => 0
  | 1 => r / 4096
  | 2 => r / 256
  | 3 => r / 16
  | _ => r

/-- what loop 1 has laid behind k rounds: k digits' bytes, which read as the first k digits of r -/
structure Laid (r : Int) (k : Nat) (cs : List Int) : Prop where
  len : cs.length = k
  rng : ∀ i, i < cs.length → 0 ≤ cs.getD i 0 ∧ cs.getD i 0 ≤ 255
  val : ∀ l, Plain.hx (cs ++ l) 0 = Plain.hx l (vk r k)

theorem and15 (x : Int) (h0 : 0 ≤ x) (h1 : x ≤ 65535) : bits .and .i32 x 15 = x % 16 := by
  obtain ⟨x, rfl⟩ := Int.eq_ofNat_of_zero_le h0
  have h : (15 : Int) = ((15 : Nat) : Int) := rfl
  rw [h, i32_and_nat _ _ (by omega) (by omega), nat_mask4]
  simp

theorem laid_snoc {r : Int} {k : Nat} {cs : List Int} {c D : Int} (hL : Laid r k cs) (h0 : 0 ≤ c) (h1 : c ≤ 255) (hd : Plain.dv c = D) (hD : 0 ≤ D) (hv : vk r (k + 1) = vk r k * 16 + D) : Laid r (k + 1) (cs ++ [c]) := by
  refine ⟨by rw [List.length_append, hL.len]; rfl, fun i hi => ?_, fun l => ?_⟩
  · by_cases h : i < cs.length
    · have := hL.rng i h
      rw [List.getD_eq_getElem?_getD, List.getElem?_append_left h, ← List.getD_eq_getElem?_getD]; exact this
    · have e : i = cs.length := by simp at hi; omega
      subst e
      rw [List.getD_eq_getElem?_getD, List.getElem?_append_right (Nat.le_refl _)]
      simp
      exact ⟨h0, h1⟩
  · rw [List.append_assoc, hL.val]
    show Plain.hx (c :: l) (vk r k) = _
    rw [Plain.hx, hd, if_neg (by omega), hv]

set_option maxHeartbeats 1000000 in
theorem enc_walk (r m : Int) (a : Option Addr) (len cap : Nat) (zs : List Int) (w : World) (hr0 : 0 ≤ r) (hr1 : r ≤ 65535) (hm0 : 0 ≤ m) (hm1 : m ≤ 255)
    (hlt : (len : Int) ≤ 1048576) (hin : In8 w a len cap zs) :
    Calls Try.prog 4 #[.int .i32 r, .int .u8 m, .slice a len cap] w fun e w' => e = .returned (.bool true) ∧ Below w.heap.size w w' := by
  obtain ⟨i0, hi, hz0, hz1, hz2⟩ := info_parts info5
  have hd : decide (len ≤ 1048576) = true := by simp; omega
  go_enter Try.func4, Try.ntmps4
  go_wp2_with fail
  refine (zz10_any _ _ _ _ _ _ (by omega)).mono ?_
  rintro e w' ⟨rfl, rfl⟩
  rw [hd]
  go_wp2_with fail
  refine (clone_all a len cap zs _ hlt hin).mono ?_
  rintro e w1 ⟨ta, rfl, hT, hB1⟩
  have hN : w'.heap.size ≤ w1.heap.size := hB1.size
  go_wp2_with (at_make; refine wpList_make_own _ rfl _ _ 22 rfl w1.heap.size 5 i0 (.int .u8 0) 1 Try.underlying22 hi hz0 hz1 _ _ _ (4 + len) rfl rfl (by omega) (by rw [hz2]; omega) (by unfold maxLen; omega) (Nat.le_refl _) ?_; intro w2 hown2 hgrow2)
  have hB2 : Below w1.heap.size w1 w2 := (Below.refl _ _).grown hgrow2 (Nat.le_refl _) (fun k h => by cases h)
  clear hgrow2
  go_loopw [7, 8, 9, 10] (fun bf i _ _ wr => ∃ (k : Nat) (cs : List Int), k ≤ 4 ∧ i = .int .i64 k ∧ bf = .slice (some ⟨w1.heap.size, 0, none⟩) k (4 + len) ∧ Laid r k cs ∧
      wr.ownsRow w1.heap.size 5 1 (.slice (some ⟨w1.heap.size, 0, none⟩) k (4 + len)) k (cs.map (Value.int .u8)) ∧ Below w1.heap.size w1 wr) (fun _ i _ _ _ => 4 - (intOf i).toNat)
  case atStart => exact ⟨0, [], by omega, rfl, rfl, ⟨rfl, fun i h => by simp at h, fun l => rfl⟩, hown2, hB2⟩
  case round =>
    obtain ⟨k, cs, hk, rfl, rfl, hL, hown, hnx⟩ := hrel
    clear hown2 hB2
    by_cases hk4 : k < 4
    · have hnN : w1.heap.size ≤ wr.heap.size := hnx.size
      rcases (show k = 0 ∨ k = 1 ∨ k = 2 ∨ k = 3 by omega) with rfl | rfl | rfl | rfl
      · have ha := and15 (r / 4096) (by omega) (by omega)
        have hA : Hid (bits .and .i32 (r / 4096) 15 = r / 4096 % 16) := ha
        go_wp2_with fail
        clear ha
        refine (digitByte_any _ _ _ (by first | omega | (rw [hA.out]; omega)) (by first | omega | (rw [hA.out]; omega))).mono ?_
        rintro e w3 ⟨c, rfl, hc0, hc1, HC, rfl⟩
        have hL' : Laid r (0 + 1) (cs ++ [c]) := laid_snoc hL hc0 hc1 (D := r / 4096 % 16) (by first | exact HC.out | (rw [HC.out, hA.out])) (by omega) (by simp only [vk]; omega)
        go_wp2_with (at_builtin; refine wpList_append_fits _ rfl _ _ 22 rfl w1.heap.size 5 i0 1 Try.underlying22 hi hz1 w1.heap.size 0 (4 + len) _ rfl (hown.alloc _) ⟨_, 0, none⟩ 1 1 [.int .u8 c] rfl rfl (cell_one_new _ _ _) (ints_oneCell .u8 [c]) (by omega) ?_; intro w4 hown4 hgrow4)
        have hnx' : Below w1.heap.size w1 w4 := (hnx.alloc hnN _).grown hgrow4 (by simp; omega) (fun k h => by cases h; exact Nat.le_refl _)
        exact ⟨⟨0 + 1, cs ++ [c], by omega, rfl, rfl, hL', by simpa using hown4, hnx'⟩, by simp [intOf]⟩
      · have ha := and15 (r / 256) (by omega) (by omega)
        have hA : Hid (bits .and .i32 (r / 256) 15 = r / 256 % 16) := ha
        go_wp2_with fail
        clear ha
        refine (digitByte_any _ _ _ (by first | omega | (rw [hA.out]; omega)) (by first | omega | (rw [hA.out]; omega))).mono ?_
        rintro e w3 ⟨c, rfl, hc0, hc1, HC, rfl⟩
        have hL' : Laid r (1 + 1) (cs ++ [c]) := laid_snoc hL hc0 hc1 (D := r / 256 % 16) (by first | exact HC.out | (rw [HC.out, hA.out])) (by omega) (by simp only [vk]; omega)
        go_wp2_with (at_builtin; refine wpList_append_fits _ rfl _ _ 22 rfl w1.heap.size 5 i0 1 Try.underlying22 hi hz1 w1.heap.size 1 (4 + len) _ rfl (hown.alloc _) ⟨_, 0, none⟩ 1 1 [.int .u8 c] rfl rfl (cell_one_new _ _ _) (ints_oneCell .u8 [c]) (by omega) ?_; intro w4 hown4 hgrow4)
        have hnx' : Below w1.heap.size w1 w4 := (hnx.alloc hnN _).grown hgrow4 (by simp; omega) (fun k h => by cases h; exact Nat.le_refl _)
        exact ⟨⟨1 + 1, cs ++ [c], by omega, rfl, rfl, hL', by simpa using hown4, hnx'⟩, by simp [intOf]⟩
      · have ha := and15 (r / 16) (by omega) (by omega)
        have hA : Hid (bits .and .i32 (r / 16) 15 = r / 16 % 16) := ha
        go_wp2_with fail
        clear ha
        refine (digitByte_any _ _ _ (by first | omega | (rw [hA.out]; omega)) (by first | omega | (rw [hA.out]; omega))).mono ?_
        rintro e w3 ⟨c, rfl, hc0, hc1, HC, rfl⟩
        have hL' : Laid r (2 + 1) (cs ++ [c]) := laid_snoc hL hc0 hc1 (D := r / 16 % 16) (by first | exact HC.out | (rw [HC.out, hA.out])) (by omega) (by simp only [vk]; omega)
        go_wp2_with (at_builtin; refine wpList_append_fits _ rfl _ _ 22 rfl w1.heap.size 5 i0 1 Try.underlying22 hi hz1 w1.heap.size 2 (4 + len) _ rfl (hown.alloc _) ⟨_, 0, none⟩ 1 1 [.int .u8 c] rfl rfl (cell_one_new _ _ _) (ints_oneCell .u8 [c]) (by omega) ?_; intro w4 hown4 hgrow4)
        have hnx' : Below w1.heap.size w1 w4 := (hnx.alloc hnN _).grown hgrow4 (by simp; omega) (fun k h => by cases h; exact Nat.le_refl _)
        exact ⟨⟨2 + 1, cs ++ [c], by omega, rfl, rfl, hL', by simpa using hown4, hnx'⟩, by simp [intOf]⟩
      · have ha := and15 (r) (by omega) (by omega)
        have hA : Hid (bits .and .i32 (r) 15 = r % 16) := ha
        go_wp2_with fail
        clear ha
        refine (digitByte_any _ _ _ (by first | omega | (rw [hA.out]; omega)) (by first | omega | (rw [hA.out]; omega))).mono ?_
        rintro e w3 ⟨c, rfl, hc0, hc1, HC, rfl⟩
        have hL' : Laid r (3 + 1) (cs ++ [c]) := laid_snoc hL hc0 hc1 (D := r % 16) (by first | exact HC.out | (rw [HC.out, hA.out])) (by omega) (by simp only [vk]; omega)
        go_wp2_with (at_builtin; refine wpList_append_fits _ rfl _ _ 22 rfl w1.heap.size 5 i0 1 Try.underlying22 hi hz1 w1.heap.size 3 (4 + len) _ rfl (hown.alloc _) ⟨_, 0, none⟩ 1 1 [.int .u8 c] rfl rfl (cell_one_new _ _ _) (ints_oneCell .u8 [c]) (by omega) ?_; intro w4 hown4 hgrow4)
        have hnx' : Below w1.heap.size w1 w4 := (hnx.alloc hnN _).grown hgrow4 (by simp; omega) (fun k h => by cases h; exact Nat.le_refl _)
        exact ⟨⟨3 + 1, cs ++ [c], by omega, rfl, rfl, hL', by simpa using hown4, hnx'⟩, by simp [intOf]⟩
    · have hke : k = 4 := by omega
      subst hke
      have hval : Hid (Plain.hx cs 0 = r) := by
        have := hL.val []
        rw [List.append_nil] at this
        exact this
      have hlen := hL.len
      have hrng := hL.rng
      clear hL
      rcases hT with h0 | ⟨rfl, hTN, hTc⟩
      all_goals
        simp only [Int.cast_ofNat_Int]
        go_wp2_with fail
        go_loopw [7, 11] (fun bf i wx => ∃ (k : Nat) (ys : List Int), k ≤ len ∧ ys.length = k ∧ i = .int .i64 k ∧ bf = .slice (some ⟨w1.heap.size, 0, none⟩) (4 + k) (4 + len) ∧
          wx.ownsRow w1.heap.size 5 1 (.slice (some ⟨w1.heap.size, 0, none⟩) (4 + k) (4 + len)) (4 + k) ((cs ++ ys).map (Value.int .u8)) ∧ Below w1.heap.size w1 wx) (fun _ i _ => len - (intOf i).toNat)
        case atStart => exact ⟨0, [], by omega, rfl, rfl, rfl, by simpa using hown, hnx⟩
        case round =>
          obtain ⟨k2, ys, hk2, hys, rfl, rfl, hown2, hnx2⟩ := hrel
          clear hown hnx
          have hnN2 : w1.heap.size ≤ wr.heap.size := hnx2.size
          by_cases hkl : k2 < len
          · first
              | (exfalso; have := h0.out; omega)
              | (have hcx : wr.cell? ⟨w'.heap.size, k2, none⟩ = some (.int .u8 (zs.getD k2 0)) := (hnx2.cell (p := ⟨w'.heap.size, k2, none⟩) hTN).trans (hTc k2 hkl)
                 generalize zs.getD k2 0 = d at hcx
                 clear hTc
                 go_wp2_with (at_builtin; refine wpList_append_fits _ rfl _ _ 22 rfl w1.heap.size 5 i0 1 Try.underlying22 hi hz1 w1.heap.size (4 + k2) (4 + len) _ rfl (hown2.alloc _) ⟨_, 0, none⟩ 1 1 [.int .u8 d] rfl rfl (cell_one_new _ _ _) (ints_oneCell .u8 [d]) (by omega) ?_; intro w5 hown5 hgrow5)
                 have hnx' : Below w1.heap.size w1 w5 := (hnx2.alloc hnN2 _).grown hgrow5 (by simp; omega) (fun k h => by cases h; exact Nat.le_refl _)
                 go_roundw
                 case rel => exact ⟨k2 + 1, ys ++ [d], by omega, by simp [hys], by go_num, rfl, (by rw [← List.append_assoc, List.map_append]; exact hown5), hnx'⟩
                 case measure => simp [intOf]; omega)
          · have hke : k2 = len := by omega
            subst hke
            have hcc : ∀ i, i < 4 → wr.cell? ⟨w1.heap.size, i, none⟩ = some (.int .u8 (cs.getD i 0)) := fun i hi4 => by
              rw [hown2.cellAt i (by omega), List.getElem?_map, List.getElem?_append_left (by omega), List.getElem?_eq_getElem (by omega), Option.map_some, List.getD_eq_getElem?_getD, List.getElem?_eq_getElem (by omega)]
              rfl
            have hB3 : Below w'.heap.size w' wr := hB1.trans (hnx2.mono hN)
            go_wp2_with fail
            refine (zhex4_any w1.heap.size (4 + k2) (4 + k2) cs _ (by omega) (by omega) (by omega) hcc (fun i h => hrng i (by omega)) hlen).mono ?_
            rintro e w6 ⟨rfl, rfl⟩
            rw [hval.out]
            clear hcc hown2 hnx2
            go_wp2_with fail
            go_loop [12] (fun i => ∃ n : Nat, n ≤ 4 ∧ i = .int .i64 n) (fun i => 4 - (intOf i).toNat)
            case atStart => exact ⟨0, by omega, rfl⟩
            case round =>
              obtain ⟨n, hn, rfl⟩ := hrel
              by_cases hn4 : n < 4
              · go_wp2_with (go_at_call 8; refine (zhex4_small _ _ _ _ (by omega)).mono ?_; rintro e w7 ⟨rfl, rfl⟩)
                go_round
                case rel => exact ⟨n + 1, by omega, by go_num⟩
                case measure => simp [intOf]; omega
              · go_wp2_with fail
                go_ret
                exact ⟨rfl, hB3⟩

end Go.Proofs.Qxb6602197a
