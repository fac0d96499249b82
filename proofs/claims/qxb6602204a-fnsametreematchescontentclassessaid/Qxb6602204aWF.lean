import Derived.Test.Qxb6602204aCopy
namespace Go.Proofs.Qxb6602204a
open Go.RowKit
set_option linter.unusedVariables false

theorem info4 : (Try.prog.info? 4).map (fun i => (i.zero, i.size, i.bytes)) = some (some (.bool false), 1, 1) := by kernel_rfl

/-- a row of Booleans as cells -/
def bsV (bs : List Bool) : List Value := bs.map Value.bool
theorem bsV_get {bs : List Bool} {i : Nat} (h : i < bs.length) : (bsV bs)[i]? = some (.bool (bs.getD i false)) := by
  unfold bsV
  rw [List.getElem?_map, List.getElem?_eq_getElem h, Option.map_some, List.getD_eq_getElem?_getD, List.getElem?_eq_getElem h]
  rfl
theorem bsV_set (bs : List Bool) (i : Nat) (v : Bool) : (bsV bs).set i (.bool v) = bsV (bs.set i v) := by unfold bsV; rw [List.map_set]
theorem bsV_made (n : Nat) : (madeCells (Value.bool false).cells (n * 1)).toList = bsV (List.replicate n false) := by
  rw [Nat.mul_one]
  have e : (madeCells #[Value.bool false] n).toList = List.replicate n (.bool false) := toList_madeCells_one _ _
  unfold bsV
  rw [List.map_replicate]
  exact e
theorem getD_set_true (bs : List Bool) (i j : Nat) (h : bs.getD j false = true) : (bs.set i true).getD j false = true := by
  rw [List.getD_eq_getElem?_getD] at h ⊢
  rw [List.getElem?_set]
  split
  · split
    · rfl
    · rename_i h1 h2
      subst h1
      rw [List.getElem?_eq_none (by omega)] at h
      cases h
  · exact h
theorem getD_set_self (bs : List Bool) (i : Nat) (h : i < bs.length) : (bs.set i true).getD i false = true := by
  rw [List.getD_eq_getElem?_getD, List.getElem?_set]
  simp [h]
theorem getD_set_inv (bs : List Bool) (i j : Nat) (h : (bs.set i true).getD j false = true) : bs.getD j false = true ∨ j = i := by
  by_cases e : j = i
  · exact .inr e
  · rw [List.getD_eq_getElem?_getD, List.getElem?_set_ne (by omega)] at h
    exact .inl (by rw [List.getD_eq_getElem?_getD]; exact h)
theorem getD_rep (n j : Nat) : (List.replicate n false).getD j false = false := by
  rw [List.getD_eq_getElem?_getD, List.getElem?_replicate]
  split <;> rfl

/-- a row of n Booleans at block g -/
structure BoolRow (w : World) (g n : Nat) (bs : List Bool) : Prop where
  row : rowV w g 4 (bsV bs)
  len : bs.length = n
theorem BoolRow.cell {w : World} {g n : Nat} {bs : List Bool} (h : BoolRow w g n bs) {i : Nat} (hi : i < n) : w.cell? ⟨g, i, none⟩ = some (.bool (bs.getD i false)) := by
  rw [h.row.cell]; exact bsV_get (by rw [h.len]; exact hi)
theorem BoolRow.free {w : World} {g n : Nat} {bs : List Bool} (h : BoolRow w g n bs) (i : Nat) : w.frozen? ⟨g, i, none⟩ = false := h.row.frozen i
theorem BoolRow.set {w : World} {g n : Nat} {bs : List Bool} (h : BoolRow w g n bs) (i : Nat) : BoolRow (w.setCell ⟨g, i, none⟩ (.bool true)) g n (bs.set i true) :=
  ⟨by have := h.row.set i (.bool true); rw [bsV_set] at this; exact this, by rw [List.length_set]; exact h.len⟩
theorem BoolRow.below {w w' : World} {g n B : Nat} {bs : List Bool} (h : BoolRow w g n bs) (hb : Below B w w') (hg : g < B) : BoolRow w' g n bs := ⟨h.row.below hb hg, h.len⟩
theorem BoolRow.lt {w : World} {g n : Nat} {bs : List Bool} (h : BoolRow w g n bs) : g < w.heap.size := h.row.lt
theorem BoolRow.made {w : World} {base g n : Nat} (h : w.ownsRow base 4 1 (.slice (some ⟨g, 0, none⟩) n n) n (madeCells (Value.bool false).cells (n * 1)).toList) : BoolRow w g n (List.replicate n false) :=
  ⟨by have := rowV_of_owns h; rw [bsV_made] at this; exact this, by simp⟩

set_option maxHeartbeats 2000000 in
theorem wf_walk (b0 off n cap : Nat) (nd : Nat → Nat → Nat) (x y l : Nat) (s : Int) (w : World) (hn : (n : Int) ≤ 4096) (hpos : 0 < n) (hN : Nodes w b0 off n nd)
    (hl : l ≤ 31) (hs : Hid (s = 2 * (l : Int))) (hx : x < n) (hy : y < n) :
    Calls Try.prog 9 #[.slice (some ⟨b0, off, none⟩) n cap, .int .u64 x, .int .u64 y, .int .u64 y, .int .u64 s] w fun e w' =>
      ∃ r : Bool, e = .returned (.bool r) ∧ (r = true → Plain.wf n nd l x ∧ Plain.wf n nd l y) ∧ Below w.heap.size w w' := by
  have hbN : b0 < w.heap.size := lt_of_cell (hN 0 0 hpos (by omega))
  obtain ⟨i0, hi, hz0, hz1, hz2⟩ := info_parts info4
  have hsb : s ≤ 62 := by have := hs.out; omega
  have hsn : 0 ≤ s := by have := hs.out; omega
  have hev : bits .and .u64 s 1 = 0 := by
    have h := hs.out
    obtain ⟨q, rfl⟩ := Int.eq_ofNat_of_zero_le hsn
    have e1 : (1 : Int) = ((1 : Nat) : Int) := rfl
    rw [e1, u64_and_nat q 1 (by omega) (by omega), nat_mask1]
    omega
  have hwn : IntKind.u64.wrap (n : Int) = n := by simp [IntKind.wrap, IntKind.bits, IntKind.signed]; omega
  have hxI : (x : Int) < n := by omega
  have hyI : (y : Int) < n := by omega
  go_enter Try.func9, Try.ntmps9
  go_wp2_with (at_make; refine wpList_make_full _ rfl _ _ 39 rfl w.heap.size 4 i0 _ 1 Try.underlying39 hi hz0 hz1 _ _ _ _ n rfl rfl rfl rfl (by rw [hz2]; omega) (by unfold maxLen; omega) (Nat.le_refl _) ?_; intro w1 hown1 hgrow1; have R1 := BoolRow.made hown1; have R2 := R1.set x; have R3 := R2.set y; have d1 := R1.cell hx; have d2 := R2.cell hy; have d3 := R3.cell hy; have f1 := fun i => R1.free i)
  have R4 := R3.set y
  have B4 : Below w.heap.size w (((w1.setCell ⟨w.heap.size, x, none⟩ (.bool true)).setCell ⟨w.heap.size, y, none⟩ (.bool true)).setCell ⟨w.heap.size, y, none⟩ (.bool true)) :=
    ((((Below.refl _ _).grown hgrow1 (Nat.le_refl _) (fun k h => by cases h)).setCell (Nat.le_refl _) _).setCell (Nat.le_refl _) _).setCell (Nat.le_refl _) _
  have HG : Hid ((∀ z, ((((List.replicate n false).set x true).set y true).set y true).getD z false = true → Plain.wf n nd l z) → Plain.wf n nd l x ∧ Plain.wf n nd l y) := fun h =>
    ⟨h x (getD_set_true _ _ _ (getD_set_true _ _ _ (getD_set_self _ _ (by simp; omega)))), h y (getD_set_self _ _ (by simp; omega))⟩
  generalize ((((List.replicate n false).set x true).set y true).set y true) = bs0 at R4 HG
  generalize (((w1.setCell ⟨w.heap.size, x, none⟩ (.bool true)).setCell ⟨w.heap.size, y, none⟩ (.bool true)).setCell ⟨w.heap.size, y, none⟩ (.bool true)) = w4 at R4 B4 ⊢
  clear R1 R2 R3 d1 d2 d3 f1 hown1 hgrow1 hev
  go_loopw [12, 13] (fun cur sv wr => ∃ (m g : Nat) (bs : List Bool) (sI : Int), m ≤ 31 ∧ Hid (sI = 2 * (m : Int)) ∧ sv = .int .u64 sI ∧ cur = .slice (some ⟨g, 0, none⟩) n n ∧ w.heap.size ≤ g ∧ BoolRow wr g n bs ∧ Below w.heap.size w wr ∧
      Hid ((∀ z, bs.getD z false = true → Plain.wf n nd m z) → Plain.wf n nd l x ∧ Plain.wf n nd l y)) (fun _ sv _ => (intOf sv).toNat)
  case atStart => exact ⟨l, w.heap.size, bs0, s, hl, hs, rfl, rfl, Nat.le_refl _, R4, B4, HG⟩
  case round =>
    obtain ⟨m, g, bs, sI, hm, hsI, rfl, rfl, hgN, R, hnx, HH⟩ := hrel
    clear R4 B4 HG
    have hgl := R.lt
    cases m with
    | zero =>
      have hs0 : sI ≤ 0 := by have := hsI.out; omega
      have HW : Hid (Plain.wf n nd l x ∧ Plain.wf n nd l y) := by
        refine HH.out fun z hz => ?_
        show z < n
        by_cases h : z < bs.length
        · rw [← R.len]; exact h
        · rw [List.getD_eq_getElem?_getD, List.getElem?_eq_none (by omega)] at hz; cases hz
      go_wp2_with fail
      go_ret
      exact ⟨true, rfl, fun _ => HW.out, hnx⟩
    | succ m =>
      have hs0 : 0 < sI := by have := hsI.out; omega
      have hsw : IntKind.u64.wrap (sI - 2) = sI - 2 := by have := hsI.out; simp [IntKind.wrap, IntKind.bits, IntKind.signed]; omega
      go_wp2_with (at_make; refine wpList_make_full _ rfl _ _ 39 rfl wr.heap.size 4 i0 _ 1 Try.underlying39 hi hz0 hz1 _ _ _ _ n rfl rfl rfl rfl (by rw [hz2]; omega) (by unfold maxLen; omega) (Nat.le_refl _) ?_; intro w5 hown5 hgrow5)
      have R5 := BoolRow.made hown5
      have B5 : Below wr.heap.size wr w5 := (Below.refl _ _).grown hgrow5 (Nat.le_refl _) (fun k h => by cases h)
      clear hown5 hgrow5
      obtain ⟨W, rfl⟩ : ∃ W, W = wr := ⟨wr, rfl⟩
      have hNW : w.heap.size ≤ W.heap.size := hnx.size
      go_loopw [15] (fun iv wx => ∃ (i : Nat) (b2 : List Bool), i ≤ n ∧ iv = .int .i64 i ∧ BoolRow wx W.heap.size n b2 ∧ Below W.heap.size W wx ∧
          Hid (∀ z, z < i → bs.getD z false = true → ∀ k, k < 4 → nd z k < n ∧ b2.getD (nd z k) false = true)) (fun iv _ => n - (intOf iv).toNat)
      case atStart => exact ⟨0, _, Nat.zero_le _, rfl, R5, B5, fun z hz => by omega⟩
      case round =>
        obtain ⟨i, b2, hin, rfl, R6, B6, HP⟩ := hrel
        clear R5 B5
        obtain ⟨V, rfl⟩ : ∃ V, V = wr := ⟨wr, rfl⟩
        by_cases hil : i < n
        · have hiI : (i : Int) < n := by omega
          have ci := (R.below B6 hgl).cell hil
          cases hbi : bs.getD i false with
          | false =>
            rw [hbi] at ci
            have HP2 : Hid (∀ z, z < i + 1 → bs.getD z false = true → ∀ k, k < 4 → nd z k < n ∧ b2.getD (nd z k) false = true) := fun z hz hbz => by
              by_cases e : z = i
              · subst e; rw [hbi] at hbz; cases hbz
              · exact HP.out z (by omega) hbz
            clear hbi HP
            go_wp2_with fail
            go_roundw
            case rel => exact ⟨i + 1, b2, by omega, by go_num, R6, B6, HP2⟩
            case measure => simp [intOf]; omega
          | true =>
            rw [hbi] at ci
            have HBI : Hid (bs.getD i false = true) := hbi
            clear hbi
            go_wp2_with fail
            go_loopw [16, 17] (fun kv _ wy => ∃ (k : Nat) (b3 : List Bool), k ≤ 4 ∧ kv = .int .i64 k ∧ BoolRow wy W.heap.size n b3 ∧ Below W.heap.size W wy ∧
                Hid (∀ z, z < i → bs.getD z false = true → ∀ k, k < 4 → nd z k < n ∧ b3.getD (nd z k) false = true) ∧ Hid (∀ j, j < k → nd i j < n ∧ b3.getD (nd i j) false = true)) (fun kv _ _ => 4 - (intOf kv).toNat)
            case atStart => exact ⟨0, b2, by omega, rfl, R6, B6, HP, fun j hj => by omega⟩
            case round =>
              obtain ⟨k, b3, hk, rfl, R7, B7, HQ, HK⟩ := hrel
              clear R6 B6 HP ci
              by_cases hk4 : k < 4
              · have hkI : (k : Int) < 4 := by omega
                have cn := (B7.cell (p := ⟨b0, off + (i * 4 + k), none⟩) (show b0 < W.heap.size by omega)).trans ((hnx.cell (p := ⟨b0, off + (i * 4 + k), none⟩) hbN).trans (hN i k hil hk4))
                simp only [← Nat.add_assoc] at cn
                by_cases hch : nd i k < n
                · have hchI : ((nd i k : Nat) : Int) < n := by omega
                  have cw := R7.cell hch
                  have fw := fun i => R7.free i
                  have R8 := R7.set (nd i k)
                  have B8 : Below W.heap.size W (wr.setCell ⟨W.heap.size, nd i k, none⟩ (.bool true)) := B7.setCell (Nat.le_refl _) _
                  have HQ2 : Hid (∀ z, z < i → bs.getD z false = true → ∀ k', k' < 4 → nd z k' < n ∧ (b3.set (nd i k) true).getD (nd z k') false = true) := fun z hz hbz k' hk' =>
                    ⟨(HQ.out z hz hbz k' hk').1, getD_set_true _ _ _ (HQ.out z hz hbz k' hk').2⟩
                  have HK2 : Hid (∀ j, j < k + 1 → nd i j < n ∧ (b3.set (nd i k) true).getD (nd i j) false = true) := fun j hj => by
                    by_cases e : j < k
                    · exact ⟨(HK.out j e).1, getD_set_true _ _ _ (HK.out j e).2⟩
                    · have e' : j = k := by omega
                      subst e'
                      exact ⟨hch, getD_set_self _ _ (by rw [R7.len]; exact hch)⟩
                  clear HQ HK R7 B7
                  generalize b3.getD (nd i k) false = old at cw
                  generalize (b3.set (nd i k) true) = b4 at R8 HQ2 HK2
                  go_wp2_with fail
                  go_roundw
                  case rel => exact ⟨k + 1, b4, by omega, by go_num, R8, B8, HQ2, HK2⟩
                  case measure => simp [intOf]; omega
                · have hchI : (n : Int) ≤ ((nd i k : Nat) : Int) := by omega
                  have BF : Below w.heap.size w wr := hnx.trans (B7.mono hNW)
                  clear HQ HK R7 B7
                  go_wp2_with fail
                  go_ret
                  exact ⟨false, rfl, fun h => (by cases h), BF⟩
              · have hke : k = 4 := by omega
                subst hke
                have HP3 : Hid (∀ z, z < i + 1 → bs.getD z false = true → ∀ k, k < 4 → nd z k < n ∧ b3.getD (nd z k) false = true) := fun z hz hbz k hk => by
                  by_cases e : z = i
                  · subst e; exact HK.out k hk
                  · exact HQ.out z (by omega) hbz k hk
                clear HQ HK
                simp only [Int.cast_ofNat_Int]
                go_wp2_with fail
                go_roundw
                case rel => exact ⟨i + 1, b3, by omega, by go_num, R7, B7, HP3⟩
                case measure => simp [intOf]; omega
        · have hie : i = n := by omega
          subst hie
          have HH2 : Hid ((∀ z, b2.getD z false = true → Plain.wf i nd m z) → Plain.wf i nd l x ∧ Plain.wf i nd l y) := fun h => HH.out fun z hz => by
            have hzi : z < i := by
              by_cases h' : z < bs.length
              · rw [← R.len]; exact h'
              · rw [List.getD_eq_getElem?_getD, List.getElem?_eq_none (by omega)] at hz; cases hz
            exact ⟨hzi, fun k hk => h _ (HP.out z hzi hz k hk).2⟩
          have hs2 : Hid (sI - 2 = 2 * (m : Int)) := by have := hsI.out; show sI - 2 = 2 * (m : Int); omega
          have BF : Below w.heap.size w V := hnx.trans (B6.mono hNW)
          clear HH HP hnx B6
          go_wp2_with fail
          go_roundw
          case rel => exact ⟨m, W.heap.size, b2, sI - 2, by omega, hs2, rfl, rfl, hNW, R6, BF, HH2⟩
          case measure => simp [intOf]; omega

end Go.Proofs.Qxb6602204a
