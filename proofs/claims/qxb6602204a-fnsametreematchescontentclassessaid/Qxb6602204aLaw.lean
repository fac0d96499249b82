import Derived.Test.Qxb6602204aCallsW
import Derived.Test.Qxb6602204aClsB
import Derived.Laws.IdiomArrays
import Derived.Deep.Slices
import Derived.OpenShut
namespace Go.Proofs.Qxb6602204a
open Go.ChangeShapes Go.WideShapes Go.RowKit
set_option linter.unusedVariables false

/-- the nodes that came in -/
def InNodes (w : World) (a : Option Addr) (n : Nat) : Prop :=
  n = 0 ∨ ∃ b off nd, a = some ⟨b, off, none⟩ ∧ 0 < n ∧ Nodes w b off n nd

theorem low (base : Option Addr) (n cap : Nat) (top fresh : Int) (x y s : Nat) (w : World) (h : 4096 < (n : Int)) :
    Calls Try.prog 3 #[.slice base n cap, .int .u64 top, .int .i64 fresh, .int .u64 x, .int .u64 y, .int .u64 s] w fun e w' => e = .returned (.bool true) ∧ Below w.heap.size w w' := by
  cases hd : decide (n ≤ 1048576) with
  | false =>
    go_enter Try.func3, Try.ntmps3
    go_wp2_with (go_at_call 8; refine (bytes_any _ _ _ _ _ _ _ _ _).mono ?_; rintro e w' ⟨rfl, rfl⟩; rw [hd])
    go_ret
    exact ⟨rfl, Below.refl _ _⟩
  | true =>
    go_enter Try.func3, Try.ntmps3
    go_wp2_with (go_at_call 8; refine (bytes_any _ _ _ _ _ _ _ _ _).mono ?_; rintro e w' ⟨rfl, rfl⟩; rw [hd])
    go_ret
    exact ⟨rfl, Below.refl _ _⟩

theorem odd_s (base : Option Addr) (n cap : Nat) (top fresh : Int) (x y s : Nat) (w : World) (h : (n : Int) ≤ 4096) (hs : 62 < (s : Int) ∨ s % 2 = 1) :
    Calls Try.prog 3 #[.slice base n cap, .int .u64 top, .int .i64 fresh, .int .u64 x, .int .u64 y, .int .u64 s] w fun e w' => e = .returned (.bool true) ∧ Below w.heap.size w w' := by
  have hd : decide (n ≤ 1048576) = true := by simp; omega
  by_cases h6 : 62 < (s : Int)
  · clear hs
    go_enter Try.func3, Try.ntmps3
    go_wp2_with (go_at_call 8; refine (bytes_any _ _ _ _ _ _ _ _ _).mono ?_; rintro e w' ⟨rfl, rfl⟩; rw [hd])
    go_ret
    exact ⟨rfl, Below.refl _ _⟩
  · have h7 : (s : Int) ≤ 62 := by omega
    have hev : bits .and .u64 (s : Int) 1 = 1 := by
      have e1 : (1 : Int) = ((1 : Nat) : Int) := rfl
      rw [e1, u64_and_nat s 1 (by omega) (by omega), nat_mask1]
      omega
    clear hs h6
    go_enter Try.func3, Try.ntmps3
    go_wp2_with (go_at_call 8; refine (bytes_any _ _ _ _ _ _ _ _ _).mono ?_; rintro e w' ⟨rfl, rfl⟩; rw [hd])
    go_ret
    exact ⟨rfl, Below.refl _ _⟩

theorem out_xy (base : Option Addr) (n cap : Nat) (top fresh : Int) (x y s : Nat) (w : World) (h : (n : Int) ≤ 4096) (hs : (s : Int) ≤ 62) (he : s % 2 = 0) (ho : Hid ((n : Int) ≤ (x : Int) ∨ (n : Int) ≤ (y : Int))) :
    Calls Try.prog 3 #[.slice base n cap, .int .u64 top, .int .i64 fresh, .int .u64 x, .int .u64 y, .int .u64 s] w fun e w' => e = .returned (.bool true) ∧ Below w.heap.size w w' := by
  have hd : decide (n ≤ 1048576) = true := by simp; omega
  have hev : bits .and .u64 (s : Int) 1 = 0 := by
    have e1 : (1 : Int) = ((1 : Nat) : Int) := rfl
    rw [e1, u64_and_nat s 1 (by omega) (by omega), nat_mask1]
    omega
  go_enter Try.func3, Try.ntmps3
  go_wp2_with (go_at_call 8; refine (bytes_any _ _ _ _ _ _ _ _ _).mono ?_; rintro e w' ⟨rfl, rfl⟩; rw [hd])
  refine (wf_out _ _ _ _ _ _ _ h hs hev ho.out).mono ?_
  rintro e w' ⟨rfl, rfl⟩
  go_wp2_with fail
  go_ret
  exact ⟨rfl, Below.refl _ _⟩

set_option maxHeartbeats 1000000 in
theorem in_xy (b0 off n cap : Nat) (nd : Nat → Nat → Nat) (top fresh : Int) (x y s : Nat) (w : World) (h : (n : Int) ≤ 4096) (hs : (s : Int) ≤ 62) (he : s % 2 = 0) (hN : Nodes w b0 off n nd) (hx : x < n) (hy : y < n) :
    Calls Try.prog 3 #[.slice (some ⟨b0, off, none⟩) n cap, .int .u64 top, .int .i64 fresh, .int .u64 x, .int .u64 y, .int .u64 s] w fun e w' => e = .returned (.bool true) ∧ Below w.heap.size w w' := by
  have hd : decide (n ≤ 1048576) = true := by simp; omega
  have hev : bits .and .u64 (s : Int) 1 = 0 := by
    have e1 : (1 : Int) = ((1 : Nat) : Int) := rfl
    rw [e1, u64_and_nat s 1 (by omega) (by omega), nat_mask1]
    omega
  have hpos : 0 < n := by omega
  have hbN : b0 < w.heap.size := lt_of_cell (hN 0 0 hpos (by omega))
  obtain ⟨l, hl⟩ : ∃ l, s = 2 * l := ⟨s / 2, by omega⟩
  have HL : Hid (s = 2 * l) := hl
  have HLI : Hid ((s : Int) = 2 * (l : Int)) := by show (s : Int) = 2 * (l : Int); omega
  have hl31 : l ≤ 31 := by omega
  have hl31I : (l : Int) ≤ 31 := by omega
  clear hl he
  go_enter Try.func3, Try.ntmps3
  go_wp2_with (go_at_call 8; refine (bytes_any _ _ _ _ _ _ _ _ _).mono ?_; rintro e w' ⟨rfl, rfl⟩; rw [hd])
  refine (wf_walk b0 off n cap nd x y l s _ h hpos hN hl31 HLI hx hy).mono ?_
  rintro e w1 ⟨r, rfl, HW, B1⟩
  cases r with
  | false =>
    clear HW
    go_wp2_with fail
    go_ret
    exact ⟨rfl, B1⟩
  | true =>
    have HX : Hid (Plain.wf n nd l x) := (HW rfl).1
    have HY : Hid (Plain.wf n nd l y) := (HW rfl).2
    clear HW
    have hN1 := hN.below B1 hbN
    go_wp2_with fail
    refine (calls_walk b0 off n cap nd x y l s _ h hpos hN1 hl31 HL HX HY).mono ?_
    rintro e w2 ⟨⟨r, rfl⟩, B2⟩
    have B2' := B1.trans (B2.mono B1.size)
    have hN2 := hN.below B2' hbN
    cases r with
    | false =>
      go_wp2_with fail
      go_ret
      exact ⟨rfl, B2'⟩
    | true =>
      clear hN1 B1 B2 hN
      go_wp2_with fail
      refine (copy_any b0 off n cap nd _ h hpos hN2).mono ?_
      rintro e w3 ⟨g, rfl, hg1, hg2, hN3, B3⟩
      have B3' := B2'.trans (B3.mono B2'.size)
      clear B2' B3 hN2
      go_wp2_with fail
      refine (zsame_any g n nd top fresh x y l s _ h hpos hN3 hl31 HLI HX HY).mono ?_
      rintro e w4 ⟨r1, rfl, hr1, B4⟩
      have HR1 : Hid (r1 = true ↔ Plain.same nd l x y) := hr1
      have hN4 := hN3.below B4 hg2
      have B4' := B3'.trans (B4.mono B3'.size)
      clear B3' B4 hN3 hr1
      go_wp2_with fail
      refine (cls_walk g n nd x y l s _ h hpos hN4 hl31I HLI HX HY).mono ?_
      rintro e w5 ⟨r2, rfl, hr2, B5⟩
      have B5' := B4'.trans (B5.mono B4'.size)
      have e12 : r1 = r2 := Bool.eq_iff_iff.2 (HR1.out.trans hr2.symm)
      subst e12
      clear hr2 B5 B4' hN4 HR1
      go_wp2_with fail
      go_ret
      exact ⟨by simp, B5'⟩

theorem walk (base : Option Addr) (n cap : Nat) (top fresh x y s : Int) (w : World) (hx : 0 ≤ x) (hy : 0 ≤ y) (hs : 0 ≤ s) (hN : InNodes w base n) :
    Calls Try.prog 3 #[.slice base n cap, .int .u64 top, .int .i64 fresh, .int .u64 x, .int .u64 y, .int .u64 s] w fun e w' => e = .returned (.bool true) ∧ Below w.heap.size w w' := by
  obtain ⟨x, rfl⟩ := Int.eq_ofNat_of_zero_le hx
  obtain ⟨y, rfl⟩ := Int.eq_ofNat_of_zero_le hy
  obtain ⟨s, rfl⟩ := Int.eq_ofNat_of_zero_le hs
  by_cases h1 : (n : Int) ≤ 4096
  · by_cases h2 : 62 < (s : Int) ∨ s % 2 = 1
    · exact odd_s base n cap top fresh x y s w h1 h2
    · by_cases h3 : (n : Int) ≤ (x : Int) ∨ (n : Int) ≤ (y : Int)
      · exact out_xy base n cap top fresh x y s w h1 (by omega) (by omega) h3
      · rcases hN with h0 | ⟨b, off, nd, rfl, _, hN⟩
        · omega
        · exact in_xy b off n cap nd top fresh x y s w h1 (by omega) (by omega) hN (by omega) (by omega)
  · exact low base n cap top fresh x y s w (by omega)

theorem cells40 : Try.prog.cellsOf 40 = 4 := by kernel_rfl

theorem cells4 {w : World} {a : Addr} {cs : List Value} (h : w.cells? 0 a 4 = some cs) : ∃ c0 c1 c2 c3, cs = [c0, c1, c2, c3] ∧ w.cell? (a.add 0) = some c0 ∧ w.cell? (a.add 1) = some c1 ∧ w.cell? (a.add 2) = some c2 ∧ w.cell? (a.add 3) = some c3 := by
  unfold World.cells? at h
  have r4 : List.range 4 = [0, 1, 2, 3] := rfl
  simp only [r4, Nat.zero_le, if_true, List.mapM_cons, List.mapM_nil] at h
  cases h0 : w.cell? (a.add 0) with
  | none => simp [h0] at h
  | some c0 =>
    cases h1 : w.cell? (a.add 1) with
    | none => simp [h0, h1] at h
    | some c1 =>
      cases h2 : w.cell? (a.add 2) with
      | none => simp [h0, h1, h2] at h
      | some c2 =>
        cases h3 : w.cell? (a.add 3) with
        | none => simp [h0, h1, h2, h3] at h
        | some c3 =>
          simp [h0, h1, h2, h3] at h
          exact ⟨c0, c1, c2, c3, h.symm, rfl, rfl, rfl, rfl⟩

theorem word {H : Type} {enc : TypeId × Value → H} {w : World} {base : Nat} {spare : Nat → Bool} {held : Bool} {fuel : Nat} {c : Value} {x : DataW H × List MemPlace} (h : DataW.trod enc Try.prog w base spare held fuel 24 [c] = some x) : ∃ v : Nat, c = .int .u64 (v : Nat) := by
  obtain ⟨v, hc, _, hw⟩ := DataW.trod_int Try.underlying24 h
  simp at hc
  have h0 : 0 ≤ v := by
    simp [Lit.wf, IntKind.min, IntKind.max, IntKind.signed, IntKind.bits] at hw
    omega
  obtain ⟨v', rfl⟩ := Int.eq_ofNat_of_zero_le h0
  exact ⟨v', hc⟩

theorem nodes_of {H : Type} {enc : TypeId × Value → H} {w : World} {held : Bool} {fuel : Nat} {a : Option Addr} {len cap : Nat} {x : DataW H × List MemPlace}
    (h : DataW.trod enc Try.prog w 0 (fun _ => true) held fuel 22 [.slice a len cap] = some x) : InNodes w a len := by
  rcases Deep.open_slice Try.underlying22 h with ⟨hcs, _⟩ | ⟨ad, l, c, m, n, D, Pl, hcs, _, hl, hm, hmm, _, hx⟩
  · simp at hcs
    exact .inl hcs.2.1
  · simp at hcs
    obtain ⟨rfl, rfl, rfl⟩ := hcs
    simp at hmm
    subst hmm
    by_cases h0 : len = 0
    · exact .inl h0
    · rw [cells40] at hx
      have key : ∀ i k, i < len → k < 4 → ∃ v : Nat, w.cell? (ad.add (i * 4 + k)) = some (.int .u64 (v : Nat)) := fun i k hi hk => by
        obtain ⟨cs', hc, ht⟩ := hx i (by omega)
        obtain ⟨c0, c1, c2, c3, rfl, e0, e1, e2, e3⟩ := cells4 hc
        rw [Deep.add_add] at e0 e1 e2 e3
        obtain ⟨y0, y1, y2, y3, n', _, t0, t1, t2, t3⟩ := trod_array4 Try.underlying40 cells24 ht
        match k, hk with
        | 0, _ => obtain ⟨v, rfl⟩ := word t0; exact ⟨v, e0⟩
        | 1, _ => obtain ⟨v, rfl⟩ := word t1; exact ⟨v, e1⟩
        | 2, _ => obtain ⟨v, rfl⟩ := word t2; exact ⟨v, e2⟩
        | 3, _ => obtain ⟨v, rfl⟩ := word t3; exact ⟨v, e3⟩
      obtain ⟨b, off, spot⟩ := ad
      obtain ⟨v, hv⟩ := key 0 0 (by omega) (by omega)
      have hspot : spot = none := by simpa [Addr.add] using World.cell?_spot hv
      subst hspot
      classical
      refine .inr ⟨b, off, fun i k => if h : i < len ∧ k < 4 then Classical.choose (key i k h.1 h.2) else 0, rfl, by omega, fun i k hi hk => ?_⟩
      simp only [dif_pos (And.intro hi hk)]
      have := Classical.choose_spec (key i k hi hk)
      rw [← Go.WideShapes.add_plain]
      exact this

end Go.Proofs.Qxb6602204a
