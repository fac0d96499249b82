import Derived.Test.Qxb6602204aClsA
import Derived.Deep.Cut
import Derived.Deep.CutRange
namespace Go.Proofs.Qxb6602204a
open Go.RowKit
set_option linter.unusedVariables false

theorem info24z : (Try.prog.info? 24).map (fun i => (i.zero, i.size, i.bytes)) = some (some (.int .u64 0), 1, 8) := by kernel_rfl
theorem info23z : (Try.prog.info? 23).map (fun i => (i.zero, i.size, i.bytes)) = some (some (.int .u64 0), 1, 8) := by kernel_rfl

/-- words as cells -/
def uV (xs : List Nat) : List Value := xs.map fun (c : Nat) => Value.int .u64 (c : Int)
theorem uV_get {xs : List Nat} {i : Nat} (h : i < xs.length) : (uV xs)[i]? = some (.int .u64 (xs.getD i 0 : Nat)) := by
  unfold uV
  rw [List.getElem?_map, List.getElem?_eq_getElem h, Option.map_some, List.getD_eq_getElem?_getD, List.getElem?_eq_getElem h]
  rfl
theorem uV_set (xs : List Nat) (i c : Nat) : (uV xs).set i (.int .u64 c) = uV (xs.set i c) := by unfold uV; rw [List.map_set]

structure URow (w : World) (g e : Nat) (xs : List Nat) : Prop where
  row : rowV w g e (uV xs)
  len : xs.length = 128
theorem URow.cell {w : World} {g e : Nat} {xs : List Nat} (h : URow w g e xs) {i : Nat} (hi : i < 128) : w.cell? ⟨g, i, none⟩ = some (.int .u64 (xs.getD i 0 : Nat)) := by
  rw [h.row.cell]; exact uV_get (by rw [h.len]; exact hi)
theorem URow.free {w : World} {g e : Nat} {xs : List Nat} (h : URow w g e xs) (i : Nat) : w.frozen? ⟨g, i, none⟩ = false := h.row.frozen i
theorem URow.set {w : World} {g e : Nat} {xs : List Nat} (h : URow w g e xs) (i c : Nat) : URow (w.setCell ⟨g, i, none⟩ (.int .u64 c)) g e (xs.set i c) :=
  ⟨by have := h.row.set i (.int .u64 c); rw [uV_set] at this; exact this, by rw [List.length_set]; exact h.len⟩
theorem URow.other {w : World} {g e : Nat} {xs : List Nat} (h : URow w g e xs) {b i : Nat} (hb : g ≠ b) (v : Value) : URow (w.setCell ⟨b, i, none⟩ v) g e xs := ⟨h.row.other hb v, h.len⟩
theorem URow.below {w w' : World} {g e B : Nat} {xs : List Nat} (h : URow w g e xs) (hb : Below B w w') (hg : g < B) : URow w' g e xs := ⟨h.row.below hb hg, h.len⟩
theorem URow.lt {w : World} {g e : Nat} {xs : List Nat} (h : URow w g e xs) : g < w.heap.size := h.row.lt
theorem URow.made {w : World} {base g e : Nat} (h : w.ownsRow base e 1 (.slice (some ⟨g, 0, none⟩) 128 128) 128 (madeCells (Value.int .u64 0).cells (128 * 1)).toList) : URow w g e (List.replicate 128 0) :=
  ⟨by have := rowV_made rfl h; unfold uV; rw [List.map_replicate]; exact this, by simp⟩

/-- what lies on the stack -/
def OnIt (n : Nat) (nd : Nat → Nat → Nat) (sp : Nat) (xs ys ss : List Nat) : Prop :=
  ∀ j, j < sp → ∃ m, m ≤ 31 ∧ ss.getD j 0 = 2 * m ∧ Plain.wf n nd m (xs.getD j 0) ∧ Plain.wf n nd m (ys.getD j 0)
theorem OnIt.push {n : Nat} {nd : Nat → Nat → Nat} {sp : Nat} {xs ys ss : List Nat} (h : OnIt n nd sp xs ys ss) (hx : xs.length = 128) (hy : ys.length = 128) (hs : ss.length = 128) (hsp : sp < 128)
    {a b m : Nat} (hm : m ≤ 31) (ha : Plain.wf n nd m a) (hb : Plain.wf n nd m b) : OnIt n nd (sp + 1) (xs.set sp a) (ys.set sp b) (ss.set sp (2 * m)) := fun j hj => by
  by_cases e : j = sp
  · subst e
    rw [getDc_set_self _ _ _ (by omega), getDc_set_self _ _ _ (by omega), getDc_set_self _ _ _ (by omega)]
    exact ⟨m, hm, rfl, ha, hb⟩
  · rw [getDc_set_ne _ _ _ _ e, getDc_set_ne _ _ _ _ e, getDc_set_ne _ _ _ _ e]
    exact h j (by omega)

def SomeBool (e : Ending) : Prop := ∃ r : Bool, e = .returned (.bool r)

set_option maxRecDepth 100000 in
set_option maxHeartbeats 4000000 in
theorem calls_walk (b0 off n cap : Nat) (nd : Nat → Nat → Nat) (x y l : Nat) (s : Nat) (w : World) (hn : (n : Int) ≤ 4096) (hpos : 0 < n) (hN : Nodes w b0 off n nd)
    (hl : l ≤ 31) (hs : Hid (s = 2 * l)) (WX : Hid (Plain.wf n nd l x)) (WY : Hid (Plain.wf n nd l y)) :
    Calls Try.prog 10 #[.slice (some ⟨b0, off, none⟩) n cap, .int .u64 x, .int .u64 y, .int .u64 s] w fun e w' =>
      SomeBool e ∧ Below w.heap.size w w' := by
  have hbN : b0 < w.heap.size := lt_of_cell (hN 0 0 hpos (by omega))
  obtain ⟨i24, hi24, hz240, hz241, hz242⟩ := info_parts info24z
  obtain ⟨i23, hi23, hz230, hz231, hz232⟩ := info_parts info23z
  go_enter Try.func10, Try.ntmps10
  go_upto_region 2 with (at_make; refine wpList_make_full _ rfl _ _ 33 rfl w.heap.size 24 i24 _ 1 Try.underlying33 hi24 hz240 hz241 _ _ _ _ 128 rfl rfl rfl rfl (by rw [hz242]; omega) (by unfold maxLen; omega) (Nat.le_refl _) ?_; intro w1 hown1 hgrow1)
  have U1 := URow.made hown1
  have B1 : Below w.heap.size w w1 := (Below.refl _ _).grown hgrow1 (Nat.le_refl _) (fun k h => by cases h)
  clear hown1 hgrow1
  go_upto_region 3 with (at_make; refine wpList_make_full _ rfl _ _ 33 rfl w1.heap.size 24 i24 _ 1 Try.underlying33 hi24 hz240 hz241 _ _ _ _ 128 rfl rfl rfl rfl (by rw [hz242]; omega) (by unfold maxLen; omega) (Nat.le_refl _) ?_; intro w2 hown2 hgrow2)
  have U2 := URow.made hown2
  have B2 : Below w1.heap.size w1 w2 := (Below.refl _ _).grown hgrow2 (Nat.le_refl _) (fun k h => by cases h)
  clear hown2 hgrow2
  go_upto_region 4 with (at_make; refine wpList_make_full _ rfl _ _ 41 rfl w2.heap.size 23 i23 _ 1 Try.underlying41 hi23 hz230 hz231 _ _ _ _ 128 rfl rfl rfl rfl (by rw [hz232]; omega) (by unfold maxLen; omega) (Nat.le_refl _) ?_; intro w3 hown3 hgrow3)
  have U3 := URow.made hown3
  have B3 : Below w2.heap.size w2 w3 := (Below.refl _ _).grown hgrow3 (Nat.le_refl _) (fun k h => by cases h)
  clear hown3 hgrow3
  have h1 : w.heap.size < w1.heap.size := U1.lt
  have h2 : w1.heap.size < w2.heap.size := U2.lt
  have X3 := (U1.below B2 U1.lt).below B3 (by omega)
  have Y3 := U2.below B3 U2.lt
  have BB : Below w.heap.size w w3 := (B1.trans (B2.mono (by omega))).trans (B3.mono (by omega))
  clear B1 B2 B3 U1 U2
  generalize hgy : w1.heap.size = gy at *
  generalize hgs : w2.heap.size = gs at *
  clear hgy hgs
  have cx := X3.cell (i := 0) (by omega)
  have fx := fun i => X3.free i
  go_upto_region 6 with fail
  have X4 := X3.set 0 x
  have Y4 := Y3.other (b := w.heap.size) (i := 0) (by omega) (.int .u64 x)
  have S4 := U3.other (b := w.heap.size) (i := 0) (by omega) (.int .u64 x)
  have BB4 : Below w.heap.size w (w3.setCell ⟨w.heap.size, 0, none⟩ (.int .u64 x)) := BB.setCell (Nat.le_refl _) _
  clear X3 Y3 U3 BB cx fx
  generalize (w3.setCell ⟨w.heap.size, 0, none⟩ (.int .u64 x)) = w4 at X4 Y4 S4 BB4 ⊢
  have cy := Y4.cell (i := 0) (by omega)
  have fy := fun i => Y4.free i
  go_upto_region 7 with fail
  have X5 := X4.other (b := gy) (i := 0) (by omega) (.int .u64 y)
  have Y5 := Y4.set 0 y
  have S5 := S4.other (b := gy) (i := 0) (by omega) (.int .u64 y)
  have BB5 : Below w.heap.size w (w4.setCell ⟨gy, 0, none⟩ (.int .u64 y)) := BB4.setCell (show w.heap.size ≤ gy by omega) _
  clear X4 Y4 S4 BB4 cy fy
  generalize (w4.setCell ⟨gy, 0, none⟩ (.int .u64 y)) = w5 at X5 Y5 S5 BB5 ⊢
  have cy := S5.cell (i := 0) (by omega)
  have fy := fun i => S5.free i
  go_upto_region 8 with fail
  have X6 := X5.other (b := gs) (i := 0) (by omega) (.int .u64 s)
  have Y6 := Y5.other (b := gs) (i := 0) (by omega) (.int .u64 s)
  have S6 := S5.set 0 s
  have BB6 : Below w.heap.size w (w5.setCell ⟨gs, 0, none⟩ (.int .u64 s)) := BB5.setCell (show w.heap.size ≤ gs by omega) _
  clear X5 Y5 S5 BB5 cy fy
  have HO : Hid (OnIt n nd 1 ((List.replicate 128 0).set 0 x) ((List.replicate 128 0).set 0 y) ((List.replicate 128 0).set 0 s)) := by
    rw [hs.out]
    exact OnIt.push (sp := 0) (fun j hj => by omega) (by simp) (by simp) (by simp) (by omega) hl WX.out WY.out
  generalize (w5.setCell ⟨gs, 0, none⟩ (.int .u64 s)) = w6 at X6 Y6 S6 BB6 ⊢
  generalize ((List.replicate 128 0).set 0 x) = xs0 at X6 HO
  generalize ((List.replicate 128 0).set 0 y) = ys0 at Y6 HO
  generalize ((List.replicate 128 0).set 0 s) = ss0 at S6 HO
  go_wp2_with fail
  go_loopw [12, 13] (fun sv cv wr => ∃ (sp : Nat) (c : Int) (xs ys ss : List Nat), (sp : Int) ≤ 128 ∧ 0 ≤ c ∧ c ≤ 1048576 ∧ sv = .int .i64 sp ∧ cv = .int .i64 c ∧ URow wr w.heap.size 24 xs ∧ URow wr gy 24 ys ∧ URow wr gs 23 ss ∧ Hid (OnIt n nd sp xs ys ss) ∧ Below w.heap.size w wr) (fun _ cv _ => 1048577 - (intOf cv).toNat)
  case atStart => exact ⟨1, 0, xs0, ys0, ss0, by omega, by omega, by omega, rfl, rfl, X6, Y6, S6, HO, BB6⟩
  case round =>
    obtain ⟨sp, c, xs, ys, ss, hsp, hc0, hc, rfl, rfl, X, Y, S, H, B⟩ := hrel
    clear X6 Y6 S6 HO BB6
    cases sp with
    | zero =>
      go_wp2_with fail
      go_ret
      exact ⟨⟨true, rfl⟩, B⟩
    | succ t =>
      have ht : (t : Int) < 128 := by omega
      by_cases hcl : c < 1048576
      · obtain ⟨m, hm, hsm, wx, wy⟩ := H.out t (by omega)
        have cx := X.cell (i := t) (by omega)
        have cy := Y.cell (i := t) (by omega)
        have cs := S.cell (i := t) (by omega)
        have HX : Hid (Plain.wf n nd m (xs.getD t 0)) := wx
        have HY : Hid (Plain.wf n nd m (ys.getD t 0)) := wy
        have HM : Hid (ss.getD t 0 = 2 * m) := hsm
        have HT : Hid (OnIt n nd t xs ys ss) := fun j hj => H.out j (by omega)
        clear wx wy hsm H
        generalize xs.getD t 0 = P at HX cx
        generalize ys.getD t 0 = Q at HY cy
        generalize ss.getD t 0 = sN at HM cs
        have hsN : (sN : Int) ≤ 62 := by have := HM.out; omega
        have htN : (t : Int) ≤ 128 := by omega
        have hc1 : c + 1 ≤ 1048576 := by omega
        have hcw : IntKind.i64.wrap (c + 1) = c + 1 := by simp [IntKind.wrap, IntKind.bits, IntKind.signed]; omega
        go_upto_region 17 with fail
        by_cases hPQ : P = Q
        · have hpq : ((P : Int) == (Q : Int)) = true := by rw [hPQ]; simp
          clear hPQ HX HY HM
          go_wp2_with fail
          go_roundw
          case rel => exact ⟨t, c + 1, xs, ys, ss, htN, by omega, by omega, by go_num, by go_num, X, Y, S, HT, B⟩
          case measure => simp [intOf]; omega
        · have hpq : ((P : Int) == (Q : Int)) = false := by simp; omega
          clear hPQ
          cases m with
          | zero =>
            have hs2 : (sN : Int) < 2 := by have := HM.out; omega
            clear HX HY HM
            go_wp2_with fail
            go_roundw
            case rel => exact ⟨t, c + 1, xs, ys, ss, htN, by omega, by omega, by go_num, by go_num, X, Y, S, HT, B⟩
            case measure => simp [intOf]; omega
          | succ m =>
            have hs2 : (2 : Int) ≤ (sN : Int) := by have := HM.out; omega
            have hP : P < n := Plain.wf_lt HX.out
            have hQ : Q < n := Plain.wf_lt HY.out
            have hPI : (P : Int) < n := by omega
            have hQI : (Q : Int) < n := by omega
            have hsw : IntKind.u64.wrap ((sN : Int) - 2) = sN - 2 := by simp [IntKind.wrap, IntKind.bits, IntKind.signed]; omega
            by_cases ht4 : (t : Int) ≤ 124
            · have ht5 : (t : Int) + 4 ≤ 128 := by omega
              have hc2 : c < 1048576 := by omega
              have HC : Hid (0 ≤ c ∧ c + 1 ≤ 1048576) := ⟨hc0, hc1⟩
              clear cx cy cs
              go_wp2_with fail
              go_loopw [12, 17] (fun sv kv wx => ∃ (q k : Nat) (xs ys ss : List Nat), Hid (q = t + k) ∧ k ≤ 4 ∧ sv = .int .i64 q ∧ kv = .int .i64 k ∧ URow wx w.heap.size 24 xs ∧ URow wx gy 24 ys ∧ URow wx gs 23 ss ∧ Hid (OnIt n nd q xs ys ss) ∧ Below w.heap.size w wx) (fun _ kv _ => 4 - (intOf kv).toNat)
              case atStart => exact ⟨t, 0, xs, ys, ss, rfl, by omega, by go_num, rfl, X, Y, S, HT, B⟩
              case round =>
                clear X Y S HT B
                obtain ⟨q, k, xs, ys, ss, hqk, hk, rfl, rfl, X, Y, S, H, B⟩ := hrel
                by_cases hk4 : k < 4
                · have hkI : (k : Int) < 4 := by omega
                  have hq : q < 128 := by have := hqk.out; omega
                  have hqI : (q : Int) < 128 := by omega
                  have n1 := (B.cell (p := ⟨b0, off + (P * 4 + k), none⟩) hbN).trans (hN P k hP hk4)
                  have n2 := (B.cell (p := ⟨b0, off + (Q * 4 + k), none⟩) hbN).trans (hN Q k hQ hk4)
                  simp only [← Nat.add_assoc] at n1 n2
                  have WP : Hid (Plain.wf n nd m (nd P k)) := Plain.wf_kid HX.out hk4
                  have WQ : Hid (Plain.wf n nd m (nd Q k)) := Plain.wf_kid HY.out hk4
                  have HO2 : Hid (OnIt n nd (q + 1) (xs.set q (nd P k)) (ys.set q (nd Q k)) (ss.set q (2 * m))) := H.out.push X.len Y.len S.len hq (by omega) WP.out WQ.out
                  have n2' : (wr.setCell ⟨w.heap.size, q, none⟩ (.int .u64 (nd P k : Nat))).cell? ⟨b0, off + Q * 4 + k, none⟩ = some (.int .u64 (nd Q k : Nat)) :=
                    ((Below.refl w.heap.size wr).setCell (p := ⟨w.heap.size, q, none⟩) (Nat.le_refl _) _).cell (p := ⟨b0, _, none⟩) hbN |>.trans n2
                  have cx := X.cell hq
                  have fx := fun i => X.free i
                  clear H WP WQ
                  go_upto_region 24 with fail
                  have X2 := X.set q (nd P k)
                  have Y2 := Y.other (b := w.heap.size) (i := q) (by omega) (.int .u64 (nd P k : Nat))
                  have S2 := S.other (b := w.heap.size) (i := q) (by omega) (.int .u64 (nd P k : Nat))
                  have B2 : Below w.heap.size w (wr.setCell ⟨w.heap.size, q, none⟩ (.int .u64 (nd P k : Nat))) := B.setCell (Nat.le_refl _) _
                  clear X Y S B cx fx n1 n2
                  generalize (wr.setCell ⟨w.heap.size, q, none⟩ (.int .u64 (nd P k : Nat))) = wA at X2 Y2 S2 B2 n2' ⊢
                  have cx := Y2.cell hq
                  have fx := fun i => Y2.free i
                  go_upto_region 25 with fail
                  have X3 := X2.other (b := gy) (i := q) (by omega) (.int .u64 (nd Q k : Nat))
                  have Y3 := Y2.set q (nd Q k)
                  have S3 := S2.other (b := gy) (i := q) (by omega) (.int .u64 (nd Q k : Nat))
                  have B3 : Below w.heap.size w (wA.setCell ⟨gy, q, none⟩ (.int .u64 (nd Q k : Nat))) := B2.setCell (show w.heap.size ≤ gy by omega) _
                  clear X2 Y2 S2 B2 cx fx n2'
                  generalize (wA.setCell ⟨gy, q, none⟩ (.int .u64 (nd Q k : Nat))) = wB at X3 Y3 S3 B3 ⊢
                  have cx := S3.cell hq
                  have fx := fun i => S3.free i
                  have e2 : ((2 * m : Nat) : Int) = (sN : Int) - 2 := by have := HM.out; omega
                  go_upto_region 26 with fail
                  have X4 := X3.other (b := gs) (i := q) (by omega) (.int .u64 ((sN : Int) - 2))
                  have Y4 := Y3.other (b := gs) (i := q) (by omega) (.int .u64 ((sN : Int) - 2))
                  have S4 := S3.set q (2 * m)
                  rw [e2] at S4
                  have B4 : Below w.heap.size w (wB.setCell ⟨gs, q, none⟩ (.int .u64 ((sN : Int) - 2))) := B3.setCell (show w.heap.size ≤ gs by omega) _
                  have hqk2 : Hid (q + 1 = t + (k + 1)) := by have := hqk.out; show q + 1 = t + (k + 1); omega
                  clear X3 Y3 S3 B3 cx fx e2
                  generalize (wB.setCell ⟨gs, q, none⟩ (.int .u64 ((sN : Int) - 2))) = wC at X4 Y4 S4 B4 ⊢
                  go_wp2_with fail
                  go_roundw
                  case rel => exact ⟨q + 1, k + 1, _, _, _, hqk2, by omega, by go_num, by go_num, X4, Y4, S4, HO2, B4⟩
                  case measure => simp [intOf]; omega
                · have hke : k = 4 := by omega
                  subst hke
                  simp only [Int.cast_ofNat_Int]
                  have hq : q ≤ 128 := by have := hqk.out; omega
                  have hqI : (q : Int) ≤ 128 := by omega
                  go_wp2_with fail
                  go_roundw
                  case rel => exact ⟨q, c + 1, xs, ys, ss, hqI, by omega, by omega, by go_num, by go_num, X, Y, S, H, B⟩
                  case measure => simp [intOf]; omega
            · have ht5 : (128 : Int) < (t : Int) + 4 := by omega
              clear X Y S
              go_wp2_with fail
              go_ret
              exact ⟨⟨false, rfl⟩, B⟩
      · have hce : c = 1048576 := by omega
        subst hce
        clear X Y S
        go_wp2_with fail
        go_ret
        exact ⟨⟨false, rfl⟩, B⟩

end Go.Proofs.Qxb6602204a
