import Derived.Test.Qxb6602204aEq
import Derived.BigQuiet
import Derived.Deep.QuietTactic
import Derived.Deep.RegionWith
import Derived.Deep.DeepCutAuto
import Derived.RegionTactic
import Derived.Deep.Light
namespace Go.Proofs.Qxb6602204a
open Go.RowKit
set_option linter.unusedVariables false
set_option linter.unusedSimpArgs false

/-- the trees of ZZSameTree: a struct whose first field leads to one chunk, which holds the nodes -/
structure TreeIn (tb cb gb n : Nat) (nd : Nat → Nat → Nat) (w : World) : Prop where
  h1 : w.cell? ⟨tb, 0, none⟩ = some (.slice (some ⟨cb, 0, none⟩) 1 1)
  h2 : w.cell? ⟨cb, 0, none⟩ = some (.slice (some ⟨gb, 0, none⟩) n n)
  hN : Nodes w gb 0 n nd
  ht : tb < w.heap.size
  hc : cb < w.heap.size
  hg : gb < w.heap.size

theorem TreeIn.kept {tb cb gb n : Nat} {nd : Nat → Nat → Nat} {w w' : World} (h : TreeIn tb cb gb n nd w) (hb : Below w.heap.size w w') : TreeIn tb cb gb n nd w' :=
  ⟨(hb.cell (p := ⟨tb, 0, none⟩) h.ht).trans h.h1, (hb.cell (p := ⟨cb, 0, none⟩) h.hc).trans h.h2,
   fun i k hi hk => (hb.cell (p := ⟨gb, _, none⟩) h.hg).trans (h.hN i k hi hk), Nat.lt_of_lt_of_le h.ht hb.size, Nat.lt_of_lt_of_le h.hc hb.size, Nat.lt_of_lt_of_le h.hg hb.size⟩
theorem TreeIn.drew {tb cb gb n : Nat} {nd : Nat → Nat → Nat} {w : World} (h : TreeIn tb cb gb n nd w) : TreeIn tb cb gb n nd w.drew := h.kept (Below.refl _ _).drew
theorem TreeIn.alloc {tb cb gb n : Nat} {nd : Nat → Nat → Nat} {w : World} (h : TreeIn tb cb gb n nd w) (o : Obj) : TreeIn tb cb gb n nd (w.alloc o) := h.kept ((Below.refl _ _).alloc (Nat.le_refl _) o)

theorem bcell {W w1 : World} (hb : Below W.heap.size W w1) : (∀ b o, b < W.heap.size → w1.cell? ⟨b, o, none⟩ = W.cell? ⟨b, o, none⟩) ∧ (∀ b o, b < W.heap.size → w1.frozen? ⟨b, o, none⟩ = W.frozen? ⟨b, o, none⟩) :=
  ⟨fun b o h => hb.cell (p := ⟨b, o, none⟩) h, fun b o h => hb.frozen (p := ⟨b, o, none⟩) h⟩

theorem at_in {tb cb gb n : Nat} {nd : Nat → Nat → Nat} (i : Nat) (w : World) (hi : i < n) (hn : (n : Int) ≤ 4096) (T : TreeIn tb cb gb n nd w) :
    Calls Try.prog 27 #[.pointer (some ⟨tb, 0, none⟩), .int .i64 i] w fun e w' =>
      e = .returned (.agg #[.int .u64 (nd i 0 : Nat), .int .u64 (nd i 1 : Nat), .int .u64 (nd i 2 : Nat), .int .u64 (nd i 3 : Nat)]) ∧ Below w.heap.size w w' :=
  at_any tb cb gb n nd i w hi hn T.h1 T.h2 T.hN T.ht T.hc T.hg

theorem rowV_new4 {w : World} {g e : Nat} (v0 v1 v2 v3 : Value) (h : g = w.heap.size) : rowV (w.alloc (.cells #[v0, v1, v2, v3] e)) g e [v0, v1, v2, v3] := by
  subst h
  show (w.heap.push _)[w.heap.size]? = _
  simp
theorem rowV_set4 {w : World} {g e : Nat} {v0 v1 v2 v3 : Value} (h : rowV w g e [.int .u64 0, .int .u64 0, .int .u64 0, .int .u64 0]) :
    rowV ((((w.setCell ⟨g, 0, none⟩ v0).setCell ⟨g, 1, none⟩ v1).setCell ⟨g, 2, none⟩ v2).setCell ⟨g, 3, none⟩ v3) g e [v0, v1, v2, v3] :=
  (((h.set 0 v0).set 1 v1).set 2 v2).set 3 v3

theorem rowV_other {w : World} {g e b i : Nat} {vs : List Value} {v : Value} (h : rowV w g e vs) (hb : g ≠ b) : rowV (w.setCell ⟨b, i, none⟩ v) g e vs := h.other hb v
theorem rowB {W w2 : World} (hb : Below W.heap.size W w2) : ∀ (g e : Nat) (vs : List Value), g < W.heap.size → rowV W g e vs → rowV w2 g e vs := fun _ _ _ hg h => h.below hb hg
theorem belB {W w2 : World} (hb : Below W.heap.size W w2) : ∀ (B : Nat) (a : World), B ≤ W.heap.size → Below B a W → Below B a w2 := fun _ _ hB h => h.trans (hb.mono hB)

/-- the two nodes' words, in two boxes of the call's own -/
structure Two (nd : Nat → Nat → Nat) (x y : Nat) (w wc : World) (a b : Nat) : Prop where
  bel : Below w.heap.size w wc
  ra : rowV wc a 43 [.int .u64 (nd x 0 : Nat), .int .u64 (nd x 1 : Nat), .int .u64 (nd x 2 : Nat), .int .u64 (nd x 3 : Nat)]
  rb : rowV wc b 43 [.int .u64 (nd y 0 : Nat), .int .u64 (nd y 1 : Nat), .int .u64 (nd y 2 : Nat), .int .u64 (nd y 3 : Nat)]

theorem Two.kept {nd : Nat → Nat → Nat} {x y : Nat} {w wr w1 : World} {a b : Nat} (h : Two nd x y w wr a b) (hb : Below wr.heap.size wr w1) : Two nd x y w w1 a b :=
  ⟨h.bel.trans (hb.mono h.bel.size), h.ra.below hb h.ra.lt, h.rb.below hb h.rb.lt⟩

theorem eqB_same0 (nd : Nat → Nat → Nat) (x y : Nat) : eqB (nd x 0 : Nat) (nd x 1 : Nat) (nd x 2 : Nat) (nd x 3 : Nat) (nd y 0 : Nat) (nd y 1 : Nat) (nd y 2 : Nat) (nd y 3 : Nat) = true ↔ Plain.same nd 0 x y := by
  rw [eqB_iff]
  constructor
  · rintro ⟨h0, h1, h2, h3⟩ k hk
    match k, hk with
    | 0, _ => omega
    | 1, _ => omega
    | 2, _ => omega
    | 3, _ => omega
  · intro h
    have h0 := h 0 (by omega)
    have h1 := h 1 (by omega)
    have h2 := h 2 (by omega)
    have h3 := h 3 (by omega)
    omega

/-- what sameTree does at l levels: the contract -/
def SameAt (tb cb gb n : Nat) (nd : Nat → Nat → Nat) (l : Nat) : Prop :=
  ∀ (x y : Nat) (s : Int) (w : World), s = 2 * (l : Int) → Plain.wf n nd l x → Plain.wf n nd l y → TreeIn tb cb gb n nd w →
    Calls Try.prog 23 #[.pointer (some ⟨tb, 0, none⟩), .int .u64 x, .int .u64 y, .int .u64 s] w fun e w' =>
      ∃ r : Bool, e = .returned (.bool r) ∧ (r = true ↔ Plain.same nd l x y) ∧ Below w.heap.size w w'

theorem row4 {w : World} {a e : Nat} {nd : Nat → Nat → Nat} {x : Nat} (h : rowV w a e [.int .u64 (nd x 0 : Nat), .int .u64 (nd x 1 : Nat), .int .u64 (nd x 2 : Nat), .int .u64 (nd x 3 : Nat)]) (k : Nat) (hk : k < 4) :
    w.cell? ⟨a, k, none⟩ = some (.int .u64 (nd x k : Nat)) := by
  rw [h.cell]
  match k, hk with
  | 0, _ => rfl
  | 1, _ => rfl
  | 2, _ => rfl
  | 3, _ => rfl

set_option maxHeartbeats 4000000 in
theorem same_ne {tb cb gb n : Nat} {nd : Nat → Nat → Nat} (hn : (n : Int) ≤ 4096) (l x y : Nat) (s : Int) (w : World) (HL : Hid (s = 2 * (l : Int))) (IH : Hid (∀ m, l = m + 1 → SameAt tb cb gb n nd m)) (WX : Hid (Plain.wf n nd l x)) (WY : Hid (Plain.wf n nd l y)) (hx : x < n) (hy : y < n) (hne : ((x : Int) == (y : Int)) = false) (hl : l ≤ 31) (T : TreeIn tb cb gb n nd w) :
    Calls Try.prog 23 #[.pointer (some ⟨tb, 0, none⟩), .int .u64 x, .int .u64 y, .int .u64 s] w fun e w' =>
      ∃ r : Bool, e = .returned (.bool r) ∧ (r = true ↔ Plain.same nd l x y) ∧ Below w.heap.size w w' := by
  have hwx : IntKind.i64.wrap (x : Int) = x := by simp [IntKind.wrap, IntKind.bits, IntKind.signed]; omega
  have hwy : IntKind.i64.wrap (y : Int) = y := by simp [IntKind.wrap, IntKind.bits, IntKind.signed]; omega
  go_enter Try.func23, Try.ntmps23
  go_upto_region 3 with fail
  go_cut [9, 10] (fun p q wc => ∃ a b : Nat, p = .pointer (some ⟨a, 0, none⟩) ∧ q = .pointer (some ⟨b, 0, none⟩) ∧ Two nd x y w wc a b)
  case first =>
    go_region_with (first
      | (go_at_call_of 27 (Value.int IntKind.i64 (x : Int)); (refine (at_in (tb := tb) (cb := cb) (gb := gb) (n := n) (nd := nd) x _ hx hn ?_).mono ?_; (repeat (first | exact T | refine TreeIn.drew ?_ | refine TreeIn.alloc ?_ _)); rintro e w1 ⟨rfl, hb1⟩; obtain ⟨hc1, hf1⟩ := bcell hb1; have hz1 := hb1.size; (try simp only [World.size_alloc, World.size_drew] at hz1); (try (have hz1a : w.heap.size < w1.heap.size := by omega)); (try (have hz1b : w.heap.size + 1 < w1.heap.size := by omega))))
      | (go_at_call_of 27 (Value.int IntKind.i64 (y : Int)); refine (at_in (tb := tb) (cb := cb) (gb := gb) (n := n) (nd := nd) y _ hy hn ?_).mono ?_; (repeat (first | exact T | refine TreeIn.drew ?_ | refine TreeIn.alloc ?_ _ | refine TreeIn.kept ?_ hb1)); rintro e w2 ⟨rfl, hb2⟩; obtain ⟨hc2, hf2⟩ := bcell hb2; have hz2 := hb2.size; (try simp only [World.size_alloc, World.size_drew] at hz2); (try (have hz2a : w.heap.size < w2.heap.size := by omega)); (try (have hz2b : w.heap.size + 1 < w2.heap.size := by omega)); (try (have hz2c : w1.heap.size < w2.heap.size := by omega)); (try (have hz2d : w1.heap.size + 1 < w2.heap.size := by omega))))
    all_goals
      go_wp2_with fail
      go_meet
      case rel =>
        go_light
        refine ⟨_, _, rfl, rfl, ?_⟩
        clear T hwx hwy hc1 hc2 hf1 hf2
        have RB2 := rowB hb2
        have RB1 := rowB hb1
        have BB2 := belB hb2
        have BB1 := belB hb1
        clear hb1 hb2
        constructor
        · repeat (first | (with_reducible exact Below.refl _ _) | (with_reducible refine Below.drew ?_) | (with_reducible refine Below.setCell ?_ ?_ _; rotate_left; (show _ ≤ _; ((try simp only [World.size_alloc, World.size_drew, World.size_setCell]); omega))) | (with_reducible refine Below.alloc ?_ ?_ _; rotate_left; ((try simp only [World.size_alloc, World.size_drew, World.size_setCell]); omega)) | (with_reducible refine BB2 _ _ ?_ ?_; ((try simp only [World.size_alloc, World.size_drew, World.size_setCell]); omega)) | (with_reducible refine BB1 _ _ ?_ ?_; ((try simp only [World.size_alloc, World.size_drew, World.size_setCell]); omega)))
        · repeat (first | (with_reducible refine rowV_set4 ?_) | (with_reducible refine rowV.drew ?_) | (with_reducible refine rowV_new4 _ _ _ _ ?_; first | (with_reducible rfl) | (simp only [World.size_alloc, World.size_setCell]; done)) | (with_reducible refine rowV.alloc ?_ _) | (with_reducible refine rowV_other ?_ ?_; rotate_left; omega) | (with_reducible refine RB2 _ _ _ ?_ ?_; ((try simp only [World.size_alloc, World.size_drew, World.size_setCell]); omega)) | (with_reducible refine RB1 _ _ _ ?_ ?_; ((try simp only [World.size_alloc, World.size_drew, World.size_setCell]); omega)))
        · repeat (first | (with_reducible refine rowV_set4 ?_) | (with_reducible refine rowV.drew ?_) | (with_reducible refine rowV_new4 _ _ _ _ ?_; first | (with_reducible rfl) | (simp only [World.size_alloc, World.size_setCell]; done)) | (with_reducible refine rowV.alloc ?_ _) | (with_reducible refine rowV_other ?_ ?_; rotate_left; omega) | (with_reducible refine RB2 _ _ _ ?_ ?_; ((try simp only [World.size_alloc, World.size_drew, World.size_setCell]); omega)) | (with_reducible refine RB1 _ _ _ ?_ ?_; ((try simp only [World.size_alloc, World.size_drew, World.size_setCell]); omega)))
  case rest =>
    obtain ⟨a, b, rfl, rfl, H⟩ := hcut
    cases l with
    | zero =>
      have hs0 : (s == 0) = true := by have := HL.out; simp; omega
      have a0 := row4 H.ra 0 (by omega)
      have a1 := row4 H.ra 1 (by omega)
      have a2 := row4 H.ra 2 (by omega)
      have a3 := row4 H.ra 3 (by omega)
      have b0 := row4 H.rb 0 (by omega)
      have b1 := row4 H.rb 1 (by omega)
      have b2 := row4 H.rb 2 (by omega)
      have b3 := row4 H.rb 3 (by omega)
      have heq := fun w => eq43 (nd x 0 : Nat) (nd x 1 : Nat) (nd x 2 : Nat) (nd x 3 : Nat) (nd y 0 : Nat) (nd y 1 : Nat) (nd y 2 : Nat) (nd y 3 : Nat) w
      go_wp2_with fail
      go_ret
      exact ⟨_, rfl, eqB_same0 nd x y, H.bel⟩
    | succ m =>
      have T1 : TreeIn tb cb gb n nd wc := T.kept H.bel
      have IHm : Hid (SameAt tb cb gb n nd m) := IH.out m rfl
      have hm31 : (m : Int) ≤ 30 := by omega
      have hs0 : (s == 0) = false := by have := HL.out; simp; omega
      have hsw : IntKind.u64.wrap (s - 2) = s - 2 := by have := HL.out; simp [IntKind.wrap, IntKind.bits, IntKind.signed]; omega
      have HM : Hid (s - 2 = 2 * (m : Int)) := by have := HL.out; unfold Hid; omega
      go_wp2_with fail
      go_loopw [11, 32] (fun _ i wr => ∃ k : Nat, k ≤ 4 ∧ i = .int .i64 k ∧ Hid (∀ j, j < k → Plain.same nd m (nd x j) (nd y j)) ∧ TreeIn tb cb gb n nd wr ∧ Two nd x y w wr a b) (fun _ i _ => 4 - (intOf i).toNat)
      case atStart => exact ⟨0, by omega, rfl, fun j hj => by omega, T1, H⟩
      case round =>
        obtain ⟨k, hk, rfl, HS, T2, H2⟩ := hrel
        clear T1 H T
        by_cases hk4 : k < 4
        · have ca := row4 H2.ra k hk4
          have cb' := row4 H2.rb k hk4
          have wx := Plain.wf_kid WX.out hk4
          have wy := Plain.wf_kid WY.out hk4
          have WXk : Hid (Plain.wf n nd m (nd x k)) := wx
          have WYk : Hid (Plain.wf n nd m (nd y k)) := wy
          clear wx wy
          go_wp2_with fail
          go_region_with (go_at_call 23; refine (IHm.out (nd x k) (nd y k) (s - 2) _ HM.out WXk.out WYk.out ?_).mono ?_; (repeat (first | exact T2 | refine TreeIn.drew ?_)); rintro e w1 ⟨r, rfl, HR, hb1⟩)
          all_goals
            have hb2 : Below wr.heap.size wr w1 := (Below.refl _ _).drew.trans hb1
            clear hb1 ca cb' IHm
            cases r with
            | false =>
              have HF : Hid (¬ Plain.same nd (m + 1) x y) := fun h => by have := HR.2 (h k hk4); cases this
              clear HR
              go_wp2_with fail
              go_ret
              exact ⟨false, rfl, ⟨fun h => (by cases h), fun h => absurd h HF.out⟩, (H2.kept hb2).bel⟩
            | true =>
              have HS2 : Hid (∀ j, j < k + 1 → Plain.same nd m (nd x j) (nd y j)) := fun j hj => by
                by_cases h : j < k
                · exact HS.out j h
                · have e : j = k := by omega
                  subst e; exact HR.1 rfl
              have T3 := T2.kept hb2
              have H3 := H2.kept hb2
              clear HR HS T2 H2 hb2
              go_wp2_with fail
              go_roundw
              case rel => exact ⟨k + 1, by omega, by go_num, HS2, T3, H3⟩
              case measure => simp [intOf]; omega
        · have hke : k = 4 := by omega
          subst hke
          have hres : Plain.same nd (m + 1) x y := fun j hj => HS.out j hj
          have HR : Hid (Plain.same nd (m + 1) x y) := hres
          clear hres HS IHm T2
          go_wp2_with fail
          go_ret
          exact ⟨true, rfl, ⟨fun _ => HR.out, fun _ => rfl⟩, H2.bel⟩

set_option maxHeartbeats 400000 in
theorem same_eq {tb : Nat} {nd : Nat → Nat → Nat} (l x : Nat) (s : Int) (w : World) :
    Calls Try.prog 23 #[.pointer (some ⟨tb, 0, none⟩), .int .u64 x, .int .u64 x, .int .u64 s] w fun e w' =>
      ∃ r : Bool, e = .returned (.bool r) ∧ (r = true ↔ Plain.same nd l x x) ∧ Below w.heap.size w w' := by
  go_enter Try.func23, Try.ntmps23
  go_wp2_with fail
  go_ret
  exact ⟨true, rfl, ⟨fun _ => Plain.same_refl nd l x, fun _ => rfl⟩, Below.refl _ _⟩

theorem same_at {tb cb gb n : Nat} {nd : Nat → Nat → Nat} (hn : (n : Int) ≤ 4096) : ∀ l, l ≤ 31 → SameAt tb cb gb n nd l := by
  intro l
  induction l with
  | zero =>
    intro hl x y s w hs hx hy T
    by_cases h : x = y
    · subst h; exact same_eq 0 x s w
    · exact same_ne hn 0 x y s w hs (fun m hm => by omega) hx hy (Plain.wf_lt hx) (Plain.wf_lt hy) (by simp; omega) hl T
  | succ m ih =>
    intro hl x y s w hs hx hy T
    by_cases h : x = y
    · subst h; exact same_eq (m + 1) x s w
    · refine same_ne hn (m + 1) x y s w hs (fun m' hm => ?_) hx hy (Plain.wf_lt hx) (Plain.wf_lt hy) (by simp; omega) hl T
      have e : m' = m := by omega
      subst e
      exact ih (by omega)

end Go.Proofs.Qxb6602204a
