import Derived.Test.Qxb6602204aEq
import Derived.BigQuiet
import Derived.Deep.QuietTactic
namespace Go.Proofs.Qxb6602204a
open Go.RowKit
set_option linter.unusedVariables false

/-- the classes, as the cells of a row -/
def clsV (cls : List Nat) : List Value := cls.map fun (c : Nat) => Value.int .i64 (c : Int)

theorem clsV_get {cls : List Nat} {i : Nat} (h : i < cls.length) : (clsV cls)[i]? = some (.int .i64 (cls.getD i 0 : Nat)) := by
  unfold clsV
  rw [List.getElem?_map, List.getElem?_eq_getElem h, Option.map_some, List.getD_eq_getElem?_getD, List.getElem?_eq_getElem h]
  rfl

theorem row4' {w : World} {a e : Nat} {nd : Nat → Nat → Nat} {x : Nat} (h : rowV w a e [.int .u64 (nd x 0 : Nat), .int .u64 (nd x 1 : Nat), .int .u64 (nd x 2 : Nat), .int .u64 (nd x 3 : Nat)]) (k : Nat) (hk : k < 4) :
    w.cell? ⟨a, k, none⟩ = some (.int .u64 (nd x k : Nat)) := by
  rw [h.cell]
  match k, hk with
  | 0, _ => rfl
  | 1, _ => rfl
  | 2, _ => rfl
  | 3, _ => rfl

/-- what zzSameKids's loop carries -/
structure KidsIn (nd : Nat → Nat → Nat) (cls : List Nat) (g x y : Nat) (w wr : World) : Prop where
  bel : Below w.heap.size w wr
  rx : rowV wr w.heap.size 40 [.int .u64 (nd x 0 : Nat), .int .u64 (nd x 1 : Nat), .int .u64 (nd x 2 : Nat), .int .u64 (nd x 3 : Nat)]
  ry : rowV wr (w.heap.size + 1) 40 [.int .u64 (nd y 0 : Nat), .int .u64 (nd y 1 : Nat), .int .u64 (nd y 2 : Nat), .int .u64 (nd y 3 : Nat)]
  rc : rowV wr g 3 (clsV cls)

theorem KidsIn.drewN {nd : Nat → Nat → Nat} {cls : List Nat} {g x y : Nat} {w wr : World} (h : KidsIn nd cls g x y w wr) (k : Nat) : KidsIn nd cls g x y w (wr.drewN k) :=
  ⟨⟨h.bel.os, h.bel.tape, h.bel.output, h.bel.size, h.bel.block⟩, h.rx, h.ry, h.rc⟩

theorem rowV_new {w : World} {g e : Nat} (vs : List Value) (h : g = w.heap.size) : rowV (w.alloc (.cells vs.toArray e)) g e vs := by
  subst h
  show (w.heap.push _)[w.heap.size]? = _
  simp

set_option maxHeartbeats 1000000 in
theorem kids_any (g n : Nat) (nd : Nat → Nat → Nat) (cls : List Nat) (x y : Nat) (w : World) (hn : (n : Int) ≤ 4096) (hlen : cls.length = n)
    (hx : ∀ k, k < 4 → nd x k < n) (hy : ∀ k, k < 4 → nd y k < n) (hR : rowV w g 3 (clsV cls)) :
    Calls Try.prog 24 #[.slice (some ⟨g, 0, none⟩) n n, .agg #[.int .u64 (nd x 0 : Nat), .int .u64 (nd x 1 : Nat), .int .u64 (nd x 2 : Nat), .int .u64 (nd x 3 : Nat)],
        .agg #[.int .u64 (nd y 0 : Nat), .int .u64 (nd y 1 : Nat), .int .u64 (nd y 2 : Nat), .int .u64 (nd y 3 : Nat)]] w fun e w' =>
      ∃ r : Bool, e = .returned (.bool r) ∧ (r = true ↔ ∀ k, k < 4 → cls.getD (nd x k) 0 = cls.getD (nd y k) 0) ∧ Below w.heap.size w w' := by
  have hg : g < w.heap.size := hR.lt
  have K0 : KidsIn nd cls g x y w ((w.alloc (.cells #[.int .u64 (nd x 0 : Nat), .int .u64 (nd x 1 : Nat), .int .u64 (nd x 2 : Nat), .int .u64 (nd x 3 : Nat)] 40)).alloc (.cells #[.int .u64 (nd y 0 : Nat), .int .u64 (nd y 1 : Nat), .int .u64 (nd y 2 : Nat), .int .u64 (nd y 3 : Nat)] 40)) :=
    ⟨((Below.refl _ _).alloc (Nat.le_refl _) _).alloc (by simp) _, (rowV_new [.int .u64 (nd x 0 : Nat), .int .u64 (nd x 1 : Nat), .int .u64 (nd x 2 : Nat), .int .u64 (nd x 3 : Nat)] rfl).alloc _,
     rowV_new [.int .u64 (nd y 0 : Nat), .int .u64 (nd y 1 : Nat), .int .u64 (nd y 2 : Nat), .int .u64 (nd y 3 : Nat)] (by simp), (hR.alloc _).alloc _⟩
  have HX : Hid (∀ k, k < 4 → nd x k < n) := hx
  have HY : Hid (∀ k, k < 4 → nd y k < n) := hy
  clear hx hy hR
  go_enter Try.func24, Try.ntmps24
  go_wp2_with fail
  go_loopw [7] (fun i wr => ∃ k : Nat, k ≤ 4 ∧ i = .int .i64 k ∧ Hid (∀ j, j < k → cls.getD (nd x j) 0 = cls.getD (nd y j) 0) ∧ KidsIn nd cls g x y w wr) (fun i _ => 4 - (intOf i).toNat)
  case atStart => exact ⟨0, by omega, rfl, fun j hj => by omega, K0⟩
  case round =>
    obtain ⟨k, hk, rfl, HS, K⟩ := hrel
    clear K0
    by_cases hk4 : k < 4
    · have hkI : (k : Int) < 4 := by omega
      have cx := row4' K.rx k hk4
      have cy := row4' K.ry k hk4
      have bx := HX.out k hk4
      have bxy := HY.out k hk4
      have c1 : wr.cell? ⟨g, nd x k, none⟩ = some (.int .i64 (cls.getD (nd x k) 0 : Nat)) := by rw [K.rc.cell]; exact clsV_get (by omega)
      have c2 : wr.cell? ⟨g, nd y k, none⟩ = some (.int .i64 (cls.getD (nd y k) 0 : Nat)) := by rw [K.rc.cell]; exact clsV_get (by omega)
      have hS : cls.getD (nd x k) 0 = cls.getD (nd y k) 0 → Hid (∀ j, j < k + 1 → cls.getD (nd x j) 0 = cls.getD (nd y j) 0) := fun h j hj => by
        by_cases h' : j < k
        · exact HS.out j h'
        · have e : j = k := by omega
          subst e; exact h
      have HS1 : Hid (cls.getD (nd x k) 0 = cls.getD (nd y k) 0 → Hid (∀ j, j < k + 1 → cls.getD (nd x j) 0 = cls.getD (nd y j) 0)) := hS
      have HN : Hid (¬ cls.getD (nd x k) 0 = cls.getD (nd y k) 0 → ¬ ∀ j, j < 4 → cls.getD (nd x j) 0 = cls.getD (nd y j) 0) := fun h g => h (g k hk4)
      clear hS HS
      generalize cls.getD (nd x k) 0 = p at c1 HS1 HN
      generalize cls.getD (nd y k) 0 = q at c2 HS1 HN
      have bxI : ((nd x k : Nat) : Int) < n := by omega
      have byI : ((nd y k : Nat) : Int) < n := by omega
      generalize nd x k = X at cx bx bxI c1
      generalize nd y k = Y at cy bxy byI c2
      by_cases hpq : p = q
      · have hb : ((p : Int) != (q : Int)) = false := by rw [hpq]; simp
        have HS2 := HS1.out hpq
        have HPQ : Hid (p = q) := hpq
        clear hpq HS1 HN
        go_wp2_with fail
        go_quiet (fail)
        go_wp2_with fail
        go_roundw
        case rel => exact ⟨k + 1, by omega, by go_num, HS2, K.drewN _⟩
        case measure => simp [intOf]; omega
      · have hb : ((p : Int) != (q : Int)) = true := by simp; omega
        have HF : Hid (¬ ∀ j, j < 4 → cls.getD (nd x j) 0 = cls.getD (nd y j) 0) := HN.out hpq
        clear hpq HS1 HN
        go_wp2_with fail
        go_quiet (fail)
        go_wp2_with fail
        go_ret
        exact ⟨false, rfl, ⟨fun h => (by cases h), fun h => absurd h HF.out⟩, (K.drewN _).bel⟩
    · have hke : k = 4 := by omega
      subst hke
      go_wp2_with fail
      go_ret
      exact ⟨true, rfl, ⟨fun _ => HS.out, fun _ => rfl⟩, K.bel⟩

end Go.Proofs.Qxb6602204a
