import Derived.Test.Qxb6602204aProg
import Derived.Test.Qxb6602204aPlain
import Derived.Test.Qxb6602204aRowsV
namespace Go.Proofs.Qxb6602204a
open Go.RowKit
set_option linter.unusedVariables false

/-- the four words of node i, laid at block g from place 4 i on -/
def Nodes (w : World) (g off n : Nat) (nd : Nat → Nat → Nat) : Prop :=
  ∀ i k, i < n → k < 4 → w.cell? ⟨g, off + (i * 4 + k), none⟩ = some (.int .u64 (nd i k : Nat))

set_option maxHeartbeats 400000 in
theorem at_any (tb cb gb n : Nat) (nd : Nat → Nat → Nat) (i : Nat) (w : World) (hi : i < n) (hn : (n : Int) ≤ 4096)
    (h1 : w.cell? ⟨tb, 0, none⟩ = some (.slice (some ⟨cb, 0, none⟩) 1 1)) (h2 : w.cell? ⟨cb, 0, none⟩ = some (.slice (some ⟨gb, 0, none⟩) n n)) (hN : Nodes w gb 0 n nd)
    (ht : tb < w.heap.size) (hc : cb < w.heap.size) (hg : gb < w.heap.size) :
    Calls Try.prog 27 #[.pointer (some ⟨tb, 0, none⟩), .int .i64 i] w fun e w' =>
      e = .returned (.agg #[.int .u64 (nd i 0 : Nat), .int .u64 (nd i 1 : Nat), .int .u64 (nd i 2 : Nat), .int .u64 (nd i 3 : Nat)]) ∧ Below w.heap.size w w' := by
  have c0 := hN i 0 hi (by omega)
  have c1 := hN i 1 hi (by omega)
  have c2 := hN i 2 hi (by omega)
  have c3 := hN i 3 hi (by omega)
  simp only [Nat.zero_add, Nat.add_zero] at c0 c1 c2 c3
  clear hN
  have hi' : (i : Int) < n := by omega
  have q1 : i / 65536 = 0 := by omega
  have q2 : (i : Int) / 65536 = 0 := by omega
  have q3 : i % 65536 = i := by omega
  have q4 : (i : Int) % 65536 = i := by omega
  go_enter Try.func27, Try.ntmps27
  go_wp2
  refine bodyPost_ret (v := .agg #[.int .u64 (nd i 0 : Nat), .int .u64 (nd i 1 : Nat), .int .u64 (nd i 2 : Nat), .int .u64 (nd i 3 : Nat)]) (by simp [results, Try.results27, go_sem]) rfl ⟨rfl, ?_⟩
  repeat (first | exact Below.refl _ _ | refine Below.alloc ?_ (by simp; try omega) _)

end Go.Proofs.Qxb6602204a
