/-
  THE CLOSED FACTS OF A ROW THAT READ THE HEAD's WORDS, a long string: its signs are laid once as a list of numbers, so that the kernel never takes the string apart (by one 'kernel_rfl' over all closed facts: over 10 GB; so: 2 GB).
-/
import Derived.Test.Qxb6602197aRows
import Derived.ProofKit
import Derived.KernelRfl
namespace Go.Proofs.Qxb6602197a.Closed

/-- the signs of the head's words -/
def signs : List Nat := [
  104, 97, 114, 110, 101, 115, 115, 32, 56, 102, 100, 98, 98, 50, 57, 50, 99, 57, 56, 49, 99, 51, 50, 102,
  56, 97, 99, 55, 52, 50, 51, 57, 48, 50, 51, 101, 100, 54, 50, 98, 100, 50, 56, 101, 52, 55, 52, 53,
  54, 101, 54, 54, 102, 54, 56, 56, 49, 56, 100, 51, 55, 52, 53, 50, 56, 50, 101, 97, 53, 49, 99, 53,
  32, 99, 117, 116, 32, 97, 116, 32, 101, 120, 97, 109, 112, 108, 101, 46, 99, 111, 109, 47, 116, 105, 100, 101,
  109, 97, 114, 107, 47, 116, 105, 100, 101, 109, 97, 114, 107, 47, 122, 122, 108, 97, 119, 115, 95, 105, 110, 116,
  101, 114, 110, 97, 108, 95, 106, 115, 111, 110, 115, 99, 97, 110, 95, 98, 49, 46, 70, 110, 72, 101, 120, 52,
  77, 97, 116, 99, 104, 101, 115, 68, 105, 103, 105, 116, 77, 111, 100, 101, 108, 32, 101, 120, 97, 109, 112, 108,
  101, 46, 99, 111, 109, 47, 116, 105, 100, 101, 109, 97, 114, 107, 47, 116, 105, 100, 101, 109, 97, 114, 107, 47,
  122, 122, 108, 97, 119, 115, 95, 105, 110, 116, 101, 114, 110, 97, 108, 95, 106, 115, 111, 110, 115, 99, 97, 110,
  95, 98, 49, 46, 70, 110, 72, 101, 120, 52, 69, 110, 99, 111, 100, 101, 84, 104, 101, 110, 68, 101, 99, 111,
  100, 101, 32, 101, 120, 97, 109, 112, 108, 101, 46, 99, 111, 109, 47, 116, 105, 100, 101, 109, 97, 114, 107, 47,
  116, 105, 100, 101, 109, 97, 114, 107, 47, 122, 122, 108, 97, 119, 115, 95, 105, 110, 116, 101, 114, 110, 97, 108,
  95, 106, 115, 111, 110, 115, 99, 97, 110, 95, 98, 49, 46, 70, 110, 72, 101, 120, 52, 82, 97, 110, 103, 101,
  65, 110, 100, 80, 114, 101, 102, 105, 120, 79, 110, 108, 121]

theorem head_is : Try.prog.initOrder = String.ofList (signs.map Char.ofNat) := by kernel_rfl
theorem head_list : Try.prog.initOrder.toList = signs.map Char.ofNat := by rw [head_is, String.toList_ofList]

theorem first_word : (behindMainWord (wordsSigns (signs.map Char.ofNat))).head? = some "cut".toList := by kernel_rfl
theorem words_cut : ∃ rest, behindMainWord (wordsSigns Try.prog.initOrder.toList) = "cut".toList :: rest := by
  rw [head_list]
  have h := first_word
  generalize behindMainWord (wordsSigns (signs.map Char.ofNat)) = ws at h ⊢
  cases ws with
  | nil => cases h
  | cons a l => cases h; exact ⟨l, rfl⟩

theorem strip_cut (rest : List (List Char)) : stripLifts liftWords ("cut".toList :: rest) = ([], "cut".toList :: rest) := by kernel_rfl

theorem make_cut (P : Program) (rest : List (List Char)) (h : behindMainWord (wordsSigns P.initOrder.toList) = "cut".toList :: rest) : P.make = some .cut := by
  unfold Program.make
  rw [h]
  rfl
theorem final_cut (P : Program) (rest : List (List Char)) (h : behindMainWord (wordsSigns P.initOrder.toList) = "cut".toList :: rest) : P.liftsFinal = false := by
  unfold Program.liftsFinal Program.headLifts
  rw [h, strip_cut]
  rfl
theorem enter_cut (P : Program) (rest : List (List Char)) (h : behindMainWord (wordsSigns P.initOrder.toList) = "cut".toList :: rest) (h1 : P.laysLater = false) (h2 : P.bearsReflect = false) (h3 : P.doorFits [] = true) : P.mayEnter = true := by
  unfold Program.mayEnter
  rw [h]
  simp only [strip_cut, h1, h2, h3]
  rfl

theorem laysLater_is : Try.prog.laysLater = false := by kernel_rfl
theorem bearsReflect_is : Try.prog.bearsReflect = false := by kernel_rfl
theorem doorFits_is : Try.prog.doorFits [] = true := by kernel_rfl

theorem make_is : Try.prog.make = some .cut := by
  obtain ⟨rest, h⟩ := words_cut
  exact make_cut Try.prog rest h
theorem final_is : Try.prog.liftsFinal = false := by
  obtain ⟨rest, h⟩ := words_cut
  exact final_cut Try.prog rest h
theorem enter_is : Try.prog.mayEnter = true := by
  obtain ⟨rest, h⟩ := words_cut
  exact enter_cut Try.prog rest h laysLater_is bearsReflect_is doorFits_is

theorem band {a b : Bool} (h : a = true) (g : b = true) : (a && b) = true := by rw [h, g]; rfl

end Go.Proofs.Qxb6602197a.Closed
