/-
  THE CLOSED FACTS OF A ROW THAT READ THE HEAD's WORDS, a long string: its signs are laid once as a list of numbers, so that the kernel never takes the string apart (by one 'kernel_rfl' over all closed facts: over 10 GB; so: 2 GB).
-/
import Derived.Test.Qxb6602120aRows
import Derived.ProofKit
import Derived.KernelRfl
namespace Go.Proofs.Qxb6602120a.Closed

/-- the signs of the head's words -/
def signs : List Nat := [
  104, 97, 114, 110, 101, 115, 115, 32, 57, 50, 97, 98, 99, 56, 48, 57, 54, 48, 51, 56, 100, 57, 53, 57,
  98, 50, 52, 99, 52, 54, 101, 100, 49, 52, 52, 97, 102, 48, 53, 102, 57, 55, 56, 55, 102, 98, 99, 97,
  99, 54, 101, 54, 48, 50, 102, 49, 102, 49, 52, 56, 50, 101, 55, 97, 99, 48, 97, 101, 54, 102, 102, 50,
  32, 99, 117, 116, 32, 97, 116, 32, 101, 120, 97, 109, 112, 108, 101, 46, 99, 111, 109, 47, 97, 110, 121, 45,
  105, 110, 105, 47, 97, 110, 121, 45, 105, 110, 105, 47, 122, 122, 108, 97, 119, 115, 95, 114, 111, 111, 116, 95,
  98, 49, 46, 70, 110, 81, 68, 76, 78, 117, 109, 98, 101, 114, 77, 97, 116, 99, 104, 101, 115, 65, 117, 116,
  111, 109, 97, 116, 111, 110, 32, 101, 120, 97, 109, 112, 108, 101, 46, 99, 111, 109, 47, 97, 110, 121, 45, 105,
  110, 105, 47, 97, 110, 121, 45, 105, 110, 105, 47, 122, 122, 108, 97, 119, 115, 95, 114, 111, 111, 116, 95, 98,
  49, 46, 70, 110, 81, 68, 76, 78, 117, 109, 98, 101, 114, 79, 110, 101, 77, 105, 110, 117, 115, 83, 105, 103,
  110, 32, 101, 120, 97, 109, 112, 108, 101, 46, 99, 111, 109, 47, 97, 110, 121, 45, 105, 110, 105, 47, 97, 110,
  121, 45, 105, 110, 105, 47, 122, 122, 108, 97, 119, 115, 95, 114, 111, 111, 116, 95, 98, 49, 46, 70, 110, 81,
  68, 76, 78, 117, 109, 98, 101, 114, 69, 110, 100, 115, 73, 110, 68, 105, 103, 105, 116, 65, 110, 100, 71, 114,
  111, 119, 115, 66, 121, 68, 105, 103, 105, 116, 115, 65, 108, 111, 110, 101, 32, 101, 120, 97, 109, 112, 108, 101,
  46, 99, 111, 109, 47, 97, 110, 121, 45, 105, 110, 105, 47, 97, 110, 121, 45, 105, 110, 105, 47, 122, 122, 108,
  97, 119, 115, 95, 114, 111, 111, 116, 95, 98, 49, 46, 70, 110, 83, 99, 104, 101, 109, 101, 66, 114, 97, 99,
  107, 101, 116, 77, 97, 116, 99, 104, 101, 115, 87, 111, 114, 100, 84, 97, 98, 108, 101, 32, 101, 120, 97, 109,
  112, 108, 101, 46, 99, 111, 109, 47, 97, 110, 121, 45, 105, 110, 105, 47, 97, 110, 121, 45, 105, 110, 105, 47,
  122, 122, 108, 97, 119, 115, 95, 114, 111, 111, 116, 95, 98, 49, 46, 70, 110, 83, 99, 104, 101, 109, 101, 66,
  114, 97, 99, 107, 101, 116, 73, 103, 110, 111, 114, 101, 115, 80, 114, 101, 102, 105, 120, 66, 101, 102, 111, 114,
  101, 67, 111, 108, 111, 110, 32, 101, 120, 97, 109, 112, 108, 101, 46, 99, 111, 109, 47, 97, 110, 121, 45, 105,
  110, 105, 47, 97, 110, 121, 45, 105, 110, 105, 47, 122, 122, 108, 97, 119, 115, 95, 114, 111, 111, 116, 95, 98,
  49, 46, 70, 110, 83, 99, 104, 101, 109, 101, 66, 114, 97, 99, 107, 101, 116, 73, 103, 110, 111, 114, 101, 115,
  66, 114, 97, 99, 107, 101, 116, 70, 114, 101, 101, 83, 117, 102, 102, 105, 120, 32, 101, 120, 97, 109, 112, 108,
  101, 46, 99, 111, 109, 47, 97, 110, 121, 45, 105, 110, 105, 47, 97, 110, 121, 45, 105, 110, 105, 47, 122, 122,
  108, 97, 119, 115, 95, 114, 111, 111, 116, 95, 98, 49, 46, 70, 110, 72, 80, 88, 77, 97, 116, 99, 104, 101,
  115, 73, 110, 110, 101, 114, 109, 111, 115, 116, 79, 102, 75, 105, 110, 100, 77, 111, 100, 101, 108, 32, 101, 120,
  97, 109, 112, 108, 101, 46, 99, 111, 109, 47, 97, 110, 121, 45, 105, 110, 105, 47, 97, 110, 121, 45, 105, 110,
  105, 47, 122, 122, 108, 97, 119, 115, 95, 114, 111, 111, 116, 95, 98, 49, 46, 70, 110, 72, 80, 88, 80, 97,
  105, 114, 115, 78, 101, 115, 116, 65, 110, 100, 77, 97, 116, 99, 104, 32, 101, 120, 97, 109, 112, 108, 101, 46,
  99, 111, 109, 47, 97, 110, 121, 45, 105, 110, 105, 47, 97, 110, 121, 45, 105, 110, 105, 47, 122, 122, 108, 97,
  119, 115, 95, 114, 111, 111, 116, 95, 98, 49, 46, 70, 110, 72, 80, 88, 85, 110, 109, 111, 118, 101, 100, 66,
  121, 68, 111, 108, 108, 97, 114, 70, 114, 101, 101, 80, 114, 101, 102, 105, 120, 65, 110, 100, 67, 108, 111, 115,
  101, 114, 70, 114, 101, 101, 83, 117, 102, 102, 105, 120]

theorem head_is : Try.prog.initOrder = String.ofList (signs.map Char.ofNat) := by kernel_rfl
theorem head_list : Try.prog.initOrder.toList = signs.map Char.ofNat := by rw [head_is, String.toList_ofList]

theorem first_word : (behindMainWord (wordsSigns (signs.map Char.ofNat))).head? = some "cut".toList := by kernel_rfl
theorem words_cut : ∃ rest, behindMainWord (wordsSigns Try.prog.initOrder.toList) = "cut".toList :: rest := by
  rw [head_list]
  have h := first_word
  generalize behindMainWord (wordsSigns (signs.map Char.ofNat)) = ws at h ⊢
  cases ws with
  | nil => cases h
  | cons a l => cases h; exact ⟨l, rfl⟩

theorem strip_cut (rest : List (List Char)) : stripLifts liftWords ("cut".toList :: rest) = ([], "cut".toList :: rest) := by kernel_rfl

theorem make_cut (P : Program) (rest : List (List Char)) (h : behindMainWord (wordsSigns P.initOrder.toList) = "cut".toList :: rest) : P.make = some .cut := by
  unfold Program.make
  rw [h]
  rfl
theorem final_cut (P : Program) (rest : List (List Char)) (h : behindMainWord (wordsSigns P.initOrder.toList) = "cut".toList :: rest) : P.liftsFinal = false := by
  unfold Program.liftsFinal Program.headLifts
  rw [h, strip_cut]
  rfl
theorem enter_cut (P : Program) (rest : List (List Char)) (h : behindMainWord (wordsSigns P.initOrder.toList) = "cut".toList :: rest) (h1 : P.laysLater = false) (h2 : P.bearsReflect = false) (h3 : P.doorFits [] = true) : P.mayEnter = true := by
  unfold Program.mayEnter
  rw [h]
  simp only [strip_cut, h1, h2, h3]
  rfl

theorem laysLater_is : Try.prog.laysLater = false := by kernel_rfl
theorem bearsReflect_is : Try.prog.bearsReflect = false := by kernel_rfl
theorem doorFits_is : Try.prog.doorFits [] = true := by kernel_rfl

theorem make_is : Try.prog.make = some .cut := by
  obtain ⟨rest, h⟩ := words_cut
  exact make_cut Try.prog rest h
theorem final_is : Try.prog.liftsFinal = false := by
  obtain ⟨rest, h⟩ := words_cut
  exact final_cut Try.prog rest h
theorem enter_is : Try.prog.mayEnter = true := by
  obtain ⟨rest, h⟩ := words_cut
  exact enter_cut Try.prog rest h laysLater_is bearsReflect_is doorFits_is

theorem band {a b : Bool} (h : a = true) (g : b = true) : (a && b) = true := by rw [h, g]; rfl

end Go.Proofs.Qxb6602120a.Closed
