/-
  THE CLOSED FACTS OF A ROW THAT READ THE HEAD's WORDS, a long string: its signs are laid once as a list of numbers, so that the kernel never takes the string apart (by one 'kernel_rfl' over all closed facts: over 10 GB; so: 2 GB).
-/
import Derived.Test.Qxb6602161aRows
import Derived.ProofKit
import Derived.KernelRfl
namespace Go.Proofs.Qxb6602161a.Closed

/-- the signs of the head's words -/
def signs : List Nat := [
  104, 97, 114, 110, 101, 115, 115, 32, 100, 99, 51, 99, 101, 55, 54, 54, 51, 100, 51, 99, 51, 52, 55, 101,
  51, 52, 49, 53, 49, 57, 97, 52, 99, 54, 53, 53, 101, 101, 54, 52, 55, 98, 97, 51, 56, 57, 49, 55,
  100, 101, 99, 101, 53, 54, 55, 98, 50, 55, 55, 101, 56, 102, 97, 97, 56, 97, 50, 57, 55, 48, 55, 57,
  32, 99, 117, 116, 32, 97, 116, 32, 101, 120, 97, 109, 112, 108, 101, 46, 99, 111, 109, 47, 103, 101, 110, 116,
  108, 101, 45, 100, 101, 112, 114, 101, 99, 97, 116, 105, 111, 110, 47, 103, 101, 110, 116, 108, 101, 45, 100, 101,
  112, 114, 101, 99, 97, 116, 105, 111, 110, 47, 122, 122, 108, 97, 119, 115, 95, 112, 107, 103, 95, 112, 111, 108,
  105, 99, 121, 95, 98, 49, 46, 70, 110, 75, 101, 112, 116, 70, 111, 114, 82, 101, 97, 100, 115, 79, 110, 108,
  121, 82, 101, 109, 111, 118, 97, 108, 65, 110, 100, 75, 101, 101, 112, 32, 101, 120, 97, 109, 112, 108, 101, 46,
  99, 111, 109, 47, 103, 101, 110, 116, 108, 101, 45, 100, 101, 112, 114, 101, 99, 97, 116, 105, 111, 110, 47, 103,
  101, 110, 116, 108, 101, 45, 100, 101, 112, 114, 101, 99, 97, 116, 105, 111, 110, 47, 122, 122, 108, 97, 119, 115,
  95, 112, 107, 103, 95, 112, 111, 108, 105, 99, 121, 95, 98, 49, 46, 70, 110, 75, 101, 112, 116, 65, 102, 116,
  101, 114, 73, 100, 101, 109, 112, 111, 116, 101, 110, 116, 32, 101, 120, 97, 109, 112, 108, 101, 46, 99, 111, 109,
  47, 103, 101, 110, 116, 108, 101, 45, 100, 101, 112, 114, 101, 99, 97, 116, 105, 111, 110, 47, 103, 101, 110, 116,
  108, 101, 45, 100, 101, 112, 114, 101, 99, 97, 116, 105, 111, 110, 47, 122, 122, 108, 97, 119, 115, 95, 112, 107,
  103, 95, 112, 111, 108, 105, 99, 121, 95, 98, 49, 46, 70, 110, 75, 101, 112, 116, 65, 102, 116, 101, 114, 65,
  103, 114, 101, 101, 115, 87, 105, 116, 104, 75, 101, 112, 116, 70, 111, 114, 32, 101, 120, 97, 109, 112, 108, 101,
  46, 99, 111, 109, 47, 103, 101, 110, 116, 108, 101, 45, 100, 101, 112, 114, 101, 99, 97, 116, 105, 111, 110, 47,
  103, 101, 110, 116, 108, 101, 45, 100, 101, 112, 114, 101, 99, 97, 116, 105, 111, 110, 47, 122, 122, 108, 97, 119,
  115, 95, 112, 107, 103, 95, 112, 111, 108, 105, 99, 121, 95, 98, 49, 46, 70, 110, 67, 117, 114, 114, 101, 110,
  116, 73, 115, 70, 114, 101, 115, 104, 69, 97, 99, 104, 67, 97, 108, 108, 32, 101, 120, 97, 109, 112, 108, 101,
  46, 99, 111, 109, 47, 103, 101, 110, 116, 108, 101, 45, 100, 101, 112, 114, 101, 99, 97, 116, 105, 111, 110, 47,
  103, 101, 110, 116, 108, 101, 45, 100, 101, 112, 114, 101, 99, 97, 116, 105, 111, 110, 47, 122, 122, 108, 97, 119,
  115, 95, 112, 107, 103, 95, 112, 111, 108, 105, 99, 121, 95, 98, 49, 46, 70, 110, 67, 117, 114, 114, 101, 110,
  116, 75, 101, 101, 112, 115, 77, 111, 114, 101, 83, 116, 97, 98, 108, 101, 76, 111, 110, 103, 101, 114]

theorem head_is : Try.prog.initOrder = String.ofList (signs.map Char.ofNat) := by kernel_rfl
theorem head_list : Try.prog.initOrder.toList = signs.map Char.ofNat := by rw [head_is, String.toList_ofList]

theorem first_word : (behindMainWord (wordsSigns (signs.map Char.ofNat))).head? = some "cut".toList := by kernel_rfl
theorem words_cut : ∃ rest, behindMainWord (wordsSigns Try.prog.initOrder.toList) = "cut".toList :: rest := by
  rw [head_list]
  have h := first_word
  generalize behindMainWord (wordsSigns (signs.map Char.ofNat)) = ws at h ⊢
  cases ws with
  | nil => cases h
  | cons a l => cases h; exact ⟨l, rfl⟩

theorem strip_cut (rest : List (List Char)) : stripLifts liftWords ("cut".toList :: rest) = ([], "cut".toList :: rest) := by kernel_rfl

theorem make_cut (P : Program) (rest : List (List Char)) (h : behindMainWord (wordsSigns P.initOrder.toList) = "cut".toList :: rest) : P.make = some .cut := by
  unfold Program.make
  rw [h]
  rfl
theorem final_cut (P : Program) (rest : List (List Char)) (h : behindMainWord (wordsSigns P.initOrder.toList) = "cut".toList :: rest) : P.liftsFinal = false := by
  unfold Program.liftsFinal Program.headLifts
  rw [h, strip_cut]
  rfl
theorem enter_cut (P : Program) (rest : List (List Char)) (h : behindMainWord (wordsSigns P.initOrder.toList) = "cut".toList :: rest) (h1 : P.laysLater = false) (h2 : P.bearsReflect = false) (h3 : P.doorFits [] = true) : P.mayEnter = true := by
  unfold Program.mayEnter
  rw [h]
  simp only [strip_cut, h1, h2, h3]
  rfl

theorem laysLater_is : Try.prog.laysLater = false := by kernel_rfl
theorem bearsReflect_is : Try.prog.bearsReflect = false := by kernel_rfl
theorem doorFits_is : Try.prog.doorFits [] = true := by kernel_rfl

theorem make_is : Try.prog.make = some .cut := by
  obtain ⟨rest, h⟩ := words_cut
  exact make_cut Try.prog rest h
theorem final_is : Try.prog.liftsFinal = false := by
  obtain ⟨rest, h⟩ := words_cut
  exact final_cut Try.prog rest h
theorem enter_is : Try.prog.mayEnter = true := by
  obtain ⟨rest, h⟩ := words_cut
  exact enter_cut Try.prog rest h laysLater_is bearsReflect_is doorFits_is

theorem band {a b : Bool} (h : a = true) (g : b = true) : (a && b) = true := by rw [h, g]; rfl

end Go.Proofs.Qxb6602161a.Closed
