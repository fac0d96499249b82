/-
  THE CLOSED FACTS OF A ROW THAT READ THE HEAD's WORDS, a long string: its signs are laid once as a list of numbers, so that the kernel never takes the string apart (by one 'kernel_rfl' over all closed facts: over 10 GB; so: 2 GB).
-/
import Derived.Test.Qxb6602204aRows
import Derived.ProofKit
import Derived.KernelRfl
namespace Go.Proofs.Qxb6602204a.Closed

/-- the signs of the head's words -/
def signs : List Nat := [
  104, 97, 114, 110, 101, 115, 115, 32, 56, 99, 55, 102, 49, 55, 49, 101, 56, 98, 55, 55, 101, 54, 51, 48,
  51, 98, 49, 53, 56, 48, 98, 97, 98, 54, 99, 99, 100, 51, 102, 50, 101, 97, 48, 50, 56, 52, 101, 56,
  48, 101, 97, 50, 48, 48, 51, 55, 49, 100, 54, 49, 50, 100, 48, 55, 49, 51, 99, 53, 53, 52, 56, 100,
  32, 99, 117, 116, 32, 97, 116, 32, 101, 120, 97, 109, 112, 108, 101, 46, 99, 111, 109, 47, 105, 114, 111, 110,
  113, 117, 105, 108, 108, 47, 105, 114, 111, 110, 113, 117, 105, 108, 108, 47, 122, 122, 108, 97, 119, 115, 95, 105,
  110, 116, 101, 114, 110, 97, 108, 95, 104, 105, 115, 116, 111, 114, 121, 95, 98, 49, 46, 70, 110, 83, 97, 109,
  101, 84, 114, 101, 101, 77, 97, 116, 99, 104, 101, 115, 67, 111, 110, 116, 101, 110, 116, 67, 108, 97, 115, 115,
  101, 115, 32, 101, 120, 97, 109, 112, 108, 101, 46, 99, 111, 109, 47, 105, 114, 111, 110, 113, 117, 105, 108, 108,
  47, 105, 114, 111, 110, 113, 117, 105, 108, 108, 47, 122, 122, 108, 97, 119, 115, 95, 105, 110, 116, 101, 114, 110,
  97, 108, 95, 104, 105, 115, 116, 111, 114, 121, 95, 98, 49, 46, 70, 110, 83, 97, 109, 101, 84, 114, 101, 101,
  65, 103, 114, 101, 101, 115, 87, 105, 116, 104, 76, 111, 111, 107, 117, 112, 32, 101, 120, 97, 109, 112, 108, 101,
  46, 99, 111, 109, 47, 105, 114, 111, 110, 113, 117, 105, 108, 108, 47, 105, 114, 111, 110, 113, 117, 105, 108, 108,
  47, 122, 122, 108, 97, 119, 115, 95, 105, 110, 116, 101, 114, 110, 97, 108, 95, 104, 105, 115, 116, 111, 114, 121,
  95, 98, 49, 46, 70, 110, 83, 97, 109, 101, 84, 114, 101, 101, 73, 115, 65, 110, 69, 113, 117, 105, 118, 97,
  108, 101, 110, 99, 101, 32, 101, 120, 97, 109, 112, 108, 101, 46, 99, 111, 109, 47, 105, 114, 111, 110, 113, 117,
  105, 108, 108, 47, 105, 114, 111, 110, 113, 117, 105, 108, 108, 47, 122, 122, 108, 97, 119, 115, 95, 105, 110, 116,
  101, 114, 110, 97, 108, 95, 104, 105, 115, 116, 111, 114, 121, 95, 98, 49, 46, 70, 110, 80, 108, 97, 99, 101,
  109, 101, 110, 116, 72, 97, 115, 104, 83, 116, 97, 116, 101, 115, 79, 114, 100, 101, 114, 65, 110, 100, 82, 111,
  111, 116, 115, 70, 114, 101, 101, 32, 101, 120, 97, 109, 112, 108, 101, 46, 99, 111, 109, 47, 105, 114, 111, 110,
  113, 117, 105, 108, 108, 47, 105, 114, 111, 110, 113, 117, 105, 108, 108, 47, 122, 122, 108, 97, 119, 115, 95, 105,
  110, 116, 101, 114, 110, 97, 108, 95, 104, 105, 115, 116, 111, 114, 121, 95, 98, 49, 46, 70, 110, 80, 108, 97,
  99, 101, 109, 101, 110, 116, 72, 97, 115, 104, 79, 110, 101, 67, 104, 97, 110, 103, 101, 77, 111, 118, 101, 115,
  73, 116]

theorem head_is : Try.prog.initOrder = String.ofList (signs.map Char.ofNat) := by kernel_rfl
theorem head_list : Try.prog.initOrder.toList = signs.map Char.ofNat := by rw [head_is, String.toList_ofList]

theorem first_word : (behindMainWord (wordsSigns (signs.map Char.ofNat))).head? = some "cut".toList := by kernel_rfl
theorem words_cut : ∃ rest, behindMainWord (wordsSigns Try.prog.initOrder.toList) = "cut".toList :: rest := by
  rw [head_list]
  have h := first_word
  generalize behindMainWord (wordsSigns (signs.map Char.ofNat)) = ws at h ⊢
  cases ws with
  | nil => cases h
  | cons a l => cases h; exact ⟨l, rfl⟩

theorem strip_cut (rest : List (List Char)) : stripLifts liftWords ("cut".toList :: rest) = ([], "cut".toList :: rest) := by kernel_rfl

theorem make_cut (P : Program) (rest : List (List Char)) (h : behindMainWord (wordsSigns P.initOrder.toList) = "cut".toList :: rest) : P.make = some .cut := by
  unfold Program.make
  rw [h]
  rfl
theorem final_cut (P : Program) (rest : List (List Char)) (h : behindMainWord (wordsSigns P.initOrder.toList) = "cut".toList :: rest) : P.liftsFinal = false := by
  unfold Program.liftsFinal Program.headLifts
  rw [h, strip_cut]
  rfl
theorem enter_cut (P : Program) (rest : List (List Char)) (h : behindMainWord (wordsSigns P.initOrder.toList) = "cut".toList :: rest) (h1 : P.laysLater = false) (h2 : P.bearsReflect = false) (h3 : P.doorFits [] = true) : P.mayEnter = true := by
  unfold Program.mayEnter
  rw [h]
  simp only [strip_cut, h1, h2, h3]
  rfl

theorem laysLater_is : Try.prog.laysLater = false := by kernel_rfl
theorem bearsReflect_is : Try.prog.bearsReflect = false := by kernel_rfl
theorem doorFits_is : Try.prog.doorFits [] = true := by kernel_rfl

theorem make_is : Try.prog.make = some .cut := by
  obtain ⟨rest, h⟩ := words_cut
  exact make_cut Try.prog rest h
theorem final_is : Try.prog.liftsFinal = false := by
  obtain ⟨rest, h⟩ := words_cut
  exact final_cut Try.prog rest h
theorem enter_is : Try.prog.mayEnter = true := by
  obtain ⟨rest, h⟩ := words_cut
  exact enter_cut Try.prog rest h laysLater_is bearsReflect_is doorFits_is

theorem band {a b : Bool} (h : a = true) (g : b = true) : (a && b) = true := by rw [h, g]; rfl

end Go.Proofs.Qxb6602204a.Closed
