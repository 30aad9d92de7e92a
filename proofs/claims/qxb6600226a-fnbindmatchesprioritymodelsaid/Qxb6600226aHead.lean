import Derived.Test.Qxb6600226aRows
import Derived.JoinedOf
import Derived.KernelRfl
namespace Go.Proofs.Qxb6600226a
open Go
set_option maxRecDepth 100000

/-- the signs of the dump's head, as numbers -/
def headCodes : List Nat := [104, 97, 114, 110, 101, 115, 115, 32, 98, 50, 53, 51, 102, 51, 50, 53, 57, 102, 101, 54, 100, 50, 51, 50, 52, 98, 49, 50, 99, 54, 101, 50, 101, 53, 55, 54, 100, 101, 54, 97, 54, 98, 100, 98, 56, 98, 102, 51, 54, 49, 53, 98, 56, 51, 98, 53, 53, 54, 51, 56, 98, 49, 54, 97, 51, 102, 54, 100, 57, 100, 51, 55, 32, 99, 117, 116, 32, 97, 116, 32, 101, 120, 97, 109, 112, 108, 101, 46, 99, 111, 109, 47, 99, 104, 111, 114, 101, 119, 114, 105, 103, 104, 116, 47, 99, 104, 111, 114, 101, 119, 114, 105, 103, 104, 116, 47, 122, 122, 108, 97, 119, 115, 95, 105, 110, 116, 101, 114, 110, 97, 108, 95, 99, 104, 111, 114, 101, 102, 105, 108, 101, 95, 98, 49, 46, 70, 110, 73, 115, 67, 104, 111, 114, 101, 78, 97, 109, 101, 80, 114, 101, 102, 105, 120, 67, 108, 111, 115, 101, 100, 32, 101, 120, 97, 109, 112, 108, 101, 46, 99, 111, 109, 47, 99, 104, 111, 114, 101, 119, 114, 105, 103, 104, 116, 47, 99, 104, 111, 114, 101, 119, 114, 105, 103, 104, 116, 47, 122, 122, 108, 97, 119, 115, 95, 105, 110, 116, 101, 114, 110, 97, 108, 95, 99, 104, 111, 114, 101, 102, 105, 108, 101, 95, 98, 49, 46, 70, 110, 73, 115, 67, 104, 111, 114, 101, 78, 97, 109, 101, 74, 111, 105, 110, 115, 65, 110, 100, 82, 101, 102, 117, 115, 97, 108, 115, 32, 101, 120, 97, 109, 112, 108, 101, 46, 99, 111, 109, 47, 99, 104, 111, 114, 101, 119, 114, 105, 103, 104, 116, 47, 99, 104, 111, 114, 101, 119, 114, 105, 103, 104, 116, 47, 122, 122, 108, 97, 119, 115, 95, 105, 110, 116, 101, 114, 110, 97, 108, 95, 99, 104, 111, 114, 101, 102, 105, 108, 101, 95, 98, 49, 46, 70, 110, 66, 105, 110, 100, 77, 97, 116, 99, 104, 101, 115, 80, 114, 105, 111, 114, 105, 116, 121, 77, 111, 100, 101, 108, 32, 101, 120, 97, 109, 112, 108, 101, 46, 99, 111, 109, 47, 99, 104, 111, 114, 101, 119, 114, 105, 103, 104, 116, 47, 99, 104, 111, 114, 101, 119, 114, 105, 103, 104, 116, 47, 122, 122, 108, 97, 119, 115, 95, 105, 110, 116, 101, 114, 110, 97, 108, 95, 99, 104, 111, 114, 101, 102, 105, 108, 101, 95, 98, 49, 46, 70, 110, 66, 105, 110, 100, 79, 118, 101, 114, 114, 105, 100, 101, 115, 65, 99, 116, 79, 110, 108, 121, 66, 121, 76, 97, 115, 116, 69, 110, 116, 114, 121, 80, 101, 114, 65, 114, 103, 117, 109, 101, 110, 116, 32, 101, 120, 97, 109, 112, 108, 101, 46, 99, 111, 109, 47, 99, 104, 111, 114, 101, 119, 114, 105, 103, 104, 116, 47, 99, 104, 111, 114, 101, 119, 114, 105, 103, 104, 116, 47, 122, 122, 108, 97, 119, 115, 95, 105, 110, 116, 101, 114, 110, 97, 108, 95, 99, 104, 111, 114, 101, 102, 105, 108, 101, 95, 98, 49, 46, 70, 110, 78, 101, 119, 69, 110, 118, 105, 114, 111, 110, 77, 97, 116, 99, 104, 101, 115, 76, 97, 115, 116, 87, 105, 110, 115, 77, 111, 100, 101, 108, 32, 101, 120, 97, 109, 112, 108, 101, 46, 99, 111, 109, 47, 99, 104, 111, 114, 101, 119, 114, 105, 103, 104, 116, 47, 99, 104, 111, 114, 101, 119, 114, 105, 103, 104, 116, 47, 122, 122, 108, 97, 119, 115, 95, 105, 110, 116, 101, 114, 110, 97, 108, 95, 99, 104, 111, 114, 101, 102, 105, 108, 101, 95, 98, 49, 46, 70, 110, 78, 101, 119, 69, 110, 118, 105, 114, 111, 110, 73, 100, 101, 109, 112, 111, 116, 101, 110, 116, 32, 101, 120, 97, 109, 112, 108, 101, 46, 99, 111, 109, 47, 99, 104, 111, 114, 101, 119, 114, 105, 103, 104, 116, 47, 99, 104, 111, 114, 101, 119, 114, 105, 103, 104, 116, 47, 122, 122, 108, 97, 119, 115, 95, 105, 110, 116, 101, 114, 110, 97, 108, 95, 99, 104, 111, 114, 101, 102, 105, 108, 101, 95, 98, 49, 46, 70, 110, 78, 101, 119, 69, 110, 118, 105, 114, 111, 110, 70, 111, 108, 100, 115, 79, 118, 101, 114, 67, 111, 110, 99, 97, 116, 101, 110, 97, 116, 105, 111, 110]

theorem head_eq : Try.prog.initOrder = String.ofList (headCodes.map Char.ofNat) := by kernel_rfl
theorem head_list : Try.prog.initOrder.toList = headCodes.map Char.ofNat := by rw [head_eq, String.toList_ofList]
theorem head_words : behindMainWord (wordsSigns Try.prog.initOrder.toList) = ['c', 'u', 't'] :: (behindMainWord (wordsSigns (headCodes.map Char.ofNat))).tail := by
  rw [head_list]
  kernel_rfl
theorem strip_cut (rest : List (List Char)) : stripLifts liftWords (['c', 'u', 't'] :: rest) = ([], ['c', 'u', 't'] :: rest) := by kernel_rfl

/- over a program that is a letter: at the program itself the kernel would reckon the head anew at each unfolding -/
theorem may_of (P : Program) (rest : List (List Char)) (h : behindMainWord (wordsSigns P.initOrder.toList) = ['c', 'u', 't'] :: rest) (h1 : P.laysLater = false) (h2 : P.bearsReflect = false) (h3 : P.doorFits [] = true) : P.mayEnter = true := by
  unfold Program.mayEnter
  rw [h]
  simp only [strip_cut, h1, h2, h3]
  kernel_rfl
theorem lifts_of (P : Program) (rest : List (List Char)) (h : behindMainWord (wordsSigns P.initOrder.toList) = ['c', 'u', 't'] :: rest) : P.liftsFinal = false := by
  unfold Program.liftsFinal Program.headLifts
  simp only [h, strip_cut]
  kernel_rfl
theorem make_of (P : Program) (rest : List (List Char)) (h : behindMainWord (wordsSigns P.initOrder.toList) = ['c', 'u', 't'] :: rest) : P.make = some .cut := by
  unfold Program.make Program.headLifts
  simp only [h]
  kernel_rfl

theorem head_lays : Try.prog.laysLater = false := by kernel_rfl
theorem head_reflect : Try.prog.bearsReflect = false := by kernel_rfl
theorem head_door : Try.prog.doorFits [] = true := by kernel_rfl
theorem head_may : Try.prog.mayEnter = true := may_of Try.prog _ head_words head_lays head_reflect head_door
theorem head_lifts {b : Bool} (h : b = false) : (b == Try.prog.liftsFinal) = true := by rw [lifts_of Try.prog _ head_words, h]; rfl
theorem head_make {m : Make} (h : m = .cut) : (Try.prog.make == some m) = true := by rw [make_of Try.prog _ head_words, h]; kernel_rfl

theorem andI {a b : Bool} (ha : a = true) (hb : b = true) : (a && b) = true := by rw [ha, hb]; rfl
end Go.Proofs.Qxb6600226a
