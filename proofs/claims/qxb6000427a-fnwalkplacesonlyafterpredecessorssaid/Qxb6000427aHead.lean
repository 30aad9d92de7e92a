import Derived.Test.Qxb6000427aRows
import Derived.JoinedOf
import Derived.KernelRfl
namespace Go.Proofs.Qxb6000427a
open Go
set_option maxRecDepth 100000

/-- the signs of the dump's head, as numbers -/
def headCodes : List Nat := [104, 97, 114, 110, 101, 115, 115, 32, 56, 49, 52, 51, 100, 54, 99, 97, 48, 52, 99, 98, 50, 51, 53, 50, 98, 98, 99, 51, 100, 101, 56, 97, 102, 51, 100, 51, 55, 98, 55, 57, 101, 55, 102, 53, 53, 99, 52, 99, 98, 98, 48, 99, 54, 48, 98, 51, 54, 56, 56, 98, 97, 53, 54, 50, 57, 50, 48, 98, 48, 102, 98, 57, 32, 99, 117, 116, 32, 97, 116, 32, 101, 120, 97, 109, 112, 108, 101, 46, 99, 111, 109, 47, 102, 101, 114, 114, 111, 108, 104, 111, 47, 102, 101, 114, 114, 111, 108, 104, 111, 47, 122, 122, 108, 97, 119, 115, 95, 105, 110, 116, 101, 114, 110, 97, 108, 95, 97, 110, 97, 108, 121, 115, 105, 115, 95, 98, 49, 46, 70, 110, 83, 116, 114, 105, 99, 116, 110, 101, 115, 115, 77, 97, 116, 99, 104, 101, 115, 68, 101, 102, 105, 110, 105, 116, 105, 111, 110, 32, 101, 120, 97, 109, 112, 108, 101, 46, 99, 111, 109, 47, 102, 101, 114, 114, 111, 108, 104, 111, 47, 102, 101, 114, 114, 111, 108, 104, 111, 47, 122, 122, 108, 97, 119, 115, 95, 105, 110, 116, 101, 114, 110, 97, 108, 95, 97, 110, 97, 108, 121, 115, 105, 115, 95, 98, 49, 46, 70, 110, 80, 114, 101, 102, 105, 120, 75, 101, 101, 112, 115, 86, 101, 114, 100, 105, 99, 116, 115, 32, 101, 120, 97, 109, 112, 108, 101, 46, 99, 111, 109, 47, 102, 101, 114, 114, 111, 108, 104, 111, 47, 102, 101, 114, 114, 111, 108, 104, 111, 47, 122, 122, 108, 97, 119, 115, 95, 105, 110, 116, 101, 114, 110, 97, 108, 95, 97, 110, 97, 108, 121, 115, 105, 115, 95, 98, 49, 46, 70, 110, 83, 116, 114, 105, 99, 116, 72, 105, 115, 116, 111, 114, 121, 73, 115, 67, 97, 115, 99, 97, 100, 101, 108, 101, 115, 115, 32, 101, 120, 97, 109, 112, 108, 101, 46, 99, 111, 109, 47, 102, 101, 114, 114, 111, 108, 104, 111, 47, 102, 101, 114, 114, 111, 108, 104, 111, 47, 122, 122, 108, 97, 119, 115, 95, 105, 110, 116, 101, 114, 110, 97, 108, 95, 97, 110, 97, 108, 121, 115, 105, 115, 95, 98, 49, 46, 70, 110, 82, 101, 99, 111, 118, 101, 114, 97, 98, 105, 108, 105, 116, 121, 77, 97, 116, 99, 104, 101, 115, 68, 101, 102, 105, 110, 105, 116, 105, 111, 110, 32, 101, 120, 97, 109, 112, 108, 101, 46, 99, 111, 109, 47, 102, 101, 114, 114, 111, 108, 104, 111, 47, 102, 101, 114, 114, 111, 108, 104, 111, 47, 122, 122, 108, 97, 119, 115, 95, 105, 110, 116, 101, 114, 110, 97, 108, 95, 97, 110, 97, 108, 121, 115, 105, 115, 95, 98, 49, 46, 70, 110, 67, 97, 115, 99, 97, 100, 101, 108, 101, 115, 115, 73, 115, 82, 101, 99, 111, 118, 101, 114, 97, 98, 108, 101, 32, 101, 120, 97, 109, 112, 108, 101, 46, 99, 111, 109, 47, 102, 101, 114, 114, 111, 108, 104, 111, 47, 102, 101, 114, 114, 111, 108, 104, 111, 47, 122, 122, 108, 97, 119, 115, 95, 105, 110, 116, 101, 114, 110, 97, 108, 95, 97, 110, 97, 108, 121, 115, 105, 115, 95, 98, 49, 46, 70, 110, 82, 101, 110, 97, 109, 105, 110, 103, 75, 101, 101, 112, 115, 86, 101, 114, 100, 105, 99, 116, 115, 32, 101, 120, 97, 109, 112, 108, 101, 46, 99, 111, 109, 47, 102, 101, 114, 114, 111, 108, 104, 111, 47, 102, 101, 114, 114, 111, 108, 104, 111, 47, 122, 122, 108, 97, 119, 115, 95, 105, 110, 116, 101, 114, 110, 97, 108, 95, 97, 110, 97, 108, 121, 115, 105, 115, 95, 98, 49, 46, 70, 110, 87, 97, 108, 107, 79, 102, 70, 111, 114, 119, 97, 114, 100, 71, 114, 97, 112, 104, 73, 115, 73, 100, 101, 110, 116, 105, 116, 121, 32, 101, 120, 97, 109, 112, 108, 101, 46, 99, 111, 109, 47, 102, 101, 114, 114, 111, 108, 104, 111, 47, 102, 101, 114, 114, 111, 108, 104, 111, 47, 122, 122, 108, 97, 119, 115, 95, 105, 110, 116, 101, 114, 110, 97, 108, 95, 97, 110, 97, 108, 121, 115, 105, 115, 95, 98, 49, 46, 70, 110, 87, 97, 108, 107, 80, 108, 97, 99, 101, 115, 79, 110, 108, 121, 65, 102, 116, 101, 114, 80, 114, 101, 100, 101, 99, 101, 115, 115, 111, 114, 115]

theorem head_eq : Try.prog.initOrder = String.ofList (headCodes.map Char.ofNat) := by kernel_rfl
theorem head_list : Try.prog.initOrder.toList = headCodes.map Char.ofNat := by rw [head_eq, String.toList_ofList]
theorem head_words : behindMainWord (wordsSigns Try.prog.initOrder.toList) = ['c', 'u', 't'] :: (behindMainWord (wordsSigns (headCodes.map Char.ofNat))).tail := by
  rw [head_list]
  kernel_rfl
theorem strip_cut (rest : List (List Char)) : stripLifts liftWords (['c', 'u', 't'] :: rest) = ([], ['c', 'u', 't'] :: rest) := by kernel_rfl

/- over a program that is a letter: at the program itself the kernel would reckon the head anew at each unfolding -/
theorem may_of (P : Program) (rest : List (List Char)) (h : behindMainWord (wordsSigns P.initOrder.toList) = ['c', 'u', 't'] :: rest) (h1 : P.laysLater = false) (h2 : P.bearsReflect = false) (h3 : P.doorFits [] = true) : P.mayEnter = true := by
  unfold Program.mayEnter
  rw [h]
  simp only [strip_cut, h1, h2, h3]
  kernel_rfl
theorem lifts_of (P : Program) (rest : List (List Char)) (h : behindMainWord (wordsSigns P.initOrder.toList) = ['c', 'u', 't'] :: rest) : P.liftsFinal = false := by
  unfold Program.liftsFinal Program.headLifts
  simp only [h, strip_cut]
  kernel_rfl
theorem make_of (P : Program) (rest : List (List Char)) (h : behindMainWord (wordsSigns P.initOrder.toList) = ['c', 'u', 't'] :: rest) : P.make = some .cut := by
  unfold Program.make Program.headLifts
  simp only [h]
  kernel_rfl

theorem head_lays : Try.prog.laysLater = false := by kernel_rfl
theorem head_reflect : Try.prog.bearsReflect = false := by kernel_rfl
theorem head_door : Try.prog.doorFits [] = true := by kernel_rfl
theorem head_may : Try.prog.mayEnter = true := may_of Try.prog _ head_words head_lays head_reflect head_door
theorem head_lifts {b : Bool} (h : b = false) : (b == Try.prog.liftsFinal) = true := by rw [lifts_of Try.prog _ head_words, h]; rfl
theorem head_make {m : Make} (h : m = .cut) : (Try.prog.make == some m) = true := by rw [make_of Try.prog _ head_words, h]; kernel_rfl

theorem andI {a b : Bool} (ha : a = true) (hb : b = true) : (a && b) = true := by rw [ha, hb]; rfl
end Go.Proofs.Qxb6000427a
