import Derived.Test.Qxb6600356aRows
import Derived.ProofKit
namespace Go.Proofs.Qxb6600356a.Head

/-! THE CLOSED FACTS OF A ROW, WITH LITTLE MEMORY. Three of them ('mayEnter', 'liftsFinal', 'make') read the words of the dump's head, a string of 718 signs: the kernel, asked for its list of signs, wants 14 GB. Here the list is typed out, shown equal to it by the law on 'String.ofList', and put in its place. -/
def signs : List Char := ([104, 97, 114, 110, 101, 115, 115, 32, 48, 99, 55, 54, 52, 56, 49, 55, 55, 100, 49, 102, 98, 100, 99, 53, 98, 54, 97, 102, 53, 102, 102, 50, 56, 53, 99, 57, 98, 99, 53, 52,
  49, 56, 101, 48, 54, 98, 56, 53, 52, 51, 48, 54, 51, 51, 51, 52, 53, 100, 49, 98, 56, 101, 53, 99, 51, 48, 53, 57, 52, 98, 53, 55, 32, 99, 117, 116, 32, 97, 116, 32,
  101, 120, 97, 109, 112, 108, 101, 46, 99, 111, 109, 47, 112, 97, 114, 108, 101, 121, 47, 112, 97, 114, 108, 101, 121, 47, 122, 122, 108, 97, 119, 115, 95, 103, 114, 97, 100, 101, 100, 95,
  98, 49, 46, 70, 110, 76, 111, 119, 101, 114, 77, 101, 100, 105, 97, 110, 73, 115, 67, 101, 105, 108, 72, 97, 108, 102, 79, 114, 100, 101, 114, 83, 116, 97, 116, 105, 115, 116, 105, 99,
  32, 101, 120, 97, 109, 112, 108, 101, 46, 99, 111, 109, 47, 112, 97, 114, 108, 101, 121, 47, 112, 97, 114, 108, 101, 121, 47, 122, 122, 108, 97, 119, 115, 95, 103, 114, 97, 100, 101, 100,
  95, 98, 49, 46, 70, 110, 76, 111, 119, 101, 114, 77, 101, 100, 105, 97, 110, 65, 98, 111, 118, 101, 69, 120, 97, 99, 116, 108, 121, 87, 104, 101, 110, 77, 97, 106, 111, 114, 105, 116,
  121, 65, 98, 111, 118, 101, 32, 101, 120, 97, 109, 112, 108, 101, 46, 99, 111, 109, 47, 112, 97, 114, 108, 101, 121, 47, 112, 97, 114, 108, 101, 121, 47, 122, 122, 108, 97, 119, 115, 95,
  103, 114, 97, 100, 101, 100, 95, 98, 49, 46, 70, 110, 76, 111, 119, 101, 114, 77, 101, 100, 105, 97, 110, 82, 105, 115, 101, 115, 66, 121, 65, 116, 77, 111, 115, 116, 84, 104, 101, 82,
  105, 115, 101, 79, 102, 79, 110, 101, 67, 111, 117, 110, 116, 32, 101, 120, 97, 109, 112, 108, 101, 46, 99, 111, 109, 47, 112, 97, 114, 108, 101, 121, 47, 112, 97, 114, 108, 101, 121, 47,
  122, 122, 108, 97, 119, 115, 95, 103, 114, 97, 100, 101, 100, 95, 98, 49, 46, 70, 110, 82, 101, 112, 111, 114, 116, 101, 100, 73, 115, 66, 101, 115, 116, 82, 97, 110, 107, 101, 100, 72,
  101, 108, 100, 80, 97, 105, 114, 32, 101, 120, 97, 109, 112, 108, 101, 46, 99, 111, 109, 47, 112, 97, 114, 108, 101, 121, 47, 112, 97, 114, 108, 101, 121, 47, 122, 122, 108, 97, 119, 115,
  95, 103, 114, 97, 100, 101, 100, 95, 98, 49, 46, 70, 110, 82, 101, 112, 111, 114, 116, 101, 100, 79, 102, 85, 110, 105, 111, 110, 73, 115, 66, 101, 116, 116, 101, 114, 79, 102, 84, 104,
  101, 84, 119, 111, 32, 101, 120, 97, 109, 112, 108, 101, 46, 99, 111, 109, 47, 112, 97, 114, 108, 101, 121, 47, 112, 97, 114, 108, 101, 121, 47, 122, 122, 108, 97, 119, 115, 95, 103, 114,
  97, 100, 101, 100, 95, 98, 49, 46, 70, 110, 67, 104, 101, 99, 107, 77, 97, 116, 99, 104, 101, 115, 80, 114, 111, 112, 101, 114, 116, 121, 68, 101, 102, 105, 110, 105, 116, 105, 111, 110,
  115, 32, 101, 120, 97, 109, 112, 108, 101, 46, 99, 111, 109, 47, 112, 97, 114, 108, 101, 121, 47, 112, 97, 114, 108, 101, 121, 47, 122, 122, 108, 97, 119, 115, 95, 103, 114, 97, 100, 101,
  100, 95, 98, 49, 46, 70, 110, 67, 104, 101, 99, 107, 68, 114, 111, 112, 112, 105, 110, 103, 65, 78, 111, 100, 101, 66, 114, 101, 97, 107, 115, 78, 111, 75, 101, 112, 116, 80, 114, 111,
  112, 101, 114, 116, 121, 32, 101, 120, 97, 109, 112, 108, 101, 46, 99, 111, 109, 47, 112, 97, 114, 108, 101, 121, 47, 112, 97, 114, 108, 101, 121, 47, 122, 122, 108, 97, 119, 115, 95, 103,
  114, 97, 100, 101, 100, 95, 98, 49, 46, 70, 110, 67, 104, 101, 99, 107, 73, 103, 110, 111, 114, 101, 115, 84, 104, 101, 79, 114, 100, 101, 114, 79, 102, 78, 111, 100, 101, 115] : List Nat).map Char.ofNat

theorem order_eq : Try.prog.initOrder = String.ofList signs := by kernel_rfl
theorem order_list : Try.prog.initOrder.toList = signs := by rw [order_eq, String.toList_ofList]
/-- Whatever program bears these signs at its head: its words begin with 'cut'. -/
theorem words : behindMainWord (wordsSigns signs) = "cut".toList :: (behindMainWord (wordsSigns signs)).tail := by kernel_rfl
theorem enter_any (P : Program) (h : P.initOrder.toList = signs) (h2 : P.laysLater = false) (h3 : P.bearsReflect = false) (h4 : P.doorFits [] = true) : P.mayEnter = true := by
  unfold Program.mayEnter
  rw [h, words]
  generalize (behindMainWord (wordsSigns signs)).tail = r
  have e1 : (stripLifts liftWords ("cut".toList :: r)).1 = [] := rfl
  have e2 : (stripLifts liftWords ("cut".toList :: r)).2 = "cut".toList :: r := rfl
  simp only [e1, e2, h2, h3, h4]
  rfl
theorem lifts_any (P : Program) (h : P.initOrder.toList = signs) : P.liftsFinal = false := by
  unfold Program.liftsFinal Program.headLifts
  rw [h, words]
  generalize (behindMainWord (wordsSigns signs)).tail = r
  rfl
theorem made_any (P : Program) (h : P.initOrder.toList = signs) : P.make = some .cut := by
  unfold Program.make
  rw [h, words]
  generalize (behindMainWord (wordsSigns signs)).tail = r
  rfl
theorem enter : Try.prog.mayEnter = true := enter_any _ order_list (by kernel_rfl) (by kernel_rfl) (by kernel_rfl)
theorem lifts : Try.prog.liftsFinal = false := lifts_any _ order_list
theorem made : Try.prog.make = some .cut := made_any _ order_list

end Go.Proofs.Qxb6600356a.Head
