import Derived.Test.Qxb6001698aRows
import Derived.WalkKit
import Derived.ProofKit
/- The closed facts of this seat's rows. The dump's head is a text of 559 signs; reading it sign by sign inside the kernel may take more memory than the lid lets (it did at a head of 920 signs). So its signs are written out once here ('signs_are', by the law that undoes the making of a text from its signs), and every fact that reads the head is reckoned over that list. -/
namespace Go.Proofs.Qxb6001698a.Head
def codes : List Nat := [104, 97, 114, 110, 101, 115, 115, 32, 98, 52, 49, 53, 99, 50, 48, 102, 55, 102, 49, 57, 99, 57, 53, 52, 49, 55, 101, 57, 49, 51, 51, 52, 53, 57, 48, 50, 99, 50, 56, 100, 99, 100, 51, 97, 102, 102, 50, 52, 49, 52, 53, 97, 52, 57, 100, 56, 50, 57, 55, 98, 48, 101, 102, 49, 102, 48, 57, 101, 52, 51, 55, 51, 32, 99, 117, 116, 32, 97, 116, 32, 101, 120, 97, 109, 112, 108, 101, 46, 99, 111, 109, 47, 115, 104, 97, 114, 100, 107, 101, 101, 112, 101, 114, 47, 115, 104, 97, 114, 100, 107, 101, 101, 112, 101, 114, 47, 122, 122, 108, 97, 119, 115, 95, 108, 111, 99, 97, 108, 95, 103, 50, 46, 70, 110, 83, 101, 113, 117, 101, 110, 99, 101, 78, 117, 109, 98, 101, 114, 115, 79, 114, 100, 101, 114, 65, 115, 73, 110, 116, 101, 103, 101, 114, 115, 32, 101, 120, 97, 109, 112, 108, 101, 46, 99, 111, 109, 47, 115, 104, 97, 114, 100, 107, 101, 101, 112, 101, 114, 47, 115, 104, 97, 114, 100, 107, 101, 101, 112, 101, 114, 47, 122, 122, 108, 97, 119, 115, 95, 108, 111, 99, 97, 108, 95, 103, 50, 46, 70, 110, 83, 101, 113, 117, 101, 110, 99, 101, 78, 117, 109, 98, 101, 114, 115, 84, 111, 116, 97, 108, 79, 114, 100, 101, 114, 32, 101, 120, 97, 109, 112, 108, 101, 46, 99, 111, 109, 47, 115, 104, 97, 114, 100, 107, 101, 101, 112, 101, 114, 47, 115, 104, 97, 114, 100, 107, 101, 101, 112, 101, 114, 47, 122, 122, 108, 97, 119, 115, 95, 108, 111, 99, 97, 108, 95, 103, 50, 46, 70, 110, 67, 111, 109, 112, 97, 114, 101, 79, 114, 100, 101, 114, 101, 100, 77, 97, 116, 99, 104, 101, 115, 77, 111, 100, 101, 108, 32, 101, 120, 97, 109, 112, 108, 101, 46, 99, 111, 109, 47, 115, 104, 97, 114, 100, 107, 101, 101, 112, 101, 114, 47, 115, 104, 97, 114, 100, 107, 101, 101, 112, 101, 114, 47, 122, 122, 108, 97, 119, 115, 95, 108, 111, 99, 97, 108, 95, 103, 50, 46, 70, 110, 80, 97, 116, 104, 67, 111, 110, 116, 97, 105, 110, 115, 83, 111, 114, 116, 115, 70, 105, 114, 115, 116, 32, 101, 120, 97, 109, 112, 108, 101, 46, 99, 111, 109, 47, 115, 104, 97, 114, 100, 107, 101, 101, 112, 101, 114, 47, 115, 104, 97, 114, 100, 107, 101, 101, 112, 101, 114, 47, 122, 122, 108, 97, 119, 115, 95, 108, 111, 99, 97, 108, 95, 103, 50, 46, 70, 110, 67, 111, 109, 112, 97, 114, 101, 80, 97, 116, 104, 115, 84, 111, 116, 97, 108, 80, 114, 101, 111, 114, 100, 101, 114, 32, 101, 120, 97, 109, 112, 108, 101, 46, 99, 111, 109, 47, 115, 104, 97, 114, 100, 107, 101, 101, 112, 101, 114, 47, 115, 104, 97, 114, 100, 107, 101, 101, 112, 101, 114, 47, 122, 122, 108, 97, 119, 115, 95, 108, 111, 99, 97, 108, 95, 103, 50, 46, 70, 110, 82, 101, 102, 105, 108, 108, 83, 112, 108, 105, 116, 115, 65, 100, 100, 105, 116, 105, 118, 101, 108, 121]
def signs : List Char := codes.map Char.ofNat
theorem order_is : Try.prog.initOrder = String.ofList signs := by kernel_rfl
theorem signs_are : Try.prog.initOrder.toList = signs := by rw [order_is]; exact String.toList_ofList
def word : List Char := ([99, 117, 116] : List Nat).map Char.ofNat
def tail : List (List Char) := ([[97, 116], [101, 120, 97, 109, 112, 108, 101, 46, 99, 111, 109, 47, 115, 104, 97, 114, 100, 107, 101, 101, 112, 101, 114, 47, 115, 104, 97, 114, 100, 107, 101, 101, 112, 101, 114, 47, 122, 122, 108, 97, 119, 115, 95, 108, 111, 99, 97, 108, 95, 103, 50, 46, 70, 110, 83, 101, 113, 117, 101, 110, 99, 101, 78, 117, 109, 98, 101, 114, 115, 79, 114, 100, 101, 114, 65, 115, 73, 110, 116, 101, 103, 101, 114, 115], [101, 120, 97, 109, 112, 108, 101, 46, 99, 111, 109, 47, 115, 104, 97, 114, 100, 107, 101, 101, 112, 101, 114, 47, 115, 104, 97, 114, 100, 107, 101, 101, 112, 101, 114, 47, 122, 122, 108, 97, 119, 115, 95, 108, 111, 99, 97, 108, 95, 103, 50, 46, 70, 110, 83, 101, 113, 117, 101, 110, 99, 101, 78, 117, 109, 98, 101, 114, 115, 84, 111, 116, 97, 108, 79, 114, 100, 101, 114], [101, 120, 97, 109, 112, 108, 101, 46, 99, 111, 109, 47, 115, 104, 97, 114, 100, 107, 101, 101, 112, 101, 114, 47, 115, 104, 97, 114, 100, 107, 101, 101, 112, 101, 114, 47, 122, 122, 108, 97, 119, 115, 95, 108, 111, 99, 97, 108, 95, 103, 50, 46, 70, 110, 67, 111, 109, 112, 97, 114, 101, 79, 114, 100, 101, 114, 101, 100, 77, 97, 116, 99, 104, 101, 115, 77, 111, 100, 101, 108], [101, 120, 97, 109, 112, 108, 101, 46, 99, 111, 109, 47, 115, 104, 97, 114, 100, 107, 101, 101, 112, 101, 114, 47, 115, 104, 97, 114, 100, 107, 101, 101, 112, 101, 114, 47, 122, 122, 108, 97, 119, 115, 95, 108, 111, 99, 97, 108, 95, 103, 50, 46, 70, 110, 80, 97, 116, 104, 67, 111, 110, 116, 97, 105, 110, 115, 83, 111, 114, 116, 115, 70, 105, 114, 115, 116], [101, 120, 97, 109, 112, 108, 101, 46, 99, 111, 109, 47, 115, 104, 97, 114, 100, 107, 101, 101, 112, 101, 114, 47, 115, 104, 97, 114, 100, 107, 101, 101, 112, 101, 114, 47, 122, 122, 108, 97, 119, 115, 95, 108, 111, 99, 97, 108, 95, 103, 50, 46, 70, 110, 67, 111, 109, 112, 97, 114, 101, 80, 97, 116, 104, 115, 84, 111, 116, 97, 108, 80, 114, 101, 111, 114, 100, 101, 114], [101, 120, 97, 109, 112, 108, 101, 46, 99, 111, 109, 47, 115, 104, 97, 114, 100, 107, 101, 101, 112, 101, 114, 47, 115, 104, 97, 114, 100, 107, 101, 101, 112, 101, 114, 47, 122, 122, 108, 97, 119, 115, 95, 108, 111, 99, 97, 108, 95, 103, 50, 46, 70, 110, 82, 101, 102, 105, 108, 108, 83, 112, 108, 105, 116, 115, 65, 100, 100, 105, 116, 105, 118, 101, 108, 121]] : List (List Nat)).map (List.map Char.ofNat)
theorem behind : behindMainWord (wordsSigns Try.prog.initOrder.toList) = word :: tail := by rw [signs_are]; kernel_rfl
theorem strip : stripLifts liftWords (word :: tail) = ([], word :: tail) := by kernel_rfl
theorem lifts_of (P : Program) (c : List Char) (rest : List (List Char)) (hb : behindMainWord (wordsSigns P.initOrder.toList) = c :: rest) (hs : stripLifts liftWords (c :: rest) = ([], c :: rest)) : P.headLifts = [] := by
  unfold Program.headLifts
  rw [hb, hs]
  simp
theorem liftsFinal_of (P : Program) (c : List Char) (rest : List (List Char)) (hb : behindMainWord (wordsSigns P.initOrder.toList) = c :: rest) (hl : P.headLifts = []) (h1 : (some c == some "carried".toList) = false) : P.liftsFinal = false := by
  unfold Program.liftsFinal
  rw [hb, hl]
  simp only [List.head?_cons, h1]
  rfl
theorem make_of (P : Program) (c : List Char) (rest : List (List Char)) (hb : behindMainWord (wordsSigns P.initOrder.toList) = c :: rest) (h1 : (c == "gc".toList || c == "spec".toList) = false) (h2 : (c == "cut".toList) = true) : P.make = some .cut := by
  unfold Program.make
  rw [hb]
  simp only [h1, h2]
  rfl
theorem may_of (P : Program) (c : List Char) (rest : List (List Char)) (hb : behindMainWord (wordsSigns P.initOrder.toList) = c :: rest) (hs : stripLifts liftWords (c :: rest) = ([], c :: rest)) (h2 : (some c == some "cut".toList) = true)
    (hl : P.laysLater = false) (hr : P.bearsReflect = false) (hd : P.doorFits [] = true) : P.mayEnter = true := by
  unfold Program.mayEnter
  rw [hb]
  simp only [hs, List.head?_cons, h2, hl, hr, hd, Bool.not_false, Bool.or_true, Bool.and_true, List.contains_nil]
theorem lifts : Try.prog.headLifts = [] := lifts_of _ _ _ behind strip
theorem liftsNone : Try.prog.liftsFinal = false := liftsFinal_of _ _ _ behind lifts (by kernel_rfl)
theorem made : Try.prog.make = some .cut := make_of _ _ _ behind (by kernel_rfl) (by kernel_rfl)
theorem later : Try.prog.laysLater = false := by kernel_rfl
theorem noReflect : Try.prog.bearsReflect = false := by kernel_rfl
theorem door : Try.prog.doorFits [] = true := by kernel_rfl
theorem may : Try.prog.mayEnter = true := may_of _ _ _ behind strip (by kernel_rfl) later noReflect door

end Go.Proofs.Qxb6001698a.Head
