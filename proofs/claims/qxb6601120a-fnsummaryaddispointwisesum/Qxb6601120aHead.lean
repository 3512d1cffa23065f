/-
  The dump's head, sign by sign: four closed facts over it that cost the kernel 11 GB by bare reckoning (a string's 'toList' sign by sign), here by 'String.toList_ofList'.
-/
import Derived.Test.Qxb6601120aRows
import Derived.JoinedOf
namespace Go.Proofs.Qxb6601120a

/-- the signs of the dump's head -/
def headNats : List Nat :=
  [104, 97, 114, 110, 101, 115, 115, 32, 100, 97, 55, 56, 97, 53, 57, 56, 97, 101, 54, 101, 53, 48, 98, 54, 51, 97, 56, 97, 56, 52, 99, 49, 52, 49, 98, 100, 97, 54, 56, 98,
   53, 50, 101, 102, 57, 55, 51, 99, 48, 55, 97, 56, 98, 99, 53, 49, 102, 97, 54, 54, 55, 97, 53, 101, 54, 53, 54, 57, 48, 102, 48, 98, 32, 99, 117, 116, 32, 97, 116, 32,
   101, 120, 97, 109, 112, 108, 101, 46, 99, 111, 109, 47, 100, 117, 101, 115, 45, 99, 111, 108, 108, 101, 99, 116, 111, 114, 47, 100, 117, 101, 115, 45, 99, 111, 108, 108, 101, 99, 116, 111,
   114, 47, 122, 122, 108, 97, 119, 115, 95, 112, 107, 103, 95, 99, 111, 108, 108, 101, 99, 116, 95, 98, 49, 46, 70, 110, 83, 117, 109, 109, 97, 114, 121, 65, 100, 100, 73, 115, 80, 111,
   105, 110, 116, 119, 105, 115, 101, 83, 117, 109, 32, 101, 120, 97, 109, 112, 108, 101, 46, 99, 111, 109, 47, 100, 117, 101, 115, 45, 99, 111, 108, 108, 101, 99, 116, 111, 114, 47, 100, 117,
   101, 115, 45, 99, 111, 108, 108, 101, 99, 116, 111, 114, 47, 122, 122, 108, 97, 119, 115, 95, 112, 107, 103, 95, 99, 111, 108, 108, 101, 99, 116, 95, 98, 49, 46, 70, 110, 83, 117, 109,
   109, 97, 114, 121, 65, 100, 100, 79, 114, 100, 101, 114, 70, 114, 101, 101, 32, 101, 120, 97, 109, 112, 108, 101, 46, 99, 111, 109, 47, 100, 117, 101, 115, 45, 99, 111, 108, 108, 101, 99,
   116, 111, 114, 47, 100, 117, 101, 115, 45, 99, 111, 108, 108, 101, 99, 116, 111, 114, 47, 122, 122, 108, 97, 119, 115, 95, 112, 107, 103, 95, 99, 111, 108, 108, 101, 99, 116, 95, 98, 49,
   46, 70, 110, 82, 101, 115, 117, 109, 101, 100, 73, 100, 101, 109, 112, 111, 116, 101, 110, 116, 78, 101, 118, 101, 114, 80, 101, 110, 100, 105, 110, 103]
theorem head_eq : Try.prog.initOrder = String.ofList (headNats.map Char.ofNat) := by kernel_rfl
theorem head_signs : Try.prog.initOrder.toList = headNats.map Char.ofNat := by rw [head_eq, String.toList_ofList]
theorem make_of (P : Program) (r : List (List Char)) (h : behindMainWord (wordsSigns P.initOrder.toList) = ['c', 'u', 't'] :: r) : P.make = some .cut := by
  unfold Program.make
  rw [h]
  rfl
theorem headLifts_of (P : Program) (r : List (List Char)) (h : behindMainWord (wordsSigns P.initOrder.toList) = ['c', 'u', 't'] :: r) : P.headLifts = [] := by
  unfold Program.headLifts
  rw [h]
  rfl
theorem liftsFinal_of (P : Program) (r : List (List Char)) (h : behindMainWord (wordsSigns P.initOrder.toList) = ['c', 'u', 't'] :: r) : P.liftsFinal = false := by
  unfold Program.liftsFinal
  rw [headLifts_of P r h, h]
  rfl
theorem mayEnter_of (P : Program) (r : List (List Char)) (h : behindMainWord (wordsSigns P.initOrder.toList) = ['c', 'u', 't'] :: r) (h1 : P.laysLater = false) (h2 : P.bearsReflect = false) (h3 : P.doorFits [] = true) : P.mayEnter = true := by
  unfold Program.mayEnter
  rw [h, h1, h2]
  have e : stripLifts liftWords (['c', 'u', 't'] :: r) = ([], ['c', 'u', 't'] :: r) := by rfl
  simp only [e, h3]
  rfl
theorem words : ∃ r, behindMainWord (wordsSigns Try.prog.initOrder.toList) = ['c', 'u', 't'] :: r := ⟨(behindMainWord (wordsSigns (headNats.map Char.ofNat))).tail, by rw [head_signs]; kernel_rfl⟩
theorem make_cut : Try.prog.make = some .cut := words.elim fun r h => make_of _ r h
theorem liftsFinal_false : Try.prog.liftsFinal = false := words.elim fun r h => liftsFinal_of _ r h
theorem mayEnter_true : Try.prog.mayEnter = true := words.elim fun r h => mayEnter_of _ r h (by kernel_rfl) (by kernel_rfl) (by kernel_rfl)
theorem both {a b : Bool} (h : a = true) (k : b = true) : (a && b) = true := by rw [h, k]; rfl
end Go.Proofs.Qxb6601120a
