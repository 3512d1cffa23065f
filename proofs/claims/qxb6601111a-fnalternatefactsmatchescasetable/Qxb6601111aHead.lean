/-
  The dump's head, sign by sign: four closed facts over it that cost the kernel 11 GB by bare reckoning (a string's 'toList' sign by sign), here by 'String.toList_ofList'.
-/
import Derived.Test.Qxb6601111aRows
import Derived.JoinedOf
namespace Go.Proofs.Qxb6601111a

/-- the signs of the dump's head -/
def headNats : List Nat :=
  [104, 97, 114, 110, 101, 115, 115, 32, 57, 100, 101, 57, 48, 50, 57, 57, 102, 98, 55, 99, 100, 49, 98, 49, 102, 52, 100, 57, 51, 99, 48, 54, 54, 56, 57, 57, 50, 99, 54, 49,
   49, 52, 53, 56, 54, 54, 57, 99, 98, 55, 102, 52, 98, 50, 49, 99, 50, 50, 98, 49, 99, 57, 55, 55, 48, 53, 54, 101, 102, 102, 102, 52, 32, 99, 117, 116, 32, 97, 116, 32,
   101, 120, 97, 109, 112, 108, 101, 46, 99, 111, 109, 47, 104, 111, 114, 110, 119, 111, 114, 107, 47, 104, 111, 114, 110, 119, 111, 114, 107, 47, 122, 122, 108, 97, 119, 115, 95, 115, 101, 99,
   114, 117, 108, 101, 95, 98, 49, 46, 70, 110, 65, 108, 116, 101, 114, 110, 97, 116, 101, 70, 97, 99, 116, 115, 77, 97, 116, 99, 104, 101, 115, 67, 97, 115, 101, 84, 97, 98, 108, 101,
   32, 101, 120, 97, 109, 112, 108, 101, 46, 99, 111, 109, 47, 104, 111, 114, 110, 119, 111, 114, 107, 47, 104, 111, 114, 110, 119, 111, 114, 107, 47, 122, 122, 108, 97, 119, 115, 95, 115, 101,
   99, 114, 117, 108, 101, 95, 98, 49, 46, 70, 110, 65, 108, 116, 101, 114, 110, 97, 116, 101, 70, 97, 99, 116, 115, 79, 114, 100, 101, 114, 70, 114, 101, 101, 32, 101, 120, 97, 109, 112,
   108, 101, 46, 99, 111, 109, 47, 104, 111, 114, 110, 119, 111, 114, 107, 47, 104, 111, 114, 110, 119, 111, 114, 107, 47, 122, 122, 108, 97, 119, 115, 95, 115, 101, 99, 114, 117, 108, 101, 95,
   98, 49, 46, 70, 110, 67, 109, 100, 76, 105, 110, 101, 77, 97, 116, 99, 104, 101, 115, 84, 104, 114, 101, 101, 80, 97, 115, 115, 77, 111, 100, 101, 108, 32, 101, 120, 97, 109, 112, 108,
   101, 46, 99, 111, 109, 47, 104, 111, 114, 110, 119, 111, 114, 107, 47, 104, 111, 114, 110, 119, 111, 114, 107, 47, 122, 122, 108, 97, 119, 115, 95, 115, 101, 99, 114, 117, 108, 101, 95, 98,
   49, 46, 70, 110, 67, 109, 100, 76, 105, 110, 101, 73, 100, 101, 109, 112, 111, 116, 101, 110, 116, 32, 101, 120, 97, 109, 112, 108, 101, 46, 99, 111, 109, 47, 104, 111, 114, 110, 119, 111,
   114, 107, 47, 104, 111, 114, 110, 119, 111, 114, 107, 47, 122, 122, 108, 97, 119, 115, 95, 115, 101, 99, 114, 117, 108, 101, 95, 98, 49, 46, 70, 110, 67, 109, 100, 76, 105, 110, 101, 79,
   117, 116, 112, 117, 116, 83, 104, 97, 112, 101]
theorem head_eq : Try.prog.initOrder = String.ofList (headNats.map Char.ofNat) := by kernel_rfl
theorem head_signs : Try.prog.initOrder.toList = headNats.map Char.ofNat := by rw [head_eq, String.toList_ofList]
theorem make_of (P : Program) (r : List (List Char)) (h : behindMainWord (wordsSigns P.initOrder.toList) = ['c', 'u', 't'] :: r) : P.make = some .cut := by
  unfold Program.make
  rw [h]
  rfl
theorem headLifts_of (P : Program) (r : List (List Char)) (h : behindMainWord (wordsSigns P.initOrder.toList) = ['c', 'u', 't'] :: r) : P.headLifts = [] := by
  unfold Program.headLifts
  rw [h]
  rfl
theorem liftsFinal_of (P : Program) (r : List (List Char)) (h : behindMainWord (wordsSigns P.initOrder.toList) = ['c', 'u', 't'] :: r) : P.liftsFinal = false := by
  unfold Program.liftsFinal
  rw [headLifts_of P r h, h]
  rfl
theorem mayEnter_of (P : Program) (r : List (List Char)) (h : behindMainWord (wordsSigns P.initOrder.toList) = ['c', 'u', 't'] :: r) (h1 : P.laysLater = false) (h2 : P.bearsReflect = false) (h3 : P.doorFits [] = true) : P.mayEnter = true := by
  unfold Program.mayEnter
  rw [h, h1, h2]
  have e : stripLifts liftWords (['c', 'u', 't'] :: r) = ([], ['c', 'u', 't'] :: r) := by rfl
  simp only [e, h3]
  rfl
theorem words : ∃ r, behindMainWord (wordsSigns Try.prog.initOrder.toList) = ['c', 'u', 't'] :: r := ⟨(behindMainWord (wordsSigns (headNats.map Char.ofNat))).tail, by rw [head_signs]; kernel_rfl⟩
theorem make_cut : Try.prog.make = some .cut := words.elim fun r h => make_of _ r h
theorem liftsFinal_false : Try.prog.liftsFinal = false := words.elim fun r h => liftsFinal_of _ r h
theorem mayEnter_true : Try.prog.mayEnter = true := words.elim fun r h => mayEnter_of _ r h (by kernel_rfl) (by kernel_rfl) (by kernel_rfl)
theorem both {a b : Bool} (h : a = true) (k : b = true) : (a && b) = true := by rw [h, k]; rfl
end Go.Proofs.Qxb6601111a
