/- The program's word on its initialisation, told as a list of signs: so that no kernel run has to take the text apart. -/
import Derived.Test.Qxb6001224aRows
import Derived.JoinedOf
import Derived.KernelRfl
namespace Go.Proofs.Qxb6001224a
def codes : List Nat := [104, 97, 114, 110, 101, 115, 115, 32, 57, 99, 56, 99, 100, 100, 102, 99, 52, 49, 50, 54, 56, 52, 55, 54, 98, 52, 54, 48, 101, 48, 55, 99, 48, 50, 50, 51, 98, 55, 57, 57, 56, 102, 49, 50, 50, 55, 49, 49, 53, 100, 54, 48, 52, 57, 51, 98, 57, 55, 55, 51, 57, 99, 99, 56, 101, 100, 50, 48, 54, 51, 52, 48, 32, 99, 117, 116, 32, 97, 116, 32, 101, 120, 97, 109, 112, 108, 101, 46, 99, 111, 109, 47, 115, 116, 111, 112, 111, 117, 116, 47, 115, 116, 111, 112, 111, 117, 116, 47, 122, 122, 108, 97, 119, 115, 95, 105, 110, 116, 101, 114, 110, 97, 108, 95, 98, 111, 111, 107, 95, 98, 49, 46, 70, 110, 67, 117, 116, 80, 105, 101, 99, 101, 115, 82, 101, 98, 117, 105, 108, 100, 84, 101, 120, 116, 65, 110, 100, 67, 111, 117, 110, 116, 76, 105, 110, 101, 115, 32, 101, 120, 97, 109, 112, 108, 101, 46, 99, 111, 109, 47, 115, 116, 111, 112, 111, 117, 116, 47, 115, 116, 111, 112, 111, 117, 116, 47, 122, 122, 108, 97, 119, 115, 95, 105, 110, 116, 101, 114, 110, 97, 108, 95, 98, 111, 111, 107, 95, 98, 49, 46, 70, 110, 67, 117, 116, 75, 101, 101, 112, 115, 87, 105, 116, 104, 105, 110, 80, 97, 114, 116, 115, 65, 110, 100, 76, 101, 97, 115, 116, 32, 101, 120, 97, 109, 112, 108, 101, 46, 99, 111, 109, 47, 115, 116, 111, 112, 111, 117, 116, 47, 115, 116, 111, 112, 111, 117, 116, 47, 122, 122, 108, 97, 119, 115, 95, 105, 110, 116, 101, 114, 110, 97, 108, 95, 98, 111, 111, 107, 95, 98, 49, 46, 70, 110, 67, 117, 116, 67, 117, 116, 115, 79, 110, 108, 121, 65, 116, 82, 101, 99, 111, 114, 100, 69, 110, 100, 115, 32, 101, 120, 97, 109, 112, 108, 101, 46, 99, 111, 109, 47, 115, 116, 111, 112, 111, 117, 116, 47, 115, 116, 111, 112, 111, 117, 116, 47, 122, 122, 108, 97, 119, 115, 95, 105, 110, 116, 101, 114, 110, 97, 108, 95, 98, 111, 111, 107, 95, 98, 49, 46, 70, 110, 78, 117, 109, 98, 101, 114, 82, 101, 97, 100, 115, 73, 116, 115, 79, 119, 110, 68, 101, 99, 105, 109, 97, 108, 87, 105, 116, 104, 76, 101, 97, 100, 105, 110, 103, 90, 101, 114, 111, 115, 32, 101, 120, 97, 109, 112, 108, 101, 46, 99, 111, 109, 47, 115, 116, 111, 112, 111, 117, 116, 47, 115, 116, 111, 112, 111, 117, 116, 47, 122, 122, 108, 97, 119, 115, 95, 105, 110, 116, 101, 114, 110, 97, 108, 95, 98, 111, 111, 107, 95, 98, 49, 46, 70, 110, 78, 117, 109, 98, 101, 114, 65, 99, 99, 101, 112, 116, 115, 69, 120, 97, 99, 116, 108, 121, 78, 111, 110, 69, 109, 112, 116, 121, 68, 105, 103, 105, 116, 82, 117, 110, 115, 32, 101, 120, 97, 109, 112, 108, 101, 46, 99, 111, 109, 47, 115, 116, 111, 112, 111, 117, 116, 47, 115, 116, 111, 112, 111, 117, 116, 47, 122, 122, 108, 97, 119, 115, 95, 105, 110, 116, 101, 114, 110, 97, 108, 95, 98, 111, 111, 107, 95, 98, 49, 46, 70, 110, 78, 117, 109, 98, 101, 114, 79, 102, 74, 111, 105, 110, 101, 100, 68, 105, 103, 105, 116, 82, 117, 110, 115, 32, 101, 120, 97, 109, 112, 108, 101, 46, 99, 111, 109, 47, 115, 116, 111, 112, 111, 117, 116, 47, 115, 116, 111, 112, 111, 117, 116, 47, 122, 122, 108, 97, 119, 115, 95, 105, 110, 116, 101, 114, 110, 97, 108, 95, 98, 111, 111, 107, 95, 98, 49, 46, 70, 110, 73, 115, 83, 72, 65, 50, 53, 54, 65, 99, 99, 101, 112, 116, 115, 76, 111, 119, 101, 114, 72, 101, 120, 79, 102, 69, 118, 101, 114, 121, 68, 105, 103, 101, 115, 116, 32, 101, 120, 97, 109, 112, 108, 101, 46, 99, 111, 109, 47, 115, 116, 111, 112, 111, 117, 116, 47, 115, 116, 111, 112, 111, 117, 116, 47, 122, 122, 108, 97, 119, 115, 95, 105, 110, 116, 101, 114, 110, 97, 108, 95, 98, 111, 111, 107, 95, 98, 49, 46, 70, 110, 73, 115, 83, 72, 65, 50, 53, 54, 82, 101, 102, 117, 115, 101, 115, 65, 70, 111, 114, 101, 105, 103, 110, 66, 121, 116, 101, 79, 114, 65, 110, 111, 116, 104, 101, 114, 76, 101, 110, 103, 116, 104]
theorem init_signs : Try.pinned.checked.prog.initOrder.toList = codes.map Char.ofNat := by
  have e : Try.pinned.checked.prog.initOrder = String.ofList (codes.map Char.ofNat) := by kernel_rfl
  rw [e]
  exact String.toList_ofList
theorem words : ∃ rest, behindMainWord (wordsSigns Try.pinned.checked.prog.initOrder.toList) = "cut".toList :: rest :=
  ⟨(behindMainWord (wordsSigns (codes.map Char.ofNat))).tail, by rw [init_signs]; kernel_rfl⟩
theorem make_of (P : Program) (rest : List (List Char)) (h : behindMainWord (wordsSigns P.initOrder.toList) = "cut".toList :: rest) : P.make = some .cut := by
  unfold Program.make
  rw [h]
  kernel_rfl
theorem strip_of (rest : List (List Char)) : stripLifts liftWords ("cut".toList :: rest) = ([], "cut".toList :: rest) := by kernel_rfl
theorem head_of (P : Program) (rest : List (List Char)) (h : behindMainWord (wordsSigns P.initOrder.toList) = "cut".toList :: rest) : P.headLifts = [] := by
  unfold Program.headLifts
  rw [h, strip_of]
  kernel_rfl
theorem lifts_of (P : Program) (rest : List (List Char)) (h : behindMainWord (wordsSigns P.initOrder.toList) = "cut".toList :: rest) : P.liftsFinal = false := by
  unfold Program.liftsFinal
  rw [h, head_of P rest h]
  kernel_rfl
theorem enter_of (P : Program) (rest : List (List Char)) (h : behindMainWord (wordsSigns P.initOrder.toList) = "cut".toList :: rest) (h1 : P.laysLater = false) (h2 : P.bearsReflect = false) (h3 : P.doorFits [] = true) : P.mayEnter = true := by
  unfold Program.mayEnter
  rw [h]
  simp only [strip_of, h1, h2, h3]
  kernel_rfl
theorem may_enter : Try.pinned.checked.prog.mayEnter = true := by
  obtain ⟨rest, h⟩ := words
  exact enter_of _ rest h (by kernel_rfl) (by kernel_rfl) (by kernel_rfl)
theorem lifts_final : Try.pinned.checked.prog.liftsFinal = false := by
  obtain ⟨rest, h⟩ := words
  exact lifts_of _ rest h
theorem make_cut : Try.pinned.checked.prog.make = some .cut := by
  obtain ⟨rest, h⟩ := words
  exact make_of _ rest h
end Go.Proofs.Qxb6001224a
