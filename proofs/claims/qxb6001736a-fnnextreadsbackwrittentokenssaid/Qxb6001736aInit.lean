/- The program's word on its initialisation, told as a list of signs: so that no kernel run has to take the text apart. -/
import Derived.Test.Qxb6001736aRows
import Derived.JoinedOf
import Derived.KernelRfl
namespace Go.Proofs.Qxb6001736a
def codes : List Nat := [104, 97, 114, 110, 101, 115, 115, 32, 101, 100, 56, 52, 99, 56, 97, 55, 100, 56, 55, 57, 48, 55, 100, 97, 100, 56, 52, 54, 54, 48, 52, 53, 102, 101, 48, 97, 98, 57, 57, 54, 102, 57, 102, 55, 100, 50, 57, 102, 52, 55, 101, 98, 54, 56, 101, 51, 57, 53, 51, 98, 48, 56, 98, 99, 50, 98, 100, 56, 98, 99, 57, 53, 32, 99, 117, 116, 32, 97, 116, 32, 101, 120, 97, 109, 112, 108, 101, 46, 99, 111, 109, 47, 114, 97, 116, 101, 98, 111, 111, 107, 47, 114, 97, 116, 101, 98, 111, 111, 107, 47, 122, 122, 108, 97, 119, 115, 95, 112, 107, 103, 95, 113, 117, 111, 116, 101, 95, 98, 49, 46, 70, 110, 78, 101, 120, 116, 82, 101, 97, 100, 115, 66, 97, 99, 107, 87, 114, 105, 116, 116, 101, 110, 84, 111, 107, 101, 110, 115, 32, 101, 120, 97, 109, 112, 108, 101, 46, 99, 111, 109, 47, 114, 97, 116, 101, 98, 111, 111, 107, 47, 114, 97, 116, 101, 98, 111, 111, 107, 47, 122, 122, 108, 97, 119, 115, 95, 112, 107, 103, 95, 113, 117, 111, 116, 101, 95, 98, 49, 46, 70, 110, 78, 101, 120, 116, 73, 103, 110, 111, 114, 101, 115, 84, 101, 120, 116, 66, 101, 102, 111, 114, 101, 80, 111, 115, 105, 116, 105, 111, 110, 32, 101, 120, 97, 109, 112, 108, 101, 46, 99, 111, 109, 47, 114, 97, 116, 101, 98, 111, 111, 107, 47, 114, 97, 116, 101, 98, 111, 111, 107, 47, 122, 122, 108, 97, 119, 115, 95, 112, 107, 103, 95, 113, 117, 111, 116, 101, 95, 98, 49, 46, 70, 110, 83, 107, 105, 112, 76, 97, 110, 100, 115, 79, 110, 70, 105, 114, 115, 116, 78, 111, 110, 83, 101, 112, 97, 114, 97, 116, 111, 114, 32, 101, 120, 97, 109, 112, 108, 101, 46, 99, 111, 109, 47, 114, 97, 116, 101, 98, 111, 111, 107, 47, 114, 97, 116, 101, 98, 111, 111, 107, 47, 122, 122, 108, 97, 119, 115, 95, 112, 107, 103, 95, 113, 117, 111, 116, 101, 95, 98, 49, 46, 70, 110, 80, 108, 97, 105, 110, 82, 101, 97, 100, 115, 66, 97, 99, 107, 83, 116, 114, 105, 110, 103, 87, 114, 105, 116, 116, 101, 110, 65, 115, 73, 116, 83, 116, 97, 110, 100, 115]
theorem init_signs : Try.pinned.checked.prog.initOrder.toList = codes.map Char.ofNat := by
  have e : Try.pinned.checked.prog.initOrder = String.ofList (codes.map Char.ofNat) := by kernel_rfl
  rw [e]
  exact String.toList_ofList
theorem words : ∃ rest, behindMainWord (wordsSigns Try.pinned.checked.prog.initOrder.toList) = "cut".toList :: rest :=
  ⟨(behindMainWord (wordsSigns (codes.map Char.ofNat))).tail, by rw [init_signs]; kernel_rfl⟩
theorem make_of (P : Program) (rest : List (List Char)) (h : behindMainWord (wordsSigns P.initOrder.toList) = "cut".toList :: rest) : P.make = some .cut := by
  unfold Program.make
  rw [h]
  kernel_rfl
theorem strip_of (rest : List (List Char)) : stripLifts liftWords ("cut".toList :: rest) = ([], "cut".toList :: rest) := by kernel_rfl
theorem head_of (P : Program) (rest : List (List Char)) (h : behindMainWord (wordsSigns P.initOrder.toList) = "cut".toList :: rest) : P.headLifts = [] := by
  unfold Program.headLifts
  rw [h, strip_of]
  kernel_rfl
theorem lifts_of (P : Program) (rest : List (List Char)) (h : behindMainWord (wordsSigns P.initOrder.toList) = "cut".toList :: rest) : P.liftsFinal = false := by
  unfold Program.liftsFinal
  rw [h, head_of P rest h]
  kernel_rfl
theorem enter_of (P : Program) (rest : List (List Char)) (h : behindMainWord (wordsSigns P.initOrder.toList) = "cut".toList :: rest) (h1 : P.laysLater = false) (h2 : P.bearsReflect = false) (h3 : P.doorFits [] = true) : P.mayEnter = true := by
  unfold Program.mayEnter
  rw [h]
  simp only [strip_of, h1, h2, h3]
  kernel_rfl
theorem may_enter : Try.pinned.checked.prog.mayEnter = true := by
  obtain ⟨rest, h⟩ := words
  exact enter_of _ rest h (by kernel_rfl) (by kernel_rfl) (by kernel_rfl)
theorem lifts_final : Try.pinned.checked.prog.liftsFinal = false := by
  obtain ⟨rest, h⟩ := words
  exact lifts_of _ rest h
theorem make_cut : Try.pinned.checked.prog.make = some .cut := by
  obtain ⟨rest, h⟩ := words
  exact make_of _ rest h
end Go.Proofs.Qxb6001736a
