import Derived.Test.Qxb6601796aRows
import Derived.JoinedOf
namespace Go.Proofs.Qxb6601796a

def headCodes : List Nat := [104, 97, 114, 110, 101, 115, 115, 32, 100, 49, 56, 100, 57, 49, 48, 52, 98, 54, 100, 102, 101, 101, 48, 100, 102, 50, 100, 57, 50, 100, 50, 55, 100, 51, 55, 99, 52, 54, 100, 56, 51, 97, 98, 99, 52, 98, 99, 54, 97, 100, 98, 54, 57, 97, 51, 50, 52, 101, 98, 98, 55, 101, 53, 52, 99, 57, 53, 99, 98, 48, 51, 98, 32, 99, 117, 116, 32, 97, 116, 32, 101, 120, 97, 109, 112, 108, 101, 46, 99, 111, 109, 47, 115, 108, 105, 112, 119, 97, 121, 47, 115, 108, 105, 112, 119, 97, 121, 47, 122, 122, 108, 97, 119, 115, 95, 99, 111, 110, 102, 105, 103, 95, 98, 49, 46, 70, 110, 73, 115, 84, 111, 107, 101, 110, 77, 97, 116, 99, 104, 101, 115, 82, 70, 67, 77, 111, 100, 101, 108, 32, 101, 120, 97, 109, 112, 108, 101, 46, 99, 111, 109, 47, 115, 108, 105, 112, 119, 97, 121, 47, 115, 108, 105, 112, 119, 97, 121, 47, 122, 122, 108, 97, 119, 115, 95, 99, 111, 110, 102, 105, 103, 95, 98, 49, 46, 70, 110, 73, 115, 84, 111, 107, 101, 110, 67, 111, 110, 99, 97, 116, 101, 110, 97, 116, 105, 111, 110]
theorem head_is : Try.prog.initOrder = String.ofList (headCodes.map Char.ofNat) := by kernel_rfl
theorem head_list : Try.prog.initOrder.toList = headCodes.map Char.ofNat := by rw [head_is]; exact String.toList_ofList
theorem head_cut : (behindMainWord (wordsSigns (headCodes.map Char.ofNat))).head? = some ['c', 'u', 't'] := by kernel_rfl
theorem lays_later : Try.prog.laysLater = false := by kernel_rfl
theorem bears_reflect : Try.prog.bearsReflect = false := by kernel_rfl
theorem door_fits : Try.prog.doorFits [] = true := by kernel_rfl
theorem strip_cut (rest : List (List Char)) : stripLifts liftWords (['c', 'u', 't'] :: rest) = ([], ['c', 'u', 't'] :: rest) := by kernel_rfl
theorem may_enter_of (P : Program) (rest : List (List Char)) (h : behindMainWord (wordsSigns P.initOrder.toList) = ['c', 'u', 't'] :: rest)
    (h2 : P.laysLater = false) (h3 : P.bearsReflect = false) (h4 : P.doorFits [] = true) : P.mayEnter = true := by
  unfold Program.mayEnter
  rw [h]
  simp [strip_cut, h2, h3, h4]
theorem make_of (P : Program) (rest : List (List Char)) (h : behindMainWord (wordsSigns P.initOrder.toList) = ['c', 'u', 't'] :: rest) : P.make = some .cut := by
  unfold Program.make
  rw [h]
  simp
theorem head_rest : ∃ rest, behindMainWord (wordsSigns Try.prog.initOrder.toList) = ['c', 'u', 't'] :: rest := by
  rw [head_list]
  have h := head_cut
  generalize behindMainWord (wordsSigns (headCodes.map Char.ofNat)) = l at h
  cases l with
  | nil => cases h
  | cons a r => exact ⟨r, by simpa using h⟩
theorem may_enter : Try.prog.mayEnter = true := by
  obtain ⟨rest, hr⟩ := head_rest
  exact may_enter_of Try.prog rest hr lays_later bears_reflect door_fits
theorem make_is : Try.prog.make = some .cut := by
  obtain ⟨rest, hr⟩ := head_rest
  exact make_of Try.prog rest hr
theorem lifts_final : Try.prog.liftsFinal = false := by
  unfold Program.liftsFinal Program.headLifts
  rw [head_list]
  kernel_rfl
theorem laid_out : laidOutB Try.prog = true := by kernel_rfl
theorem maps_rowed : mapsRowed Try.prog = true := by kernel_rfl
theorem stops_heard : Try.prog.stopsHeard = true := by kernel_rfl
end Go.Proofs.Qxb6601796a
