import Derived.Test.Qxb6601282aRows
import Derived.JoinedOf
namespace Go.Proofs.Qxb6601282a

def headCodes : List Nat := [104, 97, 114, 110, 101, 115, 115, 32, 55, 57, 52, 50, 53, 54, 101, 51, 48, 50, 99, 50, 48, 55, 50, 52, 57, 98, 54, 56, 55, 52, 97, 48, 51, 101, 97, 100, 54, 52, 102, 57, 51, 55, 51, 52, 48, 102, 57, 51, 102, 52, 55, 56, 101, 100, 101, 53, 97, 52, 53, 50, 53, 97, 48, 101, 99, 48, 48, 48, 52, 53, 101, 57, 32, 99, 117, 116, 32, 97, 116, 32, 101, 120, 97, 109, 112, 108, 101, 46, 99, 111, 109, 47, 102, 105, 101, 108, 100, 108, 101, 100, 103, 101, 114, 47, 102, 105, 101, 108, 100, 108, 101, 100, 103, 101, 114, 47, 122, 122, 108, 97, 119, 115, 95, 99, 111, 100, 101, 99, 95, 98, 49, 46, 70, 110, 83, 107, 105, 112, 83, 116, 114, 105, 110, 103, 77, 97, 116, 99, 104, 101, 115, 69, 115, 99, 97, 112, 101, 83, 99, 97, 110, 110, 101, 114, 32, 101, 120, 97, 109, 112, 108, 101, 46, 99, 111, 109, 47, 102, 105, 101, 108, 100, 108, 101, 100, 103, 101, 114, 47, 102, 105, 101, 108, 100, 108, 101, 100, 103, 101, 114, 47, 122, 122, 108, 97, 119, 115, 95, 99, 111, 100, 101, 99, 95, 98, 49, 46, 70, 110, 83, 107, 105, 112, 83, 116, 114, 105, 110, 103, 70, 105, 110, 100, 115, 69, 110, 100, 79, 102, 69, 115, 99, 97, 112, 101, 100, 84, 101, 120, 116, 32, 101, 120, 97, 109, 112, 108, 101, 46, 99, 111, 109, 47, 102, 105, 101, 108, 100, 108, 101, 100, 103, 101, 114, 47, 102, 105, 101, 108, 100, 108, 101, 100, 103, 101, 114, 47, 122, 122, 108, 97, 119, 115, 95, 99, 111, 100, 101, 99, 95, 98, 49, 46, 70, 110, 83, 107, 105, 112, 86, 97, 108, 117, 101, 77, 97, 116, 99, 104, 101, 115, 79, 110, 101, 80, 97, 115, 115, 83, 99, 97, 110, 110, 101, 114, 32, 101, 120, 97, 109, 112, 108, 101, 46, 99, 111, 109, 47, 102, 105, 101, 108, 100, 108, 101, 100, 103, 101, 114, 47, 102, 105, 101, 108, 100, 108, 101, 100, 103, 101, 114, 47, 122, 122, 108, 97, 119, 115, 95, 99, 111, 100, 101, 99, 95, 98, 49, 46, 70, 110, 83, 107, 105, 112, 86, 97, 108, 117, 101, 83, 112, 97, 110, 115, 78, 101, 115, 116, 101, 100, 83, 116, 114, 105, 110, 103, 32, 101, 120, 97, 109, 112, 108, 101, 46, 99, 111, 109, 47, 102, 105, 101, 108, 100, 108, 101, 100, 103, 101, 114, 47, 102, 105, 101, 108, 100, 108, 101, 100, 103, 101, 114, 47, 122, 122, 108, 97, 119, 115, 95, 99, 111, 100, 101, 99, 95, 98, 49, 46, 70, 110, 83, 107, 105, 112, 86, 97, 108, 117, 101, 67, 117, 116, 65, 116, 65, 110, 115, 119, 101, 114, 75, 101, 101, 112, 115, 73, 116]
theorem head_is : Try.prog.initOrder = String.ofList (headCodes.map Char.ofNat) := by kernel_rfl
theorem head_list : Try.prog.initOrder.toList = headCodes.map Char.ofNat := by rw [head_is]; exact String.toList_ofList
theorem head_cut : (behindMainWord (wordsSigns (headCodes.map Char.ofNat))).head? = some ['c', 'u', 't'] := by kernel_rfl
theorem lays_later : Try.prog.laysLater = false := by kernel_rfl
theorem bears_reflect : Try.prog.bearsReflect = false := by kernel_rfl
theorem door_fits : Try.prog.doorFits [] = true := by kernel_rfl
theorem strip_cut (rest : List (List Char)) : stripLifts liftWords (['c', 'u', 't'] :: rest) = ([], ['c', 'u', 't'] :: rest) := by kernel_rfl
theorem may_enter_of (P : Program) (rest : List (List Char)) (h : behindMainWord (wordsSigns P.initOrder.toList) = ['c', 'u', 't'] :: rest)
    (h2 : P.laysLater = false) (h3 : P.bearsReflect = false) (h4 : P.doorFits [] = true) : P.mayEnter = true := by
  unfold Program.mayEnter
  rw [h]
  simp [strip_cut, h2, h3, h4]
theorem make_of (P : Program) (rest : List (List Char)) (h : behindMainWord (wordsSigns P.initOrder.toList) = ['c', 'u', 't'] :: rest) : P.make = some .cut := by
  unfold Program.make
  rw [h]
  simp
theorem head_rest : ∃ rest, behindMainWord (wordsSigns Try.prog.initOrder.toList) = ['c', 'u', 't'] :: rest := by
  rw [head_list]
  have h := head_cut
  generalize behindMainWord (wordsSigns (headCodes.map Char.ofNat)) = l at h
  cases l with
  | nil => cases h
  | cons a r => exact ⟨r, by simpa using h⟩
theorem may_enter : Try.prog.mayEnter = true := by
  obtain ⟨rest, hr⟩ := head_rest
  exact may_enter_of Try.prog rest hr lays_later bears_reflect door_fits
theorem make_is : Try.prog.make = some .cut := by
  obtain ⟨rest, hr⟩ := head_rest
  exact make_of Try.prog rest hr
theorem lifts_final : Try.prog.liftsFinal = false := by
  unfold Program.liftsFinal Program.headLifts
  rw [head_list]
  kernel_rfl
theorem laid_out : laidOutB Try.prog = true := by kernel_rfl
theorem maps_rowed : mapsRowed Try.prog = true := by kernel_rfl
theorem stops_heard : Try.prog.stopsHeard = true := by kernel_rfl
end Go.Proofs.Qxb6601282a
