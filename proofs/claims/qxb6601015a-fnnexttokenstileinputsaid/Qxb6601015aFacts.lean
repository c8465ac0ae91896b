import Derived.Test.Qxb6601015aRows
import Derived.JoinedOf
namespace Go.Proofs.Qxb6601015a

def headCodes : List Nat := [104, 97, 114, 110, 101, 115, 115, 32, 101, 57, 99, 55, 101, 100, 100, 98, 98, 51, 49, 99, 55, 49, 56, 53, 54, 54, 54, 98, 97, 49, 55, 97, 49, 98, 51, 54, 102, 48, 55, 49, 100, 102, 54, 52, 57, 57, 102, 49, 54, 99, 49, 97, 48, 99, 55, 102, 49, 57, 55, 50, 97, 48, 57, 98, 99, 101, 57, 97, 49, 102, 50, 100, 32, 99, 117, 116, 32, 97, 116, 32, 101, 120, 97, 109, 112, 108, 101, 46, 99, 111, 109, 47, 112, 97, 108, 105, 109, 112, 115, 101, 115, 116, 47, 112, 97, 108, 105, 109, 112, 115, 101, 115, 116, 47, 122, 122, 108, 97, 119, 115, 95, 105, 110, 116, 101, 114, 110, 97, 108, 95, 115, 121, 110, 116, 97, 120, 95, 98, 49, 46, 70, 110, 78, 101, 120, 116, 65, 103, 114, 101, 101, 115, 87, 105, 116, 104, 77, 111, 100, 101, 108, 32, 101, 120, 97, 109, 112, 108, 101, 46, 99, 111, 109, 47, 112, 97, 108, 105, 109, 112, 115, 101, 115, 116, 47, 112, 97, 108, 105, 109, 112, 115, 101, 115, 116, 47, 122, 122, 108, 97, 119, 115, 95, 105, 110, 116, 101, 114, 110, 97, 108, 95, 115, 121, 110, 116, 97, 120, 95, 98, 49, 46, 70, 110, 83, 107, 105, 112, 83, 112, 97, 99, 101, 65, 103, 114, 101, 101, 115, 87, 105, 116, 104, 77, 111, 100, 101, 108, 32, 101, 120, 97, 109, 112, 108, 101, 46, 99, 111, 109, 47, 112, 97, 108, 105, 109, 112, 115, 101, 115, 116, 47, 112, 97, 108, 105, 109, 112, 115, 101, 115, 116, 47, 122, 122, 108, 97, 119, 115, 95, 105, 110, 116, 101, 114, 110, 97, 108, 95, 115, 121, 110, 116, 97, 120, 95, 98, 49, 46, 70, 110, 83, 107, 105, 112, 83, 112, 97, 99, 101, 66, 108, 97, 110, 107, 73, 110, 115, 101, 114, 116, 105, 111, 110, 83, 104, 105, 102, 116, 115, 32, 101, 120, 97, 109, 112, 108, 101, 46, 99, 111, 109, 47, 112, 97, 108, 105, 109, 112, 115, 101, 115, 116, 47, 112, 97, 108, 105, 109, 112, 115, 101, 115, 116, 47, 122, 122, 108, 97, 119, 115, 95, 105, 110, 116, 101, 114, 110, 97, 108, 95, 115, 121, 110, 116, 97, 120, 95, 98, 49, 46, 70, 110, 83, 107, 105, 112, 83, 112, 97, 99, 101, 73, 100, 101, 109, 112, 111, 116, 101, 110, 116, 65, 110, 100, 66, 108, 105, 110, 100, 84, 111, 80, 114, 101, 102, 105, 120, 32, 101, 120, 97, 109, 112, 108, 101, 46, 99, 111, 109, 47, 112, 97, 108, 105, 109, 112, 115, 101, 115, 116, 47, 112, 97, 108, 105, 109, 112, 115, 101, 115, 116, 47, 122, 122, 108, 97, 119, 115, 95, 105, 110, 116, 101, 114, 110, 97, 108, 95, 115, 121, 110, 116, 97, 120, 95, 98, 49, 46, 70, 110, 83, 99, 97, 110, 78, 117, 109, 98, 101, 114, 65, 103, 114, 101, 101, 115, 87, 105, 116, 104, 65, 117, 116, 111, 109, 97, 116, 111, 110, 32, 101, 120, 97, 109, 112, 108, 101, 46, 99, 111, 109, 47, 112, 97, 108, 105, 109, 112, 115, 101, 115, 116, 47, 112, 97, 108, 105, 109, 112, 115, 101, 115, 116, 47, 122, 122, 108, 97, 119, 115, 95, 105, 110, 116, 101, 114, 110, 97, 108, 95, 115, 121, 110, 116, 97, 120, 95, 98, 49, 46, 70, 110, 83, 99, 97, 110, 78, 117, 109, 98, 101, 114, 82, 101, 115, 99, 97, 110, 115, 79, 119, 110, 84, 101, 120, 116, 32, 101, 120, 97, 109, 112, 108, 101, 46, 99, 111, 109, 47, 112, 97, 108, 105, 109, 112, 115, 101, 115, 116, 47, 112, 97, 108, 105, 109, 112, 115, 101, 115, 116, 47, 122, 122, 108, 97, 119, 115, 95, 105, 110, 116, 101, 114, 110, 97, 108, 95, 115, 121, 110, 116, 97, 120, 95, 98, 49, 46, 70, 110, 78, 101, 120, 116, 84, 111, 107, 101, 110, 115, 84, 105, 108, 101, 73, 110, 112, 117, 116, 32, 101, 120, 97, 109, 112, 108, 101, 46, 99, 111, 109, 47, 112, 97, 108, 105, 109, 112, 115, 101, 115, 116, 47, 112, 97, 108, 105, 109, 112, 115, 101, 115, 116, 47, 122, 122, 108, 97, 119, 115, 95, 105, 110, 116, 101, 114, 110, 97, 108, 95, 115, 121, 110, 116, 97, 120, 95, 98, 49, 46, 70, 110, 78, 101, 120, 116, 84, 111, 107, 101, 110, 82, 101, 108, 101, 120, 101, 115, 65, 108, 111, 110, 101]
theorem head_is : Try.prog.initOrder = String.ofList (headCodes.map Char.ofNat) := by kernel_rfl
theorem head_list : Try.prog.initOrder.toList = headCodes.map Char.ofNat := by rw [head_is]; exact String.toList_ofList
theorem head_cut : (behindMainWord (wordsSigns (headCodes.map Char.ofNat))).head? = some ['c', 'u', 't'] := by kernel_rfl
theorem lays_later : Try.prog.laysLater = false := by kernel_rfl
theorem bears_reflect : Try.prog.bearsReflect = false := by kernel_rfl
theorem door_fits : Try.prog.doorFits [] = true := by kernel_rfl
theorem strip_cut (rest : List (List Char)) : stripLifts liftWords (['c', 'u', 't'] :: rest) = ([], ['c', 'u', 't'] :: rest) := by kernel_rfl
theorem may_enter_of (P : Program) (rest : List (List Char)) (h : behindMainWord (wordsSigns P.initOrder.toList) = ['c', 'u', 't'] :: rest)
    (h2 : P.laysLater = false) (h3 : P.bearsReflect = false) (h4 : P.doorFits [] = true) : P.mayEnter = true := by
  unfold Program.mayEnter
  rw [h]
  simp [strip_cut, h2, h3, h4]
theorem make_of (P : Program) (rest : List (List Char)) (h : behindMainWord (wordsSigns P.initOrder.toList) = ['c', 'u', 't'] :: rest) : P.make = some .cut := by
  unfold Program.make
  rw [h]
  simp
theorem head_rest : ∃ rest, behindMainWord (wordsSigns Try.prog.initOrder.toList) = ['c', 'u', 't'] :: rest := by
  rw [head_list]
  have h := head_cut
  generalize behindMainWord (wordsSigns (headCodes.map Char.ofNat)) = l at h
  cases l with
  | nil => cases h
  | cons a r => exact ⟨r, by simpa using h⟩
theorem may_enter : Try.prog.mayEnter = true := by
  obtain ⟨rest, hr⟩ := head_rest
  exact may_enter_of Try.prog rest hr lays_later bears_reflect door_fits
theorem make_is : Try.prog.make = some .cut := by
  obtain ⟨rest, hr⟩ := head_rest
  exact make_of Try.prog rest hr
theorem lifts_final : Try.prog.liftsFinal = false := by
  unfold Program.liftsFinal Program.headLifts
  rw [head_list]
  kernel_rfl
theorem laid_out : laidOutB Try.prog = true := by kernel_rfl
theorem maps_rowed : mapsRowed Try.prog = true := by kernel_rfl
theorem stops_heard : Try.prog.stopsHeard = true := by kernel_rfl
end Go.Proofs.Qxb6601015a
