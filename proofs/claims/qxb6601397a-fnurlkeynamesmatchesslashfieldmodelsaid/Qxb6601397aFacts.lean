import Derived.Test.Qxb6601397aRows
import Derived.JoinedOf
namespace Go.Proofs.Qxb6601397a

def headCodes : List Nat := [104, 97, 114, 110, 101, 115, 115, 32, 48, 101, 51, 50, 101, 57, 56, 56, 48, 53, 53, 52, 102, 49, 100, 100, 51, 48, 97, 98, 102, 101, 57, 48, 55, 52, 56, 56, 55, 97, 100, 52, 101, 51, 57, 54, 53, 56, 98, 49, 48, 102, 51, 52, 49, 53, 98, 101, 55, 50, 98, 100, 57, 98, 51, 48, 50, 98, 55, 99, 97, 98, 50, 49, 32, 99, 117, 116, 32, 97, 116, 32, 101, 120, 97, 109, 112, 108, 101, 46, 99, 111, 109, 47, 114, 101, 102, 103, 114, 97, 112, 104, 47, 114, 101, 102, 103, 114, 97, 112, 104, 47, 122, 122, 108, 97, 119, 115, 95, 112, 107, 103, 95, 114, 101, 103, 105, 115, 116, 114, 121, 95, 98, 49, 46, 70, 110, 85, 114, 108, 75, 101, 121, 78, 97, 109, 101, 115, 77, 97, 116, 99, 104, 101, 115, 83, 108, 97, 115, 104, 70, 105, 101, 108, 100, 77, 111, 100, 101, 108, 32, 101, 120, 97, 109, 112, 108, 101, 46, 99, 111, 109, 47, 114, 101, 102, 103, 114, 97, 112, 104, 47, 114, 101, 102, 103, 114, 97, 112, 104, 47, 122, 122, 108, 97, 119, 115, 95, 112, 107, 103, 95, 114, 101, 103, 105, 115, 116, 114, 121, 95, 98, 49, 46, 70, 110, 85, 114, 108, 75, 101, 121, 78, 97, 109, 101, 115, 73, 103, 110, 111, 114, 101, 115, 83, 99, 104, 101, 109, 101, 65, 110, 100, 80, 97, 116, 104, 32, 101, 120, 97, 109, 112, 108, 101, 46, 99, 111, 109, 47, 114, 101, 102, 103, 114, 97, 112, 104, 47, 114, 101, 102, 103, 114, 97, 112, 104, 47, 122, 122, 108, 97, 119, 115, 95, 112, 107, 103, 95, 114, 101, 103, 105, 115, 116, 114, 121, 95, 98, 49, 46, 70, 110, 85, 114, 108, 75, 101, 121, 78, 97, 109, 101, 115, 73, 115, 65, 110, 69, 113, 117, 105, 118, 97, 108, 101, 110, 99, 101, 79, 110, 72, 111, 115, 116, 115]
theorem head_is : Try.prog.initOrder = String.ofList (headCodes.map Char.ofNat) := by kernel_rfl
theorem head_list : Try.prog.initOrder.toList = headCodes.map Char.ofNat := by rw [head_is]; exact String.toList_ofList
theorem head_cut : (behindMainWord (wordsSigns (headCodes.map Char.ofNat))).head? = some ['c', 'u', 't'] := by kernel_rfl
theorem lays_later : Try.prog.laysLater = false := by kernel_rfl
theorem bears_reflect : Try.prog.bearsReflect = false := by kernel_rfl
theorem door_fits : Try.prog.doorFits [] = true := by kernel_rfl
theorem strip_cut (rest : List (List Char)) : stripLifts liftWords (['c', 'u', 't'] :: rest) = ([], ['c', 'u', 't'] :: rest) := by kernel_rfl
theorem may_enter_of (P : Program) (rest : List (List Char)) (h : behindMainWord (wordsSigns P.initOrder.toList) = ['c', 'u', 't'] :: rest)
    (h2 : P.laysLater = false) (h3 : P.bearsReflect = false) (h4 : P.doorFits [] = true) : P.mayEnter = true := by
  unfold Program.mayEnter
  rw [h]
  simp [strip_cut, h2, h3, h4]
theorem make_of (P : Program) (rest : List (List Char)) (h : behindMainWord (wordsSigns P.initOrder.toList) = ['c', 'u', 't'] :: rest) : P.make = some .cut := by
  unfold Program.make
  rw [h]
  simp
theorem head_rest : ∃ rest, behindMainWord (wordsSigns Try.prog.initOrder.toList) = ['c', 'u', 't'] :: rest := by
  rw [head_list]
  have h := head_cut
  generalize behindMainWord (wordsSigns (headCodes.map Char.ofNat)) = l at h
  cases l with
  | nil => cases h
  | cons a r => exact ⟨r, by simpa using h⟩
theorem may_enter : Try.prog.mayEnter = true := by
  obtain ⟨rest, hr⟩ := head_rest
  exact may_enter_of Try.prog rest hr lays_later bears_reflect door_fits
theorem make_is : Try.prog.make = some .cut := by
  obtain ⟨rest, hr⟩ := head_rest
  exact make_of Try.prog rest hr
theorem lifts_final : Try.prog.liftsFinal = false := by
  unfold Program.liftsFinal Program.headLifts
  rw [head_list]
  kernel_rfl
theorem laid_out : laidOutB Try.prog = true := by kernel_rfl
theorem maps_rowed : mapsRowed Try.prog = true := by kernel_rfl
theorem stops_heard : Try.prog.stopsHeard = true := by kernel_rfl
end Go.Proofs.Qxb6601397a
