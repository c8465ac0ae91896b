import Derived.Test.Qxb6601015aProg
import Derived.Test.Qxb6601015aShelf
import Derived.WalkKit
import Derived.WalkSpells
import Derived.Outline
namespace Go.Proofs.Qxb6601015a
open Go.RowKit

def digB (c : Int) : Bool := decide (48 ≤ c) && decide (c ≤ 57)
def letB (c : Int) : Bool := (decide (97 ≤ c) && decide (c ≤ 122)) || (decide (65 ≤ c) && decide (c ≤ 90)) || c == 95
def spcB (c : Int) : Bool := c == 32 || c == 9 || c == 10 || c == 13 || c == 12 || c == 11

theorem ret_bool {a b : Bool} (h : a = b) : Ending.returned (.bool a) = .returned (.bool b) := by rw [h]

set_option maxHeartbeats 400000 in
theorem isDigit_any (c : Int) (w : World) :
    Calls Try.prog 36 #[.int .u8 c] w fun e w' => e = .returned (.bool (digB c)) ∧ w' = w := by
  unfold digB
  by_cases h1 : 48 ≤ c <;> by_cases h2 : c ≤ 57
  all_goals
    go_enter Try.func36, Try.ntmps36
    go_wp2
    go_ret
    simp [h1, h2]

theorem isDigit_is (c : Int) (v : Bool) (h : digB c = v) (w : World) :
    Calls Try.prog 36 #[.int .u8 c] w fun e w' => e = .returned (.bool v) ∧ w' = w := by
  subst h; exact isDigit_any c w

set_option maxHeartbeats 400000 in
theorem isLetter_any (c : Int) (w : World) :
    Calls Try.prog 35 #[.int .u8 c] w fun e w' => e = .returned (.bool (letB c)) ∧ w' = w := by
  go_enter Try.func35, Try.ntmps35
  go_wp2
  all_goals
    go_ret
    refine ⟨ret_bool ?_, rfl⟩
    first | (simp [letB, *]; done) | (rw [Bool.eq_iff_iff]; simp [letB]; omega)

theorem isLetter_is (c : Int) (v : Bool) (h : letB c = v) (w : World) :
    Calls Try.prog 35 #[.int .u8 c] w fun e w' => e = .returned (.bool v) ∧ w' = w := by
  subst h; exact isLetter_any c w

set_option maxHeartbeats 400000 in
theorem isSpace_any (c : Int) (w : World) :
    Calls Try.prog 40 #[.int .u8 c] w fun e w' => e = .returned (.bool (spcB c)) ∧ w' = w := by
  go_enter Try.func40, Try.ntmps40
  go_wp2
  all_goals
    go_ret
    refine ⟨ret_bool ?_, rfl⟩
    simp [spcB, *]

theorem isSpace_is (c : Int) (v : Bool) (h : spcB c = v) (w : World) :
    Calls Try.prog 40 #[.int .u8 c] w fun e w' => e = .returned (.bool v) ∧ w' = w := by
  subst h; exact isSpace_any c w
end Go.Proofs.Qxb6601015a
