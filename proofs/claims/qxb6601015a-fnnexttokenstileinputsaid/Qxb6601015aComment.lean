import Derived.Test.Qxb6601015aLeaf
import Derived.Test.Qxb6601015aOnly
namespace Go.Proofs.Qxb6601015a
open Go.RowKit

def cend (t : ByteArray) : Nat → Nat → Int → Int
  | 0, _, _ => -1
  | f + 1, k, z =>
    if k + 1 < t.size then
      (if ((t.extract k (k + 2)).toList == [47, 42]) = true then cend t f (k + 2) (z + 1)
       else if ((t.extract k (k + 2)).toList == [42, 47]) = true then (if (z - 1 == 0) = true then (k : Int) + 2 else cend t f (k + 2) (z - 1))
       else cend t f (k + 1) z)
    else -1

theorem cend_out (t : ByteArray) (f k : Nat) (z : Int) (h : ¬ k + 1 < t.size) : cend t f k z = -1 := by
  cases f with
  | zero => rfl
  | succ f => unfold cend; rw [if_neg h]
theorem cend_open (t : ByteArray) (f k : Nat) (z : Int) (h : k + 1 < t.size) (h1 : ((t.extract k (k + 2)).toList == [47, 42]) = true) : cend t (f + 1) k z = cend t f (k + 2) (z + 1) := by
  rw [cend, if_pos h, if_pos h1]
theorem cend_shut (t : ByteArray) (f k : Nat) (z : Int) (h : k + 1 < t.size) (h1 : ((t.extract k (k + 2)).toList == [47, 42]) = false) (h2 : ((t.extract k (k + 2)).toList == [42, 47]) = true) (h3 : (z - 1 == 0) = true) : cend t (f + 1) k z = (k : Int) + 2 := by
  rw [cend, if_pos h, if_neg (by simp [h1]), if_pos h2, if_pos h3]
theorem cend_less (t : ByteArray) (f k : Nat) (z : Int) (h : k + 1 < t.size) (h1 : ((t.extract k (k + 2)).toList == [47, 42]) = false) (h2 : ((t.extract k (k + 2)).toList == [42, 47]) = true) (h3 : (z - 1 == 0) = false) : cend t (f + 1) k z = cend t f (k + 2) (z - 1) := by
  rw [cend, if_pos h, if_neg (by simp [h1]), if_pos h2, if_neg (by simp [h3])]
theorem cend_on (t : ByteArray) (f k : Nat) (z : Int) (h : k + 1 < t.size) (h1 : ((t.extract k (k + 2)).toList == [47, 42]) = false) (h2 : ((t.extract k (k + 2)).toList == [42, 47]) = false) : cend t (f + 1) k z = cend t f (k + 1) z := by
  rw [cend, if_pos h, if_neg (by simp [h1]), if_neg (by simp [h2])]

theorem cend_bd (t : ByteArray) (f : Nat) : ∀ (k : Nat) (z : Int), cend t f k z = -1 ∨ (1 ≤ cend t f k z ∧ cend t f k z ≤ (t.size : Int)) := by
  induction f with
  | zero => intro k z; exact Or.inl rfl
  | succ f ih =>
    intro k z
    unfold cend
    by_cases h : k + 1 < t.size
    · rw [if_pos h]
      split
      · exact ih _ _
      · split
        · split
          · right; omega
          · exact ih _ _
        · exact ih _ _
    · rw [if_neg h]; exact Or.inl rfl

def comEnd (t : ByteArray) : Int := cend t t.size 0 0
theorem comEnd_bd (t : ByteArray) : comEnd t = -1 ∨ (1 ≤ comEnd t ∧ comEnd t ≤ (t.size : Int)) := cend_bd t _ 0 0

theorem ret_i64 {a b : Int} (h : a = b) : Ending.returned (.int .i64 a) = .returned (.int .i64 b) := by rw [h]

set_option maxHeartbeats 800000 in
theorem commentEnd_any (t : ByteArray) (w : World) (ht : t.size ≤ 65536) :
    Calls Try.prog 41 #[.string t] w fun e w' => e = .returned (.int .i64 (comEnd t)) ∧ w' = w := by
  go_enter Try.func41, Try.ntmps41
  go_wp2_with fail
  go_loop [3, 4] (fun d i => ∃ (k f : Nat) (z : Int), k ≤ t.size ∧ t.size - k ≤ f ∧ -k ≤ z ∧ z ≤ k ∧ Hid (cend t f k z = comEnd t) ∧ i = .int .i64 k ∧ d = .int .i64 z) (fun _ i => t.size - (intOf i).toNat)
  case atStart => exact ⟨0, t.size, 0, by omega, by omega, by omega, by omega, rfl, rfl, rfl⟩
  case round =>
    obtain ⟨k, f, z, hk, hf, hz1, hz2, HC, rfl, rfl⟩ := hrel
    by_cases hlt : k + 1 < t.size
    · have hlt' : (k : Int) + 1 < (t.size : Int) := by omega
      obtain ⟨f, rfl⟩ : ∃ g, f = g + 1 := ⟨f - 1, by omega⟩
      go_wp2
      · go_round
        case rel => exact ⟨k + 2, f, z + 1, by omega, by omega, by omega, by omega, (cend_open t f k z hlt ‹_›).symm.trans HC, by go_num, rfl⟩
        case measure => simp [intOf]; omega
      · go_ret
        exact ⟨ret_i64 ((cend_shut t f k z hlt ‹_› ‹_› ‹_›).symm.trans HC), rfl⟩
      · go_round
        case rel => exact ⟨k + 2, f, z - 1, by omega, by omega, by omega, by omega, (cend_less t f k z hlt ‹_› ‹_› ‹_›).symm.trans HC, by go_num, rfl⟩
        case measure => simp [intOf]; omega
      · go_round
        case rel => exact ⟨k + 1, f, z, by omega, by omega, by omega, by omega, (cend_on t f k z hlt ‹_› ‹_›).symm.trans HC, by go_num, rfl⟩
        case measure => simp [intOf]; omega
    · have hlt' : ¬ (k : Int) + 1 < (t.size : Int) := by omega
      go_wp2
      go_ret
      exact ⟨ret_i64 ((cend_out t f k z hlt).symm.trans HC), rfl⟩

end Go.Proofs.Qxb6601015a
