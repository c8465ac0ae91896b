import Derived.Test.Qxb6601796aShelf
import Derived.WalkKit
import Derived.WalkSpells
import Derived.WalkLawsBesides
import Derived.Outline
import Derived.KernelRfl
import Derived.Below
namespace Go.Proofs.Qxb6601796a
open Go.RowKit

def tchB (c : Int) : Bool :=
  decide (33 ≤ c) && decide (c ≤ 126) && !(c == 34 || c == 40 || c == 41 || c == 44 || c == 47 || c == 58 || c == 59 || c == 60 || c == 61 || c == 62 || c == 63 || c == 64 || c == 91 || c == 92 || c == 93 || c == 123 || c == 125)

def sSym : ByteArray := ⟨#[33, 35, 36, 37, 38, 39, 42, 43, 45, 46, 94, 95, 96, 124, 126]⟩
def symI (c : Int) : Int := Lib.indexByte sSym.data.toList c.toNat.toUInt8
def tokB (c : Int) : Bool :=
  (decide (97 ≤ c) && decide (c ≤ 122)) || (decide (65 ≤ c) && decide (c ≤ 90)) || (decide (48 ≤ c) && decide (c ≤ 57)) || decide (0 ≤ symI c)

theorem tok_all : ((List.range 256).all fun n => tokB (n : Int) == tchB (n : Int)) = true := by kernel_rfl
theorem tok_tch (b : UInt8) : tchB (b.toNat : Int) = tokB (b.toNat : Int) := by
  have h := List.all_eq_true.1 tok_all b.toNat (by rw [List.mem_range]; exact b.toNat_lt)
  exact (by simpa using h : tokB (b.toNat : Int) = tchB (b.toNat : Int)).symm

theorem ret_bool {a b : Bool} (h : a = b) : Ending.returned (.bool a) = .returned (.bool b) := by rw [h]

set_option maxHeartbeats 1600000 in
theorem tch_any (c : Int) (w : World) :
    Calls Try.prog 6 #[.int .u8 c] w fun e w' => e = .returned (.bool (tchB c)) ∧ w' = w := by
  go_enter Try.func6, Try.ntmps6
  go_wp2
  all_goals
    go_ret
    refine ⟨ret_bool ?_, rfl⟩
    first | (simp [tchB, *]; done) | (rw [Bool.eq_iff_iff]; simp [tchB] at *; omega)

theorem tch_byte (b : UInt8) (w : World) :
    Calls Try.prog 6 #[.int .u8 (b.toNat : Int)] w fun e w' => e = .returned (.bool (tokB (b.toNat : Int))) ∧ w' = w := by
  rw [← tok_tch]; exact tch_any _ w

theorem sym_any (c : Int) (w : World) :
    Calls Try.prog 10 #[.string ⟨#[33, 35, 36, 37, 38, 39, 42, 43, 45, 46, 94, 95, 96, 124, 126]⟩, .int .u8 c] w fun e w' => e = .returned (.int .i64 (symI c)) ∧ w' = w :=
  Try.strings_IndexByte _ _ w

def good (s : ByteArray) (k : Nat) : Bool := (s.data.toList.take k).all fun b => tokB (b.toNat : Int)
theorem good_zero (s : ByteArray) : good s 0 = true := by simp [good]
theorem good_succ (s : ByteArray) (k : Nat) (h : k < s.size) : good s (k + 1) = (good s k && tokB (s[k].toNat : Int)) := by
  unfold good
  rw [List.take_succ_eq_append_getElem (by simpa using h), List.all_append]
  simp
  rfl
theorem good_le (s : ByteArray) (j : Nat) : ∀ k, k ≤ j → good s j = true → good s k = true := by
  intro k hk h
  unfold good at h ⊢
  rw [List.all_eq_true] at h ⊢
  intro b hb
  refine h b ?_
  have e : s.data.toList.take k = (s.data.toList.take j).take k := by rw [List.take_take]; congr 1; omega
  rw [e] at hb
  exact List.mem_of_mem_take hb

theorem tok_iff (c : Int) : tokB c = true ↔ ((97 ≤ c ∧ c ≤ 122) ∨ (65 ≤ c ∧ c ≤ 90) ∨ (48 ≤ c ∧ c ≤ 57) ∨ 0 ≤ symI c) := by
  unfold tokB
  simp [or_assoc]
theorem good_hit (s : ByteArray) (k : Nat) (h : k < s.size) (hg : good s k = true) (ht : tokB (s[k].toNat : Int) = true) : good s (k + 1) = true := by
  rw [good_succ s k h, hg, ht]; rfl
theorem good_miss (s : ByteArray) (k : Nat) (h : k < s.size) (ht : ¬ tokB (s[k].toNat : Int) = true) : (good s s.size && decide (0 < s.size)) = false := by
  cases e : good s s.size
  · rfl
  · exfalso
    have := good_le s s.size (k + 1) (by omega) e
    rw [good_succ s k h] at this
    simp at this
    exact ht this.2
theorem good_end (s : ByteArray) (k : Nat) (h : ¬ k < s.size) (hk : k ≤ s.size) (hg : good s k = true) : (!s.toList.isEmpty) = (good s s.size && decide (0 < s.size)) := by
  have e : k = s.size := by omega
  subst e
  rw [hg]
  have hl : s.toList.length = s.size := by rw [ByteArray.toList_eq]; simp
  cases hs : s.toList with
  | nil => rw [hs] at hl; simp at hl; simp [← hl]
  | cons a r => rw [hs] at hl; simp at hl; simp; omega

set_option maxRecDepth 100000 in
set_option maxHeartbeats 1600000 in
theorem isToken_any (s : ByteArray) (w : World) (hs : s.size ≤ 2000000) :
    Calls Try.prog 9 #[.string s] w fun e w' => e = .returned (.bool (good s s.size && decide (0 < s.size))) ∧ w' = w := by
  go_enter Try.func9, Try.ntmps9
  go_wp2_with fail
  go_loop [3, 4] (fun i _ => ∃ k : Nat, k ≤ s.size ∧ i = .int .i64 (k : Int) ∧ Hid (good s k = true)) (fun i _ => s.size - (intOf i).toNat)
  case atStart => exact ⟨0, by omega, rfl, good_zero s⟩
  case round =>
    obtain ⟨k, hk, rfl, HG⟩ := hrel
    by_cases hlt : k < s.size
    · have hlt' : (k : Int) < (s.size : Int) := by omega
      go_wp2_with (go_at_call 10; refine (sym_any _ _).mono ?_; rintro e w' ⟨rfl, hw⟩; replace hw := hw.symm; subst hw)
      all_goals first
        | (go_round
           case rel => exact ⟨k + 1, by omega, by go_num, good_hit s k hlt HG.out ((tok_iff _).2 (by omega))⟩
           case measure => simp [intOf]; omega)
        | (go_ret
           exact ⟨ret_bool (good_miss s k hlt (fun h => by have := (tok_iff _).1 h; omega)).symm, rfl⟩)
    · have hlt' : ¬ (k : Int) < (s.size : Int) := by omega
      go_wp2_with fail
      go_ret
      exact ⟨ret_bool (good_end s k hlt hk HG.out), rfl⟩

set_option maxHeartbeats 400000 in
theorem zz_any (s : ByteArray) (w : World) (hs : s.size ≤ 2000000) :
    Calls Try.prog 7 #[.string s] w fun e w' => e = .returned (.bool (good s s.size && decide (0 < s.size))) ∧ w' = w := by
  go_enter Try.func7, Try.ntmps7
  go_wp2_with (go_at_call 9; refine (isToken_any s w hs).mono ?_; rintro e w' ⟨rfl, hw⟩; replace hw := hw.symm; subst hw)
  go_ret
  exact ⟨rfl, rfl⟩

set_option maxHeartbeats 400000 in
theorem bytes_ok (s : ByteArray) (w : World) (h : s.size ≤ 1048576) :
    Calls Try.prog 5 #[.string s] w fun e w' => e = .returned (.bool true) ∧ w' = w := by
  go_enter Try.func5, Try.ntmps5
  go_wp2
  go_ret
  exact ⟨rfl, rfl⟩

set_option maxHeartbeats 800000 in
theorem top_long (s : ByteArray) (w : World) (h : ¬ s.size ≤ 1048576) (hm : s.size ≤ maxLen) :
    Calls Try.prog 3 #[.string s] w fun e w' => e = .returned (.bool true) ∧ Below w.heap.size w w' := by
  unfold maxLen at hm
  go_enter Try.func3, Try.ntmps3
  go_wp2
  go_ret
  exact ⟨rfl, Below.refl _ _⟩

set_option maxRecDepth 100000 in
set_option maxHeartbeats 800000 in
theorem top_short (s : ByteArray) (w : World) (h : s.size ≤ 1048576) :
    Calls Try.prog 3 #[.string s] w fun e w' => e = .returned (.bool true) ∧ Below w.heap.size w w' := by
  go_enter Try.func3, Try.ntmps3
  go_wp2_with (go_at_call 5; refine (bytes_ok s w h).mono ?_; rintro e w' ⟨rfl, hw⟩; replace hw := hw.symm; subst hw)
  go_loop [3, 4] (fun v i => ∃ k : Nat, k ≤ s.size ∧ i = .int .i64 (k : Int) ∧ v = .bool (good s k && decide (0 < s.size))) (fun _ i => s.size - (intOf i).toNat)
  case atStart => exact ⟨0, by omega, rfl, by simp [good_zero]⟩
  case round =>
    obtain ⟨k, hk, rfl, rfl⟩ := hrel
    by_cases hlt : k < s.size
    · have hlt' : (k : Int) < (s.size : Int) := by omega
      have hsucc := good_succ s k hlt
      have HSU : Hid (good s (k + 1) = (good s k && tokB (s[k].toNat : Int))) := hsucc
      clear hsucc
      cases ht : tokB (s[k].toNat : Int)
      · go_wp2_with (go_at_call 6; refine (tch_byte _ _).mono ?_; rintro e w' ⟨rfl, hw⟩; replace hw := hw.symm; subst hw)
        go_round
        case rel => exact ⟨k + 1, by omega, by go_num, by rw [HSU.out, ht]; simp⟩
        case measure => simp [intOf]; omega
      · go_wp2_with (go_at_call 6; refine (tch_byte _ _).mono ?_; rintro e w' ⟨rfl, hw⟩; replace hw := hw.symm; subst hw)
        go_round
        case rel => exact ⟨k + 1, by omega, by go_num, by rw [HSU.out, ht]; simp⟩
        case measure => simp [intOf]; omega
    · have hlt' : ¬ (k : Int) < (s.size : Int) := by omega
      have e : k = s.size := by omega
      subst e
      go_wp2_with (go_at_call 7; refine (zz_any s w (by omega)).mono ?_; rintro e w' ⟨rfl, hw⟩; replace hw := hw.symm; subst hw)
      go_ret
      exact ⟨ret_bool (by simp), Below.refl _ _⟩

end Go.Proofs.Qxb6601796a
