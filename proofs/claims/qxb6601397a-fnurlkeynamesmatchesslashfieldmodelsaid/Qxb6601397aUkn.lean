import Derived.Test.Qxb6601397aShelf
import Derived.WalkKit
import Derived.WalkSpells
import Derived.WalkLawsBesides
import Derived.Outline
import Derived.Deep.LoopGhost
import Derived.Deep.QuietTactic
import Derived.BigQuiet
import Derived.Lib.IndexLaws
namespace Go.Proofs.Qxb6601397a
open Go.RowKit

def sHttps : ByteArray := ⟨#[104, 116, 116, 112, 115, 58, 47, 47]⟩
def sHttp : ByteArray := ⟨#[104, 116, 116, 112, 58, 47, 47]⟩
def sDoc : ByteArray := ⟨#[100, 111, 99, 107, 101, 114, 46, 105, 111]⟩
def sIdx : ByteArray := ⟨#[105, 110, 100, 101, 120, 46, 100, 111, 99, 107, 101, 114, 46, 105, 111]⟩
def sReg : ByteArray := ⟨#[114, 101, 103, 105, 115, 116, 114, 121, 45, 49, 46, 100, 111, 99, 107, 101, 114, 46, 105, 111]⟩

def canon (h : ByteArray) : ByteArray :=
  if (h.toList == sIdx.data.toList) = true then sDoc else if (h.toList == sReg.data.toList) = true then sDoc else h

def slashAt (s : ByteArray) : Int := Lib.indexByte s.data.toList 47
def bef (s : ByteArray) : ByteArray := if slashAt s < 0 then s else s.extract 0 (slashAt s).toNat

theorem ret_str {a b : ByteArray} (h : a = b) : Ending.returned (.string a) = .returned (.string b) := by rw [h]

set_option maxHeartbeats 400000 in
theorem canon_any (h : ByteArray) (w : World) :
    Calls Try.prog 17 #[.string h] w fun e w' => e = .returned (.string (canon h)) ∧ w' = w := by
  go_enter Try.func17, Try.ntmps17
  go_wp2
  all_goals
    go_ret
    refine ⟨ret_str ?_, rfl⟩
    first | (simp [canon, sDoc, sIdx, sReg, *]; done) | (exfalso; simp_all; done)

theorem slash_bd (s : ByteArray) : slashAt s < 0 ∨ (0 ≤ slashAt s ∧ slashAt s + 1 ≤ (s.size : Int)) := by
  unfold slashAt
  rcases Int.lt_or_le (Lib.indexByte s.data.toList 47) 0 with h | h
  · exact Or.inl h
  · right
    obtain ⟨o, ho⟩ : ∃ o : Nat, Lib.indexByte s.data.toList 47 = o := ⟨_, (Int.toNat_of_nonneg h).symm⟩
    have := (Lib.indexByte_some ho).1
    have hl : o < s.data.toList.length := (List.getElem?_eq_some_iff.1 this).1
    have : s.data.toList.length = s.size := by simp
    omega

set_option maxHeartbeats 400000 in
theorem cutlite_any (s : ByteArray) (w : World) (hs : s.size ≤ 4000000) :
    Calls Try.prog 20 #[.string s, .string ⟨#[47]⟩] w fun e w' => ∃ y b n, e = .returned (.tuple #[.string (bef s), .string y, .bool b]) ∧ w' = w.drewN n := by
  have hx : ∀ w : World, Calls Try.prog 22 #[.string s, .string ⟨#[47]⟩] w fun e w' => e = .returned (.int .i64 (slashAt s)) ∧ w' = w := fun w => Try.stringslite_Index_one s 47 w
  have HX : Hid (∀ w : World, Calls Try.prog 22 #[.string s, .string ⟨#[47]⟩] w fun e w' => e = .returned (.int .i64 (slashAt s)) ∧ w' = w) := hx
  clear hx
  rcases slash_bd s with hneg | ⟨h0, h1⟩
  · have hb : bef s = s := by unfold bef; rw [if_pos hneg]
    have HB : Hid (bef s = s) := hb
    clear hb
    go_enter Try.func20, Try.ntmps20
    go_wp2_with (go_at_call 22; refine (HX.out _).mono ?_; rintro e w' ⟨rfl, hw⟩; replace hw := hw.symm; subst hw)
    go_ret3
    exact ⟨_, _, 0, by rw [HB.out]; rfl, rfl⟩
  · have hb : bef s = s.extract 0 (slashAt s).toNat := by unfold bef; rw [if_neg (by omega)]
    have HB : Hid (bef s = s.extract 0 (slashAt s).toNat) := hb
    clear hb
    obtain ⟨o, ho⟩ : ∃ o : Nat, slashAt s = o := ⟨_, (Int.toNat_of_nonneg h0).symm⟩
    rw [ho] at HX HB h1
    clear ho h0
    go_enter Try.func20, Try.ntmps20
    go_wp2_with (go_at_call 22; refine (HX.out _).mono ?_; rintro e w' ⟨rfl, hw⟩; replace hw := hw.symm; subst hw)
    go_quiet (fail)
    go_wp2_with fail
    go_ret3
    exact ⟨_, _, _, by rw [HB.out]; rfl, rfl⟩

set_option maxHeartbeats 400000 in
theorem cut_any (s : ByteArray) (w : World) (hs : s.size ≤ 4000000) :
    Calls Try.prog 16 #[.string s, .string ⟨#[47]⟩] w fun e w' => ∃ y b n, e = .returned (.tuple #[.string (bef s), .string y, .bool b]) ∧ w' = w.drewN n := by
  go_enter Try.func16, Try.ntmps16
  go_wp2_with fail
  refine (cutlite_any s w hs).mono ?_
  rintro e w' ⟨y, b, n, rfl, hw⟩
  have HW : Hid (w' = w.drewN n) := hw
  clear hw
  go_wp2_with fail
  go_ret3
  exact ⟨_, _, _, rfl, HW.out⟩

end Go.Proofs.Qxb6601397a
