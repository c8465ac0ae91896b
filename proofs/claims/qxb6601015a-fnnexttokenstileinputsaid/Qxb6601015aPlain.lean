import Derived.Test.Qxb6601015aShelf
import Derived.Lib.IndexLaws
import Derived.Lib.Bytes2
namespace Go.Proofs.Qxb6601015a
open Go.RowKit

def pre2 (s : ByteArray) (q : Nat) (p : ByteArray) : Bool := Lib.hasPrefix (s.extract q s.size).data.toList p.data.toList
def nlAt (s : ByteArray) (q : Nat) : Int := Lib.indexByte (s.extract q s.size).data.toList 10

theorem len_ext (s : ByteArray) (q : Nat) : (s.extract q s.size).data.toList.length = s.size - q := by
  simp

theorem pre2_len (s : ByteArray) (q : Nat) (p : ByteArray) (h : pre2 s q p = true) : p.size ≤ s.size - q := by
  have := Lib.hasPrefix_le h
  rw [len_ext] at this
  exact this

theorem nl_bd (s : ByteArray) (q : Nat) : nlAt s q < 0 ∨ (0 ≤ nlAt s q ∧ (q : Int) + nlAt s q < s.size) := by
  unfold nlAt
  rcases Int.lt_or_le (Lib.indexByte (s.extract q s.size).data.toList 10) 0 with h | h
  · exact Or.inl h
  · right
    obtain ⟨o, ho⟩ : ∃ o : Nat, Lib.indexByte (s.extract q s.size).data.toList 10 = o := ⟨_, (Int.toNat_of_nonneg h).symm⟩
    have := (Lib.indexByte_some ho).1
    have hl : o < (s.extract q s.size).data.toList.length := by
      rcases Nat.lt_or_ge o (s.extract q s.size).data.toList.length with g | g
      · exact g
      · rw [List.getElem?_eq_none g] at this; cases this
    rw [len_ext] at hl
    omega

theorem nl_pos (s : ByteArray) (q : Nat) (h : pre2 s q ⟨#[45, 45]⟩ = true) : nlAt s q ≠ 0 := by
  intro h0
  have h1 := (Lib.indexByte_some (o := 0) h0).1
  unfold pre2 Lib.hasPrefix at h
  revert h h1
  generalize (s.extract q s.size).data.toList = l
  cases l with
  | nil => intro h; simp at h
  | cons a l => intro h h1; simp at h h1; rw [← h.1] at h1; simp at h1

end Go.Proofs.Qxb6601015a
