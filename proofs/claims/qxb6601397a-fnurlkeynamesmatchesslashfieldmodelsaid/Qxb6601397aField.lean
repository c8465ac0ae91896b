import Derived.Test.Qxb6601397aKey
namespace Go.Proofs.Qxb6601397a
open Go.RowKit

def sp : List UInt8 → List (List UInt8)
  | [] => [[]]
  | c :: r => if c = 47 then [] :: sp r else
    match sp r with
    | h :: t => (c :: h) :: t
    | [] => [[c]]

theorem sp_ne (l : List UInt8) : ∃ h t, sp l = h :: t := by
  cases l with
  | nil => exact ⟨[], [], rfl⟩
  | cons c r =>
    simp only [sp]
    split
    · exact ⟨_, _, rfl⟩
    · split
      · exact ⟨_, _, rfl⟩
      · exact ⟨_, _, rfl⟩

theorem sp_seg (a : List UInt8) (h : (47 : UInt8) ∉ a) : sp a = [a] := by
  induction a with
  | nil => rfl
  | cons c r ih =>
    have h1 : ¬ c = 47 := fun e => h (by simp [e])
    have h2 : (47 : UInt8) ∉ r := fun e => h (by simp [e])
    simp only [sp]
    rw [if_neg h1, ih h2]

theorem sp_app (a r : List UInt8) (h : (47 : UInt8) ∉ a) : sp (a ++ 47 :: r) = a :: sp r := by
  induction a with
  | nil => simp [sp]
  | cons c t ih =>
    have h1 : ¬ c = 47 := fun e => h (by simp [e])
    have h2 : (47 : UInt8) ∉ t := fun e => h (by simp [e])
    simp only [List.cons_append, sp]
    rw [if_neg h1, ih h2]

theorem sp_cases (l : List UInt8) : ((47 : UInt8) ∉ l ∧ sp l = [l]) ∨ ∃ a r, l = a ++ 47 :: r ∧ (47 : UInt8) ∉ a ∧ sp l = a :: sp r := by
  by_cases h : (47 : UInt8) ∈ l
  · right
    have : ∃ a r, l = a ++ 47 :: r ∧ (47 : UInt8) ∉ a := by
      induction l with
      | nil => cases h
      | cons c t ih =>
        by_cases hc : c = 47
        · exact ⟨[], t, by simp [hc], by simp⟩
        · have ht : (47 : UInt8) ∈ t := by
            rcases List.mem_cons.1 h with e | e
            · exact (hc e.symm).elim
            · exact e
          obtain ⟨a, r, e, hn⟩ := ih ht
          refine ⟨c :: a, r, by simp [e], ?_⟩
          intro hm
          rcases List.mem_cons.1 hm with e | e
          · exact hc e.symm
          · exact hn e
    obtain ⟨a, r, rfl, hn⟩ := this
    exact ⟨a, r, rfl, hn, sp_app a r hn⟩
  · exact Or.inl ⟨h, sp_seg l h⟩

theorem sp_bef (s : ByteArray) : ∃ t, sp s.data.toList = (bef s).data.toList :: t := by
  rcases sp_cases s.data.toList with ⟨h, e⟩ | ⟨a, r, hl, hn, e⟩
  · have hb : slashAt s < 0 := by
      unfold slashAt
      rcases Int.lt_or_le (Lib.indexByte s.data.toList 47) 0 with g | g
      · exact g
      · exfalso
        obtain ⟨o, ho⟩ : ∃ o : Nat, Lib.indexByte s.data.toList 47 = o := ⟨_, (Int.toNat_of_nonneg g).symm⟩
        exact h (List.mem_of_getElem? (Lib.indexByte_some ho).1)
    refine ⟨[], ?_⟩
    unfold bef
    rw [if_pos hb]
    exact e
  · have hidx : slashAt s = (a.length : Int) := by
      unfold slashAt
      rw [hl]
      clear hl e
      induction a with
      | nil => rfl
      | cons c t ih =>
        have h1 : ¬ c = 47 := fun e => hn (by simp [e])
        have h2 : (47 : UInt8) ∉ t := fun e => hn (by simp [e])
        have h3 := ih h2
        simp only [List.cons_append]
        rw [Lib.indexByte, if_neg (by simpa using h1), h3, if_neg (by simp)]
        simp
    refine ⟨sp r, ?_⟩
    unfold bef
    rw [if_neg (by rw [hidx]; omega), e, hidx]
    congr 1
    have : (s.extract 0 (a.length : Int).toNat).data.toList = s.data.toList.take a.length := by simp
    rw [this, hl]
    simp

end Go.Proofs.Qxb6601397a
