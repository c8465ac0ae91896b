import Derived.Test.Qxb6601397aKey
namespace Go.Proofs.Qxb6601397a
open Go.RowKit

theorem same_refl (a : ByteArray) : same a a = true := by simp [same]
theorem same_symm (a b : ByteArray) : same a b = same b a := by
  unfold same
  rw [Bool.eq_iff_iff]
  simp only [beq_iff_eq]
  exact ⟨fun h => h.symm, fun h => h.symm⟩
theorem same_trans (a b c : ByteArray) (h1 : same a b = true) (h2 : same b c = true) : same a c = true := by
  unfold same at h1 h2 ⊢
  simp only [beq_iff_eq] at h1 h2 ⊢
  exact h1.trans h2

theorem bef_self (a : ByteArray) (h : (47 : UInt8) ∉ a.data.toList) : bef a = a := by
  unfold bef
  rw [if_pos]
  unfold slashAt
  rcases Int.lt_or_le (Lib.indexByte a.data.toList 47) 0 with g | g
  · exact g
  · exfalso
    obtain ⟨o, ho⟩ : ∃ o : Nat, Lib.indexByte a.data.toList 47 = o := ⟨_, (Int.toNat_of_nonneg g).symm⟩
    exact h (List.mem_of_getElem? (Lib.indexByte_some ho).1)

theorem app_list (a b : ByteArray) : (a ++ b).data.toList = a.data.toList ++ b.data.toList := by simp

theorem ukn_host (a b : ByteArray) (h : (47 : UInt8) ∉ a.data.toList) : ukn (sHttps ++ a) b = same a b := by
  have h1 : has (sHttps ++ a) sHttps = true := by
    unfold has Lib.hasPrefix
    rw [app_list, List.isPrefixOf_iff_prefix]
    exact List.prefix_append _ _
  have h2 : tail1 (sHttps ++ a) sHttps = a := by
    unfold tail1 Lib.trimPrefix
    unfold has at h1
    rw [if_pos h1, app_list, List.drop_left]
  unfold ukn
  rw [if_pos h1, h2, bef_self a h]

theorem zz_host (a b : ByteArray) (w : World) (hs : a.size ≤ 300000) (h : (47 : UInt8) ∉ a.data.toList) :
    Calls Try.prog 7 #[.string (⟨#[104, 116, 116, 112, 115, 58, 47, 47]⟩ ++ a), .string b] w (Ans (same a b) w) := by
  rw [← ukn_host a b h]
  exact zz_any (sHttps ++ a) b w (by rw [ByteArray.size_append]; have : sHttps.size = 8 := rfl; omega)

def Sl (s : ByteArray) (w : World) (e : Ending) (w' : World) : Prop :=
  (e = .returned (.bool true) ∨ (e = .returned (.bool false) ∧ (47 : UInt8) ∉ s.data.toList)) ∧ w' = w

set_option maxHeartbeats 400000 in
theorem slash_any (s : ByteArray) (w : World) (hs : s.size ≤ maxLen) :
    Calls Try.prog 11 #[.string s] w (Sl s w) := by
  unfold maxLen at hs
  go_enter Try.func11, Try.ntmps11
  go_wp2_with fail
  go_loop [3] (fun i => ∃ k : Nat, k ≤ s.size ∧ i = .int .i64 (k : Int) ∧ Hid (∀ j, j < k → s.data.toList[j]? ≠ some 47)) (fun i => s.size - (intOf i).toNat)
  case atStart => exact ⟨0, by omega, rfl, fun j hj => by omega⟩
  case round =>
    obtain ⟨k, hk, rfl, H⟩ := hrel
    by_cases hlt : k < s.size
    · have hlt' : (k : Int) < (s.size : Int) := by omega
      cases hq : ((s[k].toNat : Int) == 47)
      · have hne : Hid (s[k] ≠ 47) := by
          intro e
          rw [e] at hq
          simp at hq
        go_wp2_with fail
        go_round
        case rel =>
          refine ⟨k + 1, by omega, by go_num, fun j hj => ?_⟩
          rcases Nat.lt_or_ge j k with g | g
          · exact H.out j g
          · have : j = k := by omega
            subst this
            rw [List.getElem?_eq_getElem (by simpa using hlt)]
            intro e
            have e2 : s.data[j] = 47 := by simpa using e
            exact hne e2
        case measure => simp [intOf]; omega
      · go_wp2_with fail
        go_ret
        exact ⟨Or.inl rfl, rfl⟩
    · have hlt' : ¬ (k : Int) < (s.size : Int) := by omega
      go_wp2_with fail
      go_ret
      refine ⟨Or.inr ⟨rfl, ?_⟩, rfl⟩
      intro hm
      obtain ⟨j, hj, e⟩ := List.getElem_of_mem hm
      have hj2 : j < s.size := by simpa using hj
      exact H.out j (by omega) (by rw [List.getElem?_eq_getElem hj, e])

end Go.Proofs.Qxb6601397a
