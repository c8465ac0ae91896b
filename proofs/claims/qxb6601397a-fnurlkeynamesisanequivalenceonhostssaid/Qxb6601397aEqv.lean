import Derived.Test.Qxb6601397aHost
namespace Go.Proofs.Qxb6601397a
open Go.RowKit

set_option maxHeartbeats 800000 in
theorem bytes3_ok (a b c : ByteArray) (w : World) (h : a.size + b.size + c.size ≤ 1048576) :
    Calls Try.prog 10 #[.string a, .string b, .string c] w fun e w' => e = .returned (.bool true) ∧ w' = w := by
  go_enter Try.func10, Try.ntmps10
  go_wp2
  go_ret
  exact ⟨rfl, rfl⟩

set_option maxHeartbeats 1600000 in
theorem bytes3_no (a b c : ByteArray) (w : World) (h : ¬ a.size + b.size + c.size ≤ 1048576) (h0 : a.size ≤ maxLen) (h1 : b.size ≤ maxLen) (h2 : c.size ≤ maxLen) :
    Calls Try.prog 10 #[.string a, .string b, .string c] w fun e w' => e = .returned (.bool false) ∧ w' = w := by
  unfold maxLen at h0 h1 h2
  by_cases g0 : a.size ≤ 1048576
  · by_cases g1 : b.size ≤ 1048576
    · by_cases g01 : a.size + b.size ≤ 1048576
      · by_cases g2 : c.size ≤ 1048576
        all_goals
          go_enter Try.func10, Try.ntmps10
          go_wp2
          go_ret
          exact ⟨rfl, rfl⟩
      · go_enter Try.func10, Try.ntmps10
        go_wp2
        go_ret
        exact ⟨rfl, rfl⟩
    · go_enter Try.func10, Try.ntmps10
      go_wp2
      go_ret
      exact ⟨rfl, rfl⟩
  · go_enter Try.func10, Try.ntmps10
    go_wp2
    go_ret
    exact ⟨rfl, rfl⟩

set_option maxRecDepth 100000 in
set_option maxHeartbeats 1600000 in
theorem eqv_big (a b c : ByteArray) (w : World) (h0 : a.size ≤ maxLen) (h1 : b.size ≤ maxLen) (h2 : c.size ≤ maxLen) (h : ¬ a.size + b.size + c.size ≤ 262144) :
    Calls Try.prog 5 #[.string a, .string b, .string c] w fun e w' => e = .returned (.bool true) ∧ Below w.heap.size w w' := by
  by_cases hs : a.size + b.size + c.size ≤ 1048576
  · clear h0 h1 h2
    by_cases g0 : a.size ≤ 262144
    · by_cases g1 : b.size ≤ 262144
      · by_cases g2 : c.size ≤ 262144
        all_goals
          go_enter Try.func5, Try.ntmps5
          go_wp2_with (go_at_call 10; refine (bytes3_ok a b c w hs).mono ?_; rintro e w' ⟨rfl, hw⟩; replace hw := hw.symm; subst hw)
          go_ret
          exact ⟨rfl, Below.refl _ _⟩
      · go_enter Try.func5, Try.ntmps5
        go_wp2_with (go_at_call 10; refine (bytes3_ok a b c w hs).mono ?_; rintro e w' ⟨rfl, hw⟩; replace hw := hw.symm; subst hw)
        go_ret
        exact ⟨rfl, Below.refl _ _⟩
    · go_enter Try.func5, Try.ntmps5
      go_wp2_with (go_at_call 10; refine (bytes3_ok a b c w hs).mono ?_; rintro e w' ⟨rfl, hw⟩; replace hw := hw.symm; subst hw)
      go_ret
      exact ⟨rfl, Below.refl _ _⟩
  · go_enter Try.func5, Try.ntmps5
    go_wp2_with (go_at_call 10; refine (bytes3_no a b c w hs h0 h1 h2).mono ?_; rintro e w' ⟨rfl, hw⟩; replace hw := hw.symm; subst hw)
    go_ret
    exact ⟨rfl, Below.refl _ _⟩

set_option maxRecDepth 100000 in
set_option maxHeartbeats 1600000 in
theorem eqv_small (a b c : ByteArray) (w : World) (h : a.size + b.size + c.size ≤ 262144) :
    Calls Try.prog 5 #[.string a, .string b, .string c] w fun e w' => e = .returned (.bool true) ∧ Below w.heap.size w w' := by
  go_enter Try.func5, Try.ntmps5
  go_wp2_with (go_at_call 10; refine (bytes3_ok a b c w (by omega)).mono ?_; rintro e w' ⟨rfl, hw⟩; replace hw := hw.symm; subst hw)
  refine (slash_any a w (by unfold maxLen; omega)).mono ?_
  rintro e w' ⟨h1 | ⟨h1, ha⟩, hw⟩
  · subst h1
    replace hw := hw.symm; subst hw
    go_wp2_with fail
    go_ret
    exact ⟨rfl, Below.refl _ _⟩
  subst h1
  replace hw := hw.symm; subst hw
  go_wp2_with fail
  refine (slash_any b w (by unfold maxLen; omega)).mono ?_
  rintro e w' ⟨h1 | ⟨h1, hb⟩, hw⟩
  · subst h1
    replace hw := hw.symm; subst hw
    go_wp2_with fail
    go_ret
    exact ⟨rfl, Below.refl _ _⟩
  subst h1
  replace hw := hw.symm; subst hw
  go_wp2_with fail
  refine (slash_any c w (by unfold maxLen; omega)).mono ?_
  rintro e w' ⟨h1 | ⟨h1, hc⟩, hw⟩
  · subst h1
    replace hw := hw.symm; subst hw
    go_wp2_with fail
    go_ret
    exact ⟨rfl, Below.refl _ _⟩
  subst h1
  replace hw := hw.symm; subst hw
  clear hc
  go_wp2_with fail
  refine (zz_host a a w (by omega) ha).mono ?_
  rintro e w' ⟨rfl, n1, rfl⟩
  have haa := same_refl a
  go_wp2_with fail
  refine (zz_host a b _ (by omega) ha).mono ?_
  rintro e w' ⟨rfl, n2, rfl⟩
  go_wp2_with fail
  refine (zz_host b a _ (by omega) hb).mono ?_
  rintro e w' ⟨rfl, n3, rfl⟩
  rw [same_symm b a]
  clear haa
  cases hab : same a b
  · go_wp2_with fail
    refine (zz_host b c _ (by omega) hb).mono ?_
    rintro e w' ⟨rfl, n4, rfl⟩
    go_wp2_with fail
    go_ret
    exact ⟨rfl, ⟨rfl, rfl, rfl, Nat.le_refl _, fun _ _ => rfl⟩⟩
  · go_wp2_with fail
    refine (zz_host b c _ (by omega) hb).mono ?_
    rintro e w' ⟨rfl, n4, rfl⟩
    cases hbc : same b c
    · go_wp2_with fail
      go_ret
      exact ⟨rfl, ⟨rfl, rfl, rfl, Nat.le_refl _, fun _ _ => rfl⟩⟩
    · have hac := same_trans a b c hab hbc
      go_wp2_with fail
      refine (zz_host a c _ (by omega) ha).mono ?_
      rintro e w' ⟨rfl, n5, rfl⟩
      rw [hac]
      go_wp2_with fail
      go_ret
      exact ⟨rfl, ⟨rfl, rfl, rfl, Nat.le_refl _, fun _ _ => rfl⟩⟩

end Go.Proofs.Qxb6601397a
