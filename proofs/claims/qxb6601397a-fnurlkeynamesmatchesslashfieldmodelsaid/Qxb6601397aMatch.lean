import Derived.Test.Qxb6601397aModel
namespace Go.Proofs.Qxb6601397a
open Go.RowKit

theorem neq_of {x : ByteArray} {l : List UInt8} (h : (x.toList == l) = false) : ¬ x.data.toList = l := by
  rw [toL] at h
  simpa using h
theorem eq_of {x : ByteArray} {l : List UInt8} (h : (x.toList == l) = true) : x.data.toList = l := by
  rw [toL] at h
  simpa using h

set_option maxRecDepth 100000 in
set_option maxHeartbeats 1600000 in
theorem model_any (key host : ByteArray) (w : World) (hs : key.size ≤ 2000000) :
    Calls Try.prog 8 #[.string key, .string host] w fun e w' => e = .returned (.bool (ukn key host)) ∧ w' = w := by
  go_enter Try.func8, Try.ntmps8
  go_wp2_with fail
  refine (field_any key 0 w hs).mono ?_
  rintro e w' ⟨⟨x0, h0, rfl⟩ | ⟨h0, rfl⟩, hw⟩
  case inr =>
    exfalso
    obtain ⟨a, t, e⟩ := sp_ne key.data.toList
    rw [e] at h0
    simp at h0
  replace hw := hw.symm; subst hw
  have H0 : Hid ((sp key.data.toList)[0]? = some x0.data.toList) := h0
  clear h0
  cases q1 : (x0.toList == [104, 116, 116, 112, 115, 58])
  · cases q2 : (x0.toList == [104, 116, 116, 112, 58])
    · go_wp2_with fail
      go_ret
      exact ⟨ret_bool (m1 key host _ H0.out (neq_of q1) (neq_of q2)).symm, rfl⟩
    · have hc : Hid (x0.data.toList = cHttps ∨ x0.data.toList = cHttp) := Or.inr (eq_of q2)
      go_wp2_with fail
      refine (field_any key 1 w hs).mono ?_
      rintro e w' ⟨⟨x1, h1, rfl⟩ | ⟨h1, rfl⟩, hw⟩
      case inr =>
        replace hw := hw.symm; subst hw
        have H1 : Hid ((sp key.data.toList)[1]? = Option.none) := h1
        clear h1
        go_wp2_with fail
        go_ret
        exact ⟨ret_bool (m2 key host H1.out).symm, rfl⟩
      replace hw := hw.symm; subst hw
      have H1 : Hid ((sp key.data.toList)[1]? = some x1.data.toList) := h1
      clear h1
      cases q3 : x1.toList.isEmpty
      · have hne : Hid (¬ x1.data.toList = []) := by
          intro e
          rw [toL, e] at q3
          simp at q3
        go_wp2_with fail
        go_ret
        exact ⟨ret_bool (m3 key host _ H1.out hne.out).symm, rfl⟩
      have he : Hid (x1.data.toList = []) := by
        show x1.data.toList = []
        rw [toL] at q3
        simpa using q3
      go_wp2_with fail
      refine (field_any key 2 w hs).mono ?_
      rintro e w' ⟨⟨x2, h2, rfl⟩ | ⟨h2, rfl⟩, hw⟩
      case inr =>
        replace hw := hw.symm; subst hw
        have H2 : Hid ((sp key.data.toList)[2]? = Option.none) := h2
        clear h2
        go_wp2_with fail
        go_ret
        exact ⟨ret_bool (m4 key host H2.out).symm, rfl⟩
      replace hw := hw.symm; subst hw
      have HU : Hid (ukn key host = same x2 host) := m5 key host x2 _ hc.out H0.out (by rw [H1.out, he.out]) h2
      clear h2
      go_wp2_with (go_at_call 14; refine (same_any _ _ _).mono ?_; rintro e w' ⟨rfl, hw⟩; replace hw := hw.symm; subst hw)
      go_ret
      exact ⟨ret_bool HU.out.symm, rfl⟩
  · have hc : Hid (x0.data.toList = cHttps ∨ x0.data.toList = cHttp) := Or.inl (eq_of q1)
    go_wp2_with fail
    refine (field_any key 1 w hs).mono ?_
    rintro e w' ⟨⟨x1, h1, rfl⟩ | ⟨h1, rfl⟩, hw⟩
    case inr =>
      replace hw := hw.symm; subst hw
      have H1 : Hid ((sp key.data.toList)[1]? = Option.none) := h1
      clear h1
      go_wp2_with fail
      go_ret
      exact ⟨ret_bool (m2 key host H1.out).symm, rfl⟩
    replace hw := hw.symm; subst hw
    have H1 : Hid ((sp key.data.toList)[1]? = some x1.data.toList) := h1
    clear h1
    cases q3 : x1.toList.isEmpty
    · have hne : Hid (¬ x1.data.toList = []) := by
        intro e
        rw [toL, e] at q3
        simp at q3
      go_wp2_with fail
      go_ret
      exact ⟨ret_bool (m3 key host _ H1.out hne.out).symm, rfl⟩
    have he : Hid (x1.data.toList = []) := by
      show x1.data.toList = []
      rw [toL] at q3
      simpa using q3
    go_wp2_with fail
    refine (field_any key 2 w hs).mono ?_
    rintro e w' ⟨⟨x2, h2, rfl⟩ | ⟨h2, rfl⟩, hw⟩
    case inr =>
      replace hw := hw.symm; subst hw
      have H2 : Hid ((sp key.data.toList)[2]? = Option.none) := h2
      clear h2
      go_wp2_with fail
      go_ret
      exact ⟨ret_bool (m4 key host H2.out).symm, rfl⟩
    replace hw := hw.symm; subst hw
    have HU : Hid (ukn key host = same x2 host) := m5 key host x2 _ hc.out H0.out (by rw [H1.out, he.out]) h2
    clear h2
    go_wp2_with (go_at_call 14; refine (same_any _ _ _).mono ?_; rintro e w' ⟨rfl, hw⟩; replace hw := hw.symm; subst hw)
    go_ret
    exact ⟨ret_bool HU.out.symm, rfl⟩

set_option maxHeartbeats 800000 in
theorem bytes2_ok (a b : ByteArray) (w : World) (h : a.size + b.size ≤ 1048576) :
    Calls Try.prog 6 #[.string a, .string b] w fun e w' => e = .returned (.bool true) ∧ w' = w := by
  go_enter Try.func6, Try.ntmps6
  go_wp2
  go_ret
  exact ⟨rfl, rfl⟩

set_option maxHeartbeats 1600000 in
theorem bytes2_no (a b : ByteArray) (w : World) (h : ¬ a.size + b.size ≤ 1048576) (h0 : a.size ≤ maxLen) (h1 : b.size ≤ maxLen) :
    Calls Try.prog 6 #[.string a, .string b] w fun e w' => e = .returned (.bool false) ∧ w' = w := by
  unfold maxLen at h0 h1
  by_cases g0 : a.size ≤ 1048576
  · by_cases g1 : b.size ≤ 1048576
    all_goals
      go_enter Try.func6, Try.ntmps6
      go_wp2
      go_ret
      exact ⟨rfl, rfl⟩
  · go_enter Try.func6, Try.ntmps6
    go_wp2
    go_ret
    exact ⟨rfl, rfl⟩

set_option maxHeartbeats 800000 in
theorem match_big (a b : ByteArray) (w : World) (h : ¬ a.size + b.size ≤ 1048576) (h0 : a.size ≤ maxLen) (h1 : b.size ≤ maxLen) :
    Calls Try.prog 3 #[.string a, .string b] w fun e w' => e = .returned (.bool true) ∧ Below w.heap.size w w' := by
  go_enter Try.func3, Try.ntmps3
  go_wp2_with (go_at_call 6; refine (bytes2_no a b w h h0 h1).mono ?_; rintro e w' ⟨rfl, hw⟩; replace hw := hw.symm; subst hw)
  go_ret
  exact ⟨rfl, Below.refl _ _⟩

set_option maxHeartbeats 800000 in
theorem match_small (a b : ByteArray) (w : World) (h : a.size + b.size ≤ 1048576) :
    Calls Try.prog 3 #[.string a, .string b] w fun e w' => e = .returned (.bool true) ∧ Below w.heap.size w w' := by
  go_enter Try.func3, Try.ntmps3
  go_wp2_with (go_at_call 6; refine (bytes2_ok a b w h).mono ?_; rintro e w' ⟨rfl, hw⟩; replace hw := hw.symm; subst hw)
  refine (zz_any a b w (by omega)).mono ?_
  rintro e w' ⟨rfl, n1, rfl⟩
  go_wp2_with (go_at_call 8; refine (model_any a b _ (by omega)).mono ?_; rintro e w' ⟨rfl, hw⟩; replace hw := hw.symm; subst hw)
  go_ret
  exact ⟨ret_bool (by simp), ⟨rfl, rfl, rfl, Nat.le_refl _, fun _ _ => rfl⟩⟩

end Go.Proofs.Qxb6601397a
