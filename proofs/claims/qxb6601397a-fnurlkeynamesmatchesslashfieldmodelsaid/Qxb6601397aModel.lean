import Derived.Test.Qxb6601397aScan
namespace Go.Proofs.Qxb6601397a
open Go.RowKit

def cHttps : List UInt8 := [104, 116, 116, 112, 115, 58]
def cHttp : List UInt8 := [104, 116, 116, 112, 58]

theorem ba_ext {a b : ByteArray} (h : a.data.toList = b.data.toList) : a = b := by
  apply ByteArray.ext
  exact Array.toList_inj.1 h

theorem has_sp (key p : ByteArray) (c : List UInt8) (hp : p.data.toList = c ++ [47, 47]) (hc : (47 : UInt8) ∉ c) (h : has key p = true) :
    sp key.data.toList = c :: [] :: sp (tail1 key p).data.toList := by
  unfold has Lib.hasPrefix at h
  obtain ⟨r, hr⟩ := List.isPrefixOf_iff_prefix.1 h
  have ht : (tail1 key p).data.toList = r := by
    unfold tail1 Lib.trimPrefix
    have h2 : Lib.hasPrefix key.data.toList p.data.toList = true := h
    rw [if_pos h2, ← hr, List.drop_left]
  rw [ht, ← hr, hp]
  have e : c ++ [47, 47] ++ r = c ++ 47 :: ([] ++ 47 :: r) := by simp
  rw [e, sp_app _ _ hc, sp_app _ _ (by simp)]

theorem sp_has (key p : ByteArray) (c : List UInt8) (hp : p.data.toList = c ++ [47, 47]) (t : List (List UInt8)) (ht : t ≠ []) (h : sp key.data.toList = c :: [] :: t) :
    has key p = true ∧ sp (tail1 key p).data.toList = t := by
  have hp2 : ∃ r, key.data.toList = c ++ [47, 47] ++ r ∧ sp r = t := by
    rcases sp_cases key.data.toList with ⟨_, e⟩ | ⟨a, r, hl, _, e⟩
    · rw [e] at h; simp at h
    · rw [e] at h
      obtain ⟨h1, h2⟩ := List.cons.inj h
      rcases sp_cases r with ⟨_, e2⟩ | ⟨a2, r2, hl2, _, e2⟩
      · rw [e2] at h2
        obtain ⟨_, h3⟩ := List.cons.inj h2
        exact (ht h3.symm).elim
      · rw [e2] at h2
        obtain ⟨h3, h4⟩ := List.cons.inj h2
        exact ⟨r2, by rw [hl, hl2, h1, h3]; simp, h4⟩
  obtain ⟨r, hr, hs⟩ := hp2
  have hh : has key p = true := by
    unfold has Lib.hasPrefix
    rw [List.isPrefixOf_iff_prefix, hp, hr]
    exact List.prefix_append _ _
  refine ⟨hh, ?_⟩
  have h2 : Lib.hasPrefix key.data.toList p.data.toList = true := hh
  unfold tail1 Lib.trimPrefix
  rw [if_pos h2, hr, hp, List.drop_left]
  exact hs

theorem p_https : sHttps.data.toList = cHttps ++ [47, 47] := rfl
theorem p_http : sHttp.data.toList = cHttp ++ [47, 47] := rfl
theorem n_https : (47 : UInt8) ∉ cHttps := by decide
theorem n_http : (47 : UInt8) ∉ cHttp := by decide

theorem ukn_no (key host : ByteArray) (h : ∀ c t, (c = cHttps ∨ c = cHttp) → t ≠ [] → sp key.data.toList ≠ c :: [] :: t) : ukn key host = false := by
  unfold ukn
  have h1 : ¬ has key sHttps = true := fun e => by
    obtain ⟨a, t, ea⟩ := sp_ne (tail1 key sHttps).data.toList
    exact h cHttps _ (Or.inl rfl) (by rw [ea]; simp) (has_sp key sHttps cHttps p_https n_https e)
  have h2 : ¬ has key sHttp = true := fun e => by
    obtain ⟨a, t, ea⟩ := sp_ne (tail1 key sHttp).data.toList
    exact h cHttp _ (Or.inr rfl) (by rw [ea]; simp) (has_sp key sHttp cHttp p_http n_http e)
  rw [if_neg h1, if_neg h2]

theorem m1 (key host : ByteArray) (x : List UInt8) (h : (sp key.data.toList)[0]? = some x) (h1 : ¬ x = cHttps) (h2 : ¬ x = cHttp) : ukn key host = false := by
  refine ukn_no key host fun c t hc _ e => ?_
  rw [e] at h
  simp at h
  rcases hc with rfl | rfl
  · exact h1 h.symm
  · exact h2 h.symm
theorem m2 (key host : ByteArray) (h : (sp key.data.toList)[1]? = Option.none) : ukn key host = false := by
  refine ukn_no key host fun c t _ _ e => ?_
  rw [e] at h
  simp at h
theorem m3 (key host : ByteArray) (x : List UInt8) (h : (sp key.data.toList)[1]? = some x) (h1 : ¬ x = []) : ukn key host = false := by
  refine ukn_no key host fun c t _ _ e => ?_
  rw [e] at h
  simp at h
  exact h1 h
theorem m4 (key host : ByteArray) (h : (sp key.data.toList)[2]? = Option.none) : ukn key host = false := by
  refine ukn_no key host fun c t _ ht e => ?_
  rw [e] at h
  simp at h
  exact ht h
theorem m5 (key host x : ByteArray) (c : List UInt8) (hc : c = cHttps ∨ c = cHttp) (h0 : (sp key.data.toList)[0]? = some c) (h1 : (sp key.data.toList)[1]? = some []) (h2 : (sp key.data.toList)[2]? = some x.data.toList) :
    ukn key host = same x host := by
  have hs : ∃ t, sp key.data.toList = c :: [] :: x.data.toList :: t := by
    generalize sp key.data.toList = l at h0 h1 h2
    match l, h0, h1, h2 with
    | a :: b :: d :: t, h0, h1, h2 =>
      simp at h0 h1 h2
      exact ⟨t, by rw [h0, h1, h2]⟩
  obtain ⟨t, ht⟩ := hs
  have key2 : ∀ p, has key p = true → sp (tail1 key p).data.toList = x.data.toList :: t → same (bef (tail1 key p)) host = same x host := by
    intro p _ e
    obtain ⟨t2, e2⟩ := sp_bef (tail1 key p)
    rw [e2] at e
    rw [ba_ext (List.cons.inj e).1]
  unfold ukn
  rcases hc with rfl | rfl
  · obtain ⟨g1, g2⟩ := sp_has key sHttps cHttps p_https _ (by simp) ht
    rw [if_pos g1]
    exact key2 _ g1 g2
  · have hno : ¬ has key sHttps = true := fun e => by
      have := has_sp key sHttps cHttps p_https n_https e
      rw [ht] at this
      exact absurd (List.cons.inj this).1 (by decide)
    obtain ⟨g1, g2⟩ := sp_has key sHttp cHttp p_http _ (by simp) ht
    rw [if_neg hno, if_pos g1]
    exact key2 _ g1 g2

def hubB (s : ByteArray) : Bool := s.toList == sDoc.data.toList || s.toList == sIdx.data.toList || s.toList == sReg.data.toList

theorem toL (s : ByteArray) : s.toList = s.data.toList := ByteArray.toList_eq s
theorem list_iff (x y : ByteArray) : (x.toList == y.data.toList) = true ↔ x = y := by
  rw [toL x]
  simp only [beq_iff_eq]
  exact ⟨ba_ext, fun h => by rw [h]⟩
theorem hub_iff (a : ByteArray) : hubB a = true ↔ (a = sDoc ∨ a = sIdx ∨ a = sReg) := by
  unfold hubB
  rw [Bool.or_eq_true, Bool.or_eq_true, list_iff, list_iff, list_iff, or_assoc]
theorem canon_hub (a : ByteArray) (h : hubB a = true) : canon a = sDoc := by
  unfold canon
  by_cases h1 : (a.toList == sIdx.data.toList) = true
  · rw [if_pos h1]
  · rw [if_neg h1]
    by_cases h2 : (a.toList == sReg.data.toList) = true
    · rw [if_pos h2]
    · rw [if_neg h2]
      rcases (hub_iff a).1 h with e | e | e
      · exact e
      · exact (h1 ((list_iff _ _).2 e)).elim
      · exact (h2 ((list_iff _ _).2 e)).elim
theorem canon_not (a : ByteArray) (h : ¬ hubB a = true) : canon a = a := by
  unfold canon
  rw [if_neg fun e => h ((hub_iff a).2 (Or.inr (Or.inl ((list_iff _ _).1 e)))), if_neg fun e => h ((hub_iff a).2 (Or.inr (Or.inr ((list_iff _ _).1 e))))]
theorem hub_doc : hubB sDoc = true := (hub_iff _).2 (Or.inl rfl)

theorem same_is (a b : ByteArray) : same a b = (a.toList == b.toList || (hubB a && hubB b)) := by
  have hs : same a b = true ↔ canon a = canon b := by
    unfold same
    rw [toL (canon b), list_iff]
  have hr : (a.toList == b.toList || (hubB a && hubB b)) = true ↔ (a = b ∨ (hubB a = true ∧ hubB b = true)) := by
    rw [toL b, Bool.or_eq_true, list_iff, Bool.and_eq_true]
  rw [Bool.eq_iff_iff, hs, hr]
  constructor
  · intro e
    by_cases ha : hubB a = true
    · by_cases hb : hubB b = true
      · exact Or.inr ⟨ha, hb⟩
      · exfalso
        rw [canon_hub a ha, canon_not b hb] at e
        exact hb (e ▸ hub_doc)
    · by_cases hb : hubB b = true
      · exfalso
        rw [canon_not a ha, canon_hub b hb] at e
        exact ha (e.symm ▸ hub_doc)
      · rw [canon_not a ha, canon_not b hb] at e
        exact Or.inl e
  · rintro (rfl | ⟨ha, hb⟩)
    · rfl
    · rw [canon_hub a ha, canon_hub b hb]

set_option maxHeartbeats 400000 in
theorem hub_any (s : ByteArray) (w : World) :
    Calls Try.prog 18 #[.string s] w fun e w' => e = .returned (.bool (hubB s)) ∧ w' = w := by
  go_enter Try.func18, Try.ntmps18
  go_wp2
  all_goals
    go_ret
    refine ⟨ret_bool ?_, rfl⟩
    first | (simp [hubB, sDoc, sIdx, sReg, *]; done) | (exfalso; simp_all; done)

set_option maxHeartbeats 400000 in
theorem same_any (a b : ByteArray) (w : World) :
    Calls Try.prog 14 #[.string a, .string b] w fun e w' => e = .returned (.bool (same a b)) ∧ w' = w := by
  rw [same_is]
  go_enter Try.func14, Try.ntmps14
  go_wp2_with (go_at_call 18; refine (hub_any _ _).mono ?_; rintro e w' ⟨rfl, hw⟩; replace hw := hw.symm; subst hw)
  all_goals
    go_ret
    refine ⟨ret_bool ?_, rfl⟩
    first | (simp [*]; done) | (exfalso; simp_all; done)

end Go.Proofs.Qxb6601397a
