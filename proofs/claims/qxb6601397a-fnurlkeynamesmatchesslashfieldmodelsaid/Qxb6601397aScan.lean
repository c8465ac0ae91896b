import Derived.Test.Qxb6601397aField
namespace Go.Proofs.Qxb6601397a
open Go.RowKit

structure Inv (L : List UInt8) (n st f i : Nat) : Prop where
  lo : st ≤ i
  hi : i ≤ L.length
  fn : f ≤ n
  fi : f ≤ i
  drop : (sp L).drop f = sp (L.drop st)
  no : ∀ j, st ≤ j → j < i → L[j]? ≠ some 47

def seg (L : List UInt8) (st i : Nat) : List UInt8 := (L.drop st).take (i - st)

theorem seg_split (L : List UInt8) (st i : Nat) (h : st ≤ i) : L.drop st = seg L st i ++ L.drop i := by
  unfold seg
  have e := (List.take_append_drop (i - st) (L.drop st)).symm
  rw [List.drop_drop, show st + (i - st) = i by omega] at e
  exact e

theorem Inv.noseg {L : List UInt8} {n st f i : Nat} (h : Inv L n st f i) : (47 : UInt8) ∉ seg L st i := by
  intro hm
  unfold seg at hm
  obtain ⟨j, hj, e⟩ := List.getElem_of_mem hm
  have hj2 : j < i - st := by
    have := hj
    simp at this
    omega
  refine h.no (st + j) (by omega) (by omega) ?_
  have e2 : ((L.drop st).take (i - st))[j]? = some 47 := by rw [List.getElem?_eq_getElem hj, e]
  rw [List.getElem?_take_of_lt hj2, List.getElem?_drop] at e2
  exact e2

theorem Inv.start (L : List UInt8) (n : Nat) : Inv L n 0 0 0 := ⟨by omega, by omega, by omega, by omega, rfl, fun j _ h => by omega⟩

theorem Inv.on {L : List UInt8} {n st f i : Nat} (h : Inv L n st f i) (hi : i < L.length) (hb : L[i]? ≠ some 47) : Inv L n st f (i + 1) :=
  ⟨by have := h.lo; omega, by omega, h.fn, by have := h.fi; omega, h.drop, fun j h1 h2 => by
    rcases Nat.lt_or_ge j i with g | g
    · exact h.no j h1 g
    · have : j = i := by omega
      subst this; exact hb⟩

theorem Inv.head {L : List UInt8} {n st f i : Nat} (h : Inv L n st f i) (he : i = L.length ∨ L[i]? = some 47) :
    sp (L.drop st) = seg L st i :: (if i = L.length then [] else sp (L.drop (i + 1))) := by
  rw [seg_split L st i h.lo]
  by_cases hl : i = L.length
  · rw [if_pos hl, List.drop_eq_nil_of_le (by omega), List.append_nil]
    exact sp_seg _ h.noseg
  · rw [if_neg hl]
    have hb : L[i]? = some 47 := by
      rcases he with e | e
      · exact (hl e).elim
      · exact e
    have hi : i < L.length := (List.getElem?_eq_some_iff.1 hb).1
    have e : L.drop i = 47 :: L.drop (i + 1) := by
      rw [List.drop_eq_getElem_cons hi]
      congr 1
      exact (List.getElem?_eq_some_iff.1 hb).2
    rw [e]
    exact sp_app _ _ h.noseg

theorem Inv.found {L : List UInt8} {n st f i : Nat} (h : Inv L n st f i) (he : i = L.length ∨ L[i]? = some 47) (hf : f = n) : (sp L)[n]? = some (seg L st i) := by
  have e : ((sp L).drop f)[0]? = (sp L)[n]? := by rw [List.getElem?_drop, hf]; rfl
  rw [← e, h.drop, h.head he]
  rfl

theorem Inv.next {L : List UInt8} {n st f i : Nat} (h : Inv L n st f i) (hi : i < L.length) (hb : L[i]? = some 47) (hf : ¬ f = n) : Inv L n (i + 1) (f + 1) (i + 1) :=
  ⟨by omega, by omega, by have := h.fn; omega, by have := h.fi; omega, by
    have e : (sp L).drop (f + 1) = ((sp L).drop f).drop 1 := by rw [List.drop_drop]
    rw [e, h.drop, h.head (Or.inr hb), if_neg (by omega)]
    rfl, fun j h1 h2 => by omega⟩

theorem Inv.none {L : List UInt8} {n st f i : Nat} (h : Inv L n st f i) (hi : i = L.length) (hf : ¬ f = n) : (sp L)[n]? = none := by
  have e : (sp L).drop (f + 1) = [] := by
    have e : (sp L).drop (f + 1) = ((sp L).drop f).drop 1 := by rw [List.drop_drop]
    rw [e, h.drop, h.head (Or.inl hi), if_pos hi]
    rfl
  have hl := List.drop_eq_nil_iff.1 e
  have := h.fn
  exact List.getElem?_eq_none (by omega)

def Fl (s : ByteArray) (n : Nat) (w : World) (e : Ending) (w' : World) : Prop :=
  ((∃ x : ByteArray, (sp s.data.toList)[n]? = some x.data.toList ∧ e = .returned (.tuple #[.string x, .bool true])) ∨
   ((sp s.data.toList)[n]? = Option.none ∧ e = .returned (.tuple #[.string ⟨#[]⟩, .bool false]))) ∧ w' = w

theorem ext_seg (s : ByteArray) (st i : Nat) : (s.extract st i).data.toList = seg s.data.toList st i := by
  simp [seg, List.extract]

set_option maxRecDepth 100000 in
set_option maxHeartbeats 1600000 in
theorem field_any (s : ByteArray) (n : Nat) (w : World) (hs : s.size ≤ 2000000) :
    Calls Try.prog 13 #[.string s, .int .i64 (n : Int)] w (Fl s n w) := by
  have hL : s.data.toList.length = s.size := by simp
  have HL : Hid (s.data.toList.length = s.size) := hL
  clear hL
  go_enter Try.func13, Try.ntmps13
  go_wp2_with fail
  go_loopg [6, 7, 8] (s.size + 1) (fun g sa sf si wr => ∃ st f i : Nat, sa = .int .i64 (st : Int) ∧ sf = .int .i64 (f : Int) ∧ si = .int .i64 (i : Int) ∧ g = s.size + 1 - i ∧ f ≤ i ∧ i ≤ s.size + 1 ∧ st ≤ s.size + 1 ∧
    Hid ((i ≤ s.size ∧ Inv s.data.toList n st f i) ∨ (i = s.size + 1 ∧ (sp s.data.toList)[n]? = Option.none)) ∧ wr = w)
  case atStart => exact ⟨0, 0, 0, rfl, rfl, rfl, rfl, by omega, by omega, by omega, Or.inl ⟨by omega, Inv.start _ _⟩, rfl⟩
  case round =>
    obtain ⟨st, f, i, rfl, rfl, rfl, hg, hfi, hi, hst, H, hw⟩ := hrel
    have HG : Hid (gk = s.size + 1 - i) := hg
    clear hg
    replace hw := hw.symm
    subst hw
    rcases H.out with ⟨hle, hv⟩ | ⟨hie, hnone⟩
    · have HV : Hid (Inv s.data.toList n st f i) := hv
      have hlo : (st : Int) ≤ (i : Int) := by have := hv.lo; omega
      clear hv H
      have hle' : (i : Int) ≤ (s.size : Int) := by omega
      by_cases hend : i = s.size
      · have hend' : ((i : Int) == (s.size : Int)) = true := by simp [hend]
        have HE : Hid (i = s.size) := hend
        clear hend
        by_cases hf : f = n
        · have hf' : ((f : Int) == (n : Int)) = true := by simp [hf]
          have HF : Hid (f = n) := hf
          clear hf
          go_wp2_with fail
          go_ret2
          exact ⟨Or.inl ⟨_, (HV.out.found (Or.inl (by rw [HL.out]; exact HE.out)) HF.out).trans (by rw [ext_seg]), rfl⟩, rfl⟩
        · have hf' : ((f : Int) == (n : Int)) = false := by simp; omega
          have HF : Hid (¬ f = n) := hf
          clear hf
          go_wp2_with fail
          go_roundg (s.size + 1 - (i + 1))
          case measure => have := HG.out; omega
          case rel => exact ⟨i + 1, f + 1, i + 1, by go_num, by go_num, by go_num, rfl, by omega, by omega, by omega, Or.inr ⟨by have := HE.out; omega, HV.out.none (by rw [HL.out]; exact HE.out) HF.out⟩, rfl⟩
      · have hend' : ((i : Int) == (s.size : Int)) = false := by simp; omega
        have hlt : i < s.size := by omega
        have hlt' : (i : Int) < (s.size : Int) := by omega
        clear hend
        have hget : s.data.toList[i]? = some s[i] := by
          rw [List.getElem?_eq_getElem (by simpa using hlt)]
          simp
          rfl
        have HGET : Hid (s.data.toList[i]? = some s[i]) := hget
        clear hget
        cases hq : ((s[i].toNat : Int) == 47)
        · have hne : Hid (s.data.toList[i]? ≠ some 47) := by
            intro e
            rw [HGET.out] at e
            have e2 : s[i] = 47 := by simpa using e
            rw [e2] at hq
            simp at hq
          go_wp2_with fail
          go_roundg (s.size + 1 - (i + 1))
          case measure => have := HG.out; omega
          case rel => exact ⟨st, f, i + 1, rfl, rfl, by go_num, rfl, by omega, by omega, by omega, Or.inl ⟨by omega, HV.out.on (by rw [HL.out]; exact hlt) hne.out⟩, rfl⟩
        · have hyes : Hid (s.data.toList[i]? = some 47) := by
            show s.data.toList[i]? = some 47
            rw [HGET.out]
            congr 1
            have : (s[i].toNat : Int) = 47 := by simpa using hq
            apply UInt8.toNat_inj.1
            have h47 : (47 : UInt8).toNat = 47 := rfl
            omega
          by_cases hf : f = n
          · have hf' : ((f : Int) == (n : Int)) = true := by simp [hf]
            have HF : Hid (f = n) := hf
            clear hf
            go_wp2_with fail
            go_ret2
            exact ⟨Or.inl ⟨_, (HV.out.found (Or.inr hyes.out) HF.out).trans (by rw [ext_seg]), rfl⟩, rfl⟩
          · have hf' : ((f : Int) == (n : Int)) = false := by simp; omega
            have HF : Hid (¬ f = n) := hf
            clear hf
            go_wp2_with fail
            go_roundg (s.size + 1 - (i + 1))
            case measure => have := HG.out; omega
            case rel => exact ⟨i + 1, f + 1, i + 1, by go_num, by go_num, by go_num, rfl, by omega, by omega, by omega, Or.inl ⟨by omega, HV.out.next (by rw [HL.out]; exact hlt) hyes.out HF.out⟩, rfl⟩
    · have hgt : ¬ (i : Int) ≤ (s.size : Int) := by omega
      have HN : Hid ((sp s.data.toList)[n]? = Option.none) := hnone
      clear hnone H
      go_wp2_with fail
      go_ret2
      exact ⟨Or.inr ⟨HN.out, rfl⟩, rfl⟩

end Go.Proofs.Qxb6601397a
