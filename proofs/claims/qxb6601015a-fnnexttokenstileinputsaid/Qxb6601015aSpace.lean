import Derived.Test.Qxb6601015aDigits
import Derived.Test.Qxb6601015aComment
import Derived.Test.Qxb6601015aPlain
namespace Go.Proofs.Qxb6601015a
open Go.RowKit

theorem hasPrefix_is (s : ByteArray) (q : Nat) (p : ByteArray) (v : Bool) (h : pre2 s q p = v) (w : World) :
    Calls Try.prog 38 #[.string (s.extract q s.size), .string p] w fun e w' => e = .returned (.bool v) ∧ w' = w := by
  subst h; exact Try.strings_HasPrefix _ _ w
theorem nl_is (s : ByteArray) (q : Nat) (w : World) :
    Calls Try.prog 39 #[.string (s.extract q s.size), .int .u8 10] w fun e w' => e = .returned (.int .i64 (nlAt s q)) ∧ w' = w :=
  Try.strings_IndexByte _ _ w
theorem com_is (s : ByteArray) (q : Nat) (hs : s.size ≤ 65536) (w : World) :
    Calls Try.prog 41 #[.string (s.extract q s.size)] w fun e w' => e = .returned (.int .i64 (comEnd (s.extract q s.size))) ∧ w' = w :=
  commentEnd_any _ w (by rw [ByteArray.size_extract]; omega)

theorem quiet_same2 {P : Program} {f : FuncId} {args : Array Value} {w : World} {n k : Nat} {v : Value}
    (h : Calls P f args (w.drewN (k + n)) fun e w' => e = .returned v ∧ w' = w.drewN (k + n)) : Calls P f args (w.drewN (k + n)) fun e w'' => e = .returned v ∧ ∃ m, w'' = w.drewN (k + m) :=
  h.mono fun _ _ ⟨he, hm⟩ => ⟨he, n, hm⟩

def skpF (s : ByteArray) : Nat → Nat → Nat
  | 0, q => q
  | f + 1, q =>
    if q < s.size then
      (if spcB (byteAt s q) = true then skpF s f (q + 1)
       else if pre2 s q ⟨#[45, 45]⟩ = true then (if nlAt s q < 0 then skpF s f s.size else skpF s f (q + (nlAt s q).toNat))
       else if pre2 s q ⟨#[47, 42]⟩ = true then (if comEnd (s.extract q s.size) < 0 then q else skpF s f (q + (comEnd (s.extract q s.size)).toNat))
       else q)
    else q
def skp (s : ByteArray) (p : Nat) : Nat := skpF s s.size p

theorem com_bd (s : ByteArray) (q : Nat) : comEnd (s.extract q s.size) < 0 ∨ (1 ≤ comEnd (s.extract q s.size) ∧ comEnd (s.extract q s.size) ≤ (s.size - q : Nat)) := by
  have hcb := comEnd_bd (s.extract q s.size)
  rw [show (s.extract q s.size).size = s.size - q by rw [ByteArray.size_extract]; omega] at hcb
  omega

theorem skpF_out (s : ByteArray) (f q : Nat) (h : ¬ q < s.size) : skpF s f q = q := by
  cases f with
  | zero => rfl
  | succ f => rw [skpF, if_neg h]
theorem skpF_spc (s : ByteArray) (f q : Nat) (h : q < s.size) (h1 : spcB (byteAt s q) = true) : skpF s (f + 1) q = skpF s f (q + 1) := by
  rw [skpF, if_pos h, if_pos h1]
theorem skpF_end (s : ByteArray) (f q : Nat) (h : q < s.size) (h1 : spcB (byteAt s q) = false) (h2 : pre2 s q ⟨#[45, 45]⟩ = true) (h3 : nlAt s q < 0) : skpF s (f + 1) q = skpF s f s.size := by
  rw [skpF, if_pos h, if_neg (by simp [h1]), if_pos h2, if_pos h3]
theorem skpF_nl (s : ByteArray) (f q : Nat) (h : q < s.size) (h1 : spcB (byteAt s q) = false) (h2 : pre2 s q ⟨#[45, 45]⟩ = true) (h3 : ¬ nlAt s q < 0) : skpF s (f + 1) q = skpF s f (q + (nlAt s q).toNat) := by
  rw [skpF, if_pos h, if_neg (by simp [h1]), if_pos h2, if_neg h3]
theorem skpF_open (s : ByteArray) (f q : Nat) (h : q < s.size) (h1 : spcB (byteAt s q) = false) (h2 : pre2 s q ⟨#[45, 45]⟩ = false) (h3 : pre2 s q ⟨#[47, 42]⟩ = true) (h4 : comEnd (s.extract q s.size) < 0) : skpF s (f + 1) q = q := by
  rw [skpF, if_pos h, if_neg (by simp [h1]), if_neg (by simp [h2]), if_pos h3, if_pos h4]
theorem skpF_com (s : ByteArray) (f q : Nat) (h : q < s.size) (h1 : spcB (byteAt s q) = false) (h2 : pre2 s q ⟨#[45, 45]⟩ = false) (h3 : pre2 s q ⟨#[47, 42]⟩ = true) (h4 : ¬ comEnd (s.extract q s.size) < 0) : skpF s (f + 1) q = skpF s f (q + (comEnd (s.extract q s.size)).toNat) := by
  rw [skpF, if_pos h, if_neg (by simp [h1]), if_neg (by simp [h2]), if_pos h3, if_neg h4]
theorem skpF_stop (s : ByteArray) (f q : Nat) (h : q < s.size) (h1 : spcB (byteAt s q) = false) (h2 : pre2 s q ⟨#[45, 45]⟩ = false) (h3 : pre2 s q ⟨#[47, 42]⟩ = false) : skpF s (f + 1) q = q := by
  rw [skpF, if_pos h, if_neg (by simp [h1]), if_neg (by simp [h2]), if_neg (by simp [h3])]

theorem skpF_bd (s : ByteArray) (f : Nat) : ∀ q, q ≤ s.size → q ≤ skpF s f q ∧ skpF s f q ≤ s.size := by
  induction f with
  | zero => intro q h; exact ⟨Nat.le_refl _, h⟩
  | succ f ih =>
    intro q h
    unfold skpF
    split
    · have hn := nl_bd s q
      have hc := com_bd s q
      split
      · have := ih (q + 1) (by omega); omega
      · split
        · split
          · have := ih s.size (by omega); omega
          · have := ih (q + (nlAt s q).toNat) (by omega); omega
        · split
          · split
            · omega
            · have := ih (q + (comEnd (s.extract q s.size)).toNat) (by omega); omega
          · omega
    · omega
theorem skp_bd (s : ByteArray) (p : Nat) (h : p ≤ s.size) : p ≤ skp s p ∧ skp s p ≤ s.size := skpF_bd s _ p h

set_option maxRecDepth 100000 in
set_option maxHeartbeats 1600000 in
theorem skipSpace_any (s : ByteArray) (p b : Nat) (w : World) (hs : s.size ≤ 65536) (hp : p ≤ s.size)
    (h0 : w.cell? ⟨b, 0, none⟩ = some (.string s)) (h1 : w.cell? ⟨b, 1, none⟩ = some (.int .i64 (p : Int))) (hf : w.frozen? ⟨b, 1, none⟩ = false) :
    Calls Try.prog 32 #[.pointer (some ⟨b, 0, none⟩)] w fun e w' => e = .returned (.tuple #[]) ∧ At b w w' (skp s p) := by
  go_enter Try.func32, Try.ntmps32
  go_wp2_with fail
  go_loopg [2, 3] (s.size - p) (fun k _ _ wr => ∃ q f : Nat, p ≤ q ∧ q ≤ s.size ∧ k = s.size - q ∧ s.size - q ≤ f ∧ skpF s f q = skp s p ∧ At b w wr q)
  case atStart => exact ⟨p, s.size, Nat.le_refl _, hp, rfl, by omega, rfl, Only.refl _ _, h1⟩
  case round =>
    obtain ⟨q, f, hq1, hq2, hk, hfu, hsk, ha⟩ := hrel
    have hc0 := ha.cell0 h0
    have hc1 := ha.2
    have hfr := ha.froz hf
    have HA : Hid (At b w wr q) := ha
    have HK : Hid (gk = s.size - q) := hk
    have HF : Hid (skpF s f q = skp s p) := hsk
    clear ha hk h0 h1 hf hsk
    by_cases hlt : q < s.size
    · have hlt' : (q : Int) < (s.size : Int) := by omega
      obtain ⟨f, rfl⟩ : ∃ g, f = g + 1 := ⟨f - 1, by omega⟩
      cases hsp : spcB (s[q].toNat : Int)
      · cases hd1 : pre2 s q ⟨#[45, 45]⟩
        · cases hd2 : pre2 s q ⟨#[47, 42]⟩
          · go_wp2_with fail
            go_quiet (fail)
            go_wp2_with fail
            go_quiet ((go_at_call 40; exact quiet_same2 (isSpace_is _ _ hsp _)))
            go_wp2_with fail
            go_quiet ((go_at_call 38; exact quiet_same2 (hasPrefix_is s q _ _ hd1 _)))
            go_wp2_with fail
            go_quiet ((go_at_call 38; exact quiet_same2 (hasPrefix_is s q _ _ hd2 _)))
            go_wp2_with fail
            refine bodyPost_ret (results_none rfl _ _ _) rfl ?_
            have e := (skpF_stop s f q hlt (by rw [byteAt_eq s q hlt]; exact hsp) hd1 hd2).symm.trans HF.out
            rw [← e]
            exact ⟨rfl, (((HA.out.drewN _).drewN _).drewN _).drewN _⟩
          · have hcb := com_bd s q
            rcases hcb with hneg | ⟨hcb1, hcb2⟩
            · skip
              go_wp2_with fail
              go_quiet (fail)
              go_wp2_with fail
              go_quiet ((go_at_call 40; exact quiet_same2 (isSpace_is _ _ hsp _)))
              go_wp2_with fail
              go_quiet ((go_at_call 38; exact quiet_same2 (hasPrefix_is s q _ _ hd1 _)))
              go_wp2_with fail
              go_quiet ((go_at_call 38; exact quiet_same2 (hasPrefix_is s q _ _ hd2 _)))
              go_wp2_with fail
              go_quiet ((go_at_call 41; exact quiet_same2 (com_is s q hs _)))
              go_wp2_with fail
              refine bodyPost_ret (results_none rfl _ _ _) rfl ?_
              have e := (skpF_open s f q hlt (by rw [byteAt_eq s q hlt]; exact hsp) hd1 hd2 hneg).symm.trans HF.out
              rw [← e]
              exact ⟨rfl, HA.out.drewN _⟩
            · have hneg : ¬ comEnd (s.extract q s.size) < 0 := by omega
              go_wp2_with fail
              go_quiet (fail)
              go_wp2_with fail
              go_quiet ((go_at_call 40; exact quiet_same2 (isSpace_is _ _ hsp _)))
              go_wp2_with fail
              go_quiet ((go_at_call 38; exact quiet_same2 (hasPrefix_is s q _ _ hd1 _)))
              go_wp2_with fail
              go_quiet ((go_at_call 38; exact quiet_same2 (hasPrefix_is s q _ _ hd2 _)))
              go_wp2_with fail
              go_quiet ((go_at_call 41; exact quiet_same2 (com_is s q hs _)))
              go_wp2_with fail
              go_roundg (s.size - (q + (comEnd (s.extract q s.size)).toNat))
              case measure => have := HK.out; omega
              case rel => exact ⟨q + (comEnd (s.extract q s.size)).toNat, f, by omega, by omega, rfl, by omega, (skpF_com s f q hlt (by rw [byteAt_eq s q hlt]; exact hsp) hd1 hd2 (by omega)).symm.trans HF.out, (HA.out.drewN _).set (by omega)⟩
        · rcases nl_bd s q with hneg | ⟨hn1, hn2⟩
          · go_wp2_with fail
            go_quiet (fail)
            go_wp2_with fail
            go_quiet ((go_at_call 40; exact quiet_same2 (isSpace_is _ _ hsp _)))
            go_wp2_with fail
            go_quiet ((go_at_call 38; exact quiet_same2 (hasPrefix_is s q _ _ hd1 _)))
            go_wp2_with fail
            go_quiet ((go_at_call 39; exact quiet_same2 (nl_is s q _)))
            go_wp2_with fail
            go_roundg 0
            case measure => have := HK.out; omega
            case rel => exact ⟨s.size, f, by omega, by omega, by omega, by omega, (skpF_end s f q hlt (by rw [byteAt_eq s q hlt]; exact hsp) hd1 hneg).symm.trans HF.out, (HA.out.drewN _).set rfl⟩
          · have hnz := nl_pos s q hd1
            have hn3 : 1 ≤ nlAt s q := by omega
            have hneg : ¬ nlAt s q < 0 := by omega
            clear hnz
            go_wp2_with fail
            go_quiet (fail)
            go_wp2_with fail
            go_quiet ((go_at_call 40; exact quiet_same2 (isSpace_is _ _ hsp _)))
            go_wp2_with fail
            go_quiet ((go_at_call 38; exact quiet_same2 (hasPrefix_is s q _ _ hd1 _)))
            go_wp2_with fail
            go_quiet ((go_at_call 39; exact quiet_same2 (nl_is s q _)))
            go_wp2_with fail
            go_roundg (s.size - (q + (nlAt s q).toNat))
            case measure => have := HK.out; omega
            case rel => exact ⟨q + (nlAt s q).toNat, f, by omega, by omega, rfl, by omega, (skpF_nl s f q hlt (by rw [byteAt_eq s q hlt]; exact hsp) hd1 (by omega)).symm.trans HF.out, (HA.out.drewN _).set (by omega)⟩
      · go_wp2_with fail
        go_quiet (fail)
        go_wp2_with fail
        go_quiet ((go_at_call 40; exact quiet_same2 (isSpace_is _ _ hsp _)))
        go_wp2
        go_roundg (s.size - (q + 1))
        case measure => have := HK.out; omega
        case rel => exact ⟨q + 1, f, by omega, by omega, rfl, by omega, (skpF_spc s f q hlt (by rw [byteAt_eq s q hlt]; exact hsp)).symm.trans HF.out, (HA.out.drewN _).set (by omega)⟩
    · have hlt' : decide ((q : Int) < (s.size : Int)) = false := by simp; omega
      go_wp2_with fail
      go_quiet (fail)
      go_wp2
      go_end0
      have e := (skpF_out s f q hlt).symm.trans HF.out
      rw [← e]
      exact ⟨rfl, HA.out.drewN _⟩

end Go.Proofs.Qxb6601015a
