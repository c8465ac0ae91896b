import Derived.Test.Qxb6601015aZZ
import Derived.RowKit3
namespace Go.Proofs.Qxb6601015a
open Go.RowKit

set_option maxRecDepth 100000 in
set_option maxHeartbeats 1600000 in
theorem top_long (s : ByteArray) (w : World) (h : ¬ s.size ≤ 65536) (hm : s.size ≤ maxLen) :
    Calls Try.prog 9 #[.string s] w fun e w' => e = .returned (.bool true) ∧ Below w.heap.size w w' := by
  unfold maxLen at hm
  by_cases h2 : s.size ≤ 1048576
  all_goals
    go_enter Try.func9, Try.ntmps9
    go_wp2
    go_ret
    exact ⟨rfl, Below.refl _ _⟩

theorem below_drewN {B : Nat} {a w : World} (h : Below B a w) (n : Nat) : Below B a (w.drewN n) := ⟨h.os, h.tape, h.output, h.size, h.block⟩
theorem bneq {a b : Int} (h : a = b) : (a != b) = false := by simp [h]

set_option maxHeartbeats 400000 in
theorem zzB_any (s : ByteArray) (w : World) (h : s.size ≤ 65536) :
    Calls Try.prog 26 #[.string s] w fun e w' => e = .returned (.bool true) ∧ w' = w := by
  go_enter Try.func26, Try.ntmps26
  go_wp2
  go_ret
  exact ⟨rfl, rfl⟩

set_option maxRecDepth 100000 in
set_option maxHeartbeats 1600000 in
theorem top_short (s : ByteArray) (w : World) (h : s.size ≤ 65536) :
    Calls Try.prog 9 #[.string s] w fun e w' => e = .returned (.bool true) ∧ Below w.heap.size w w' := by
  go_enter Try.func9, Try.ntmps9
  go_wp2_with (go_at_call 26; refine (zzB_any _ _ h).mono ?_; rintro e w' ⟨rfl, hw⟩; replace hw := hw.symm; subst hw)
  go_loopg [3, 4] (s.size + 1) (fun k p c wr => ∃ (pn cn : Nat), p = .int .i64 (pn : Int) ∧ c = .int .i64 (cn : Int) ∧ cn ≤ pn ∧ pn ≤ s.size ∧ k = s.size + 1 - cn ∧ Below w.heap.size w wr)
  case atStart => exact ⟨0, 0, rfl, rfl, by omega, by omega, by omega, Below.refl _ _⟩
  case round =>
    obtain ⟨p, c, rfl, rfl, hcp, hps, hk, hbl⟩ := hrel
    have HB : Hid (Below w.heap.size w wr) := hbl
    have HK : Hid (gk = s.size + 1 - c) := hk
    clear hbl hk
    go_wp2_with fail
    refine (zz_any s p wr h hps).mono ?_
    rintro e w1 ⟨k, st, q, T, rfl, hT, h1, h2, h3, h4, h5⟩
    have HB1 : Hid (Below wr.heap.size wr w1) := h5
    clear h5
    rcases h4 with ⟨rfl, hst⟩ | ⟨hk1, hk2, hsq⟩
    · have hq : q = s.size := by omega
      have hTe : T = ⟨#[]⟩ := by rw [hT, hst, hq]; exact (ext_end s s.size).symm
      clear hT
      subst hst hq hTe
      have hps' : (p : Int) ≤ (s.size : Int) := by omega
      go_wp2_with fail
      refine (zz_any s s.size _ h (Nat.le_refl _)).mono ?_
      rintro e w2 ⟨k2, st2, q2, T2, rfl, hT2, g1, g2, g3, g4, g5⟩
      have hst2 : st2 = s.size := by omega
      have hq2 : q2 = s.size := by omega
      have hk2 : k2 = 0 := by omega
      have hTe2 : T2 = ⟨#[]⟩ := by rw [hT2, hst2, hq2]; exact (ext_end s s.size).symm
      clear hT2 g4
      subst hst2 hq2 hTe2 hk2
      have HB2 : Hid (Below (w1.alloc (.cells #[.int .i64 0, .string ⟨#[]⟩, .int .i64 (s.size : Int)] 25)).heap.size (w1.alloc (.cells #[.int .i64 0, .string ⟨#[]⟩, .int .i64 (s.size : Int)] 25)) w2) := g5
      clear g5
      go_wp2_with fail
      go_ret
      have e1 := (HB.out.trans (HB1.out.mono HB.out.size)).alloc (by have := HB.out.size; have := HB1.out.size; omega) (.cells #[.int .i64 0, .string ⟨#[]⟩, .int .i64 (s.size : Int)] 25)
      have e2 := e1.trans (HB2.out.mono (by have := e1.size; omega))
      exact ⟨rfl, e2.alloc e2.size _⟩
    · have hk0 : (k == 0) = false := by simp; omega
      have hTs : T.size = q - st := by rw [hT, ByteArray.size_extract]; omega
      have hTl : ((s.extract st q).toList == T.toList) = true := by rw [hT]; simp
      have ht1 : ((T.size : Int) == 0) = false := bf (by omega)
      have ht2 : ((q : Int) != (st : Int) + (T.size : Int)) = false := bneq (by omega)
      have ht3 : (T.size : Int) ≤ 65536 := by omega
      have ht4 : (st : Int) ≤ 65536 := by omega
      clear hT hTs
      go_wp2_with fail
      go_quiet (fail)
      go_wp2_with fail
      go_roundg (s.size + 1 - (c + 1))
      case measure => have := HK.out; omega
      case rel =>
        exact ⟨q, c + 1, rfl, by go_num, by omega, h3, rfl, below_drewN ((HB.out.trans (HB1.out.mono HB.out.size)).alloc (by have := HB.out.size; have := HB1.out.size; omega) _) _⟩

end Go.Proofs.Qxb6601015a
