import Derived.Test.Qxb6601282aPlain
import Derived.WalkKit
import Derived.WalkSpells
import Derived.WalkLawsBesides
import Derived.Outline
import Derived.Deep.LoopGhost
namespace Go.Proofs.Qxb6601282a
open Go.RowKit

theorem ret_i64 {a b : Int} (h : a = b) : Ending.returned (.int .i64 a) = .returned (.int .i64 b) := by rw [h]

theorem idx_at (D : List Int) (g n cap j m : Nat) (w : World) (hn : D.length = n) (hcell : ∀ k, k < n → w.cell? ⟨g, k, none⟩ = some (.int .u8 (D.getD k 0))) (h : Lib.indexByte (Lib.bytesOf (D.drop (j + 1))) 34 = (m : Int)) :
    Calls Try.prog 22 #[.slice (some ⟨g, j + 1, none⟩) (n - (j + 1)) (cap - (j + 1)), .int .u8 34] w fun e w' => e = .returned (.int .i64 (m : Int)) ∧ w' = w := by
  refine (Try.bytes_IndexByte g (j + 1) (n - (j + 1)) (cap - (j + 1)) (D.drop (j + 1)) 34 w (by simp [hn]) ?_).mono ?_
  · intro i hi
    rw [hcell (j + 1 + i) (by omega), List.getD_eq_getElem?_getD, List.getD_eq_getElem?_getD, List.getElem?_drop]
  · rintro e w' ⟨rfl, rfl⟩
    refine ⟨?_, rfl⟩
    have e : Lib.indexByte (Lib.bytesOf (D.drop (j + 1))) (34 : Int).toNat.toUInt8 = (m : Int) := h
    rw [e]

set_option maxRecDepth 100000 in
set_option maxHeartbeats 800000 in
theorem skip_any (D : List Int) (g n cap i : Nat) (v tail : List Int) (w : World) (hn : D.length = n) (hcap : n ≤ cap) (hsz : n ≤ 4000000) (hB : isB D)
    (hcell : ∀ k, k < n → w.cell? ⟨g, k, none⟩ = some (.int .u8 (D.getD k 0))) (hd : D.drop i = 34 :: (qt v ++ 34 :: tail)) :
    Calls Try.prog 19 #[.slice (some ⟨g, 0, none⟩) n cap, .int .i64 (i : Int)] w fun e w' => e = .returned (.int .i64 ((i + (qt v).length + 1 : Nat) : Int)) ∧ w' = w := by
  obtain ⟨T, hT⟩ : ∃ T, i + (qt v).length + 1 = T := ⟨_, rfl⟩
  rw [hT]
  go_enter Try.func19, Try.ntmps19
  go_wp2_with fail
  go_loopg [1, 5, 6, 7] v.length (fun k si _ _ _ wr => ∃ (j : Nat) (u : List Int), si = .int .i64 (j : Int) ∧ k = u.length ∧ Hid (D.drop j = 34 :: (qt u ++ 34 :: tail) ∧ j + (qt u).length + 1 = T) ∧ wr = w)
  case atStart => exact ⟨i, v, rfl, rfl, ⟨hd, hT⟩, rfl⟩
  case round =>
    clear hd hT
    obtain ⟨j, u, rfl, hk, hdT, rfl⟩ := hrel
    have HK : Hid (gk = u.length) := hk
    clear hk
    obtain ⟨m, R, hm1, hm2, hm3, hm4, hm5, hm6⟩ := step D u tail j T hdT.out.1 hdT.out.2 hB
    clear hdT
    have HI : Hid (Lib.indexByte (Lib.bytesOf (D.drop (j + 1))) 34 = (m : Int)) := hm1
    have H6 : Hid _ := hm6
    have HR : Hid (R.length = m + 1) := hm3
    have H4 : Hid _ := hm4
    have H5 : Hid (R.getD m 0 = 34) := hm5
    clear hm1 hm3 hm4 hm5 hm6
    have hj0 : j + 1 + m < n := by omega
    have hj1 : (j : Int) + 1 < (n : Int) := by omega
    have hj2 : (j : Int) + 1 < (cap : Int) := by omega
    go_wp2_with fail
    refine (idx_at D g n cap j m wr hn hcell HI.out).mono ?_
    rintro e w' ⟨rfl, hw⟩
    replace hw := hw.symm
    subst hw
    have HC : Hid _ := hcell
    clear hcell
    go_wp2_with fail
    go_loopg [6, 7] (m + 1) (fun k sc sj wx => ∃ c z : Nat, sc = .int .i64 (c : Int) ∧ sj = .int .i64 (z : Int) ∧ z + c = j + m ∧ c ≤ m ∧ k = m + 1 - c ∧ Hid (∀ t, t < c → R.getD t 0 = 92) ∧ wx = wr)
    case atStart => exact ⟨0, j + m, rfl, by go_num, by omega, by omega, by omega, fun t ht => by omega, rfl⟩
    case round =>
      obtain ⟨c, z, rfl, rfl, hz, hcm, hk, h92, hwx⟩ := hrel
      replace hwx := hwx.symm
      subst hwx
      have HK2 : Hid (gk = m + 1 - c) := hk
      clear hk
      have hzn : (z : Int) < (n : Int) := by omega
      obtain ⟨bv, hbv⟩ : ∃ bv, R.getD c 0 = bv := ⟨_, rfl⟩
      have hcz : wr.cell? ⟨g, z, none⟩ = some (.int .u8 bv) := by
        rw [HC.out z (by omega), ← hbv, ← H4.out c (by omega)]
        rw [show j + m - c = z by omega]
      have HBV : Hid (R.getD c 0 = bv) := hbv
      clear hbv
      by_cases h92c : bv = 92
      · have hb : (bv == 92) = true := by rw [h92c]; rfl
        have hcm2 : c < m := by
          rcases Nat.lt_or_ge c m with h | h
          · exact h
          · have : c = m := by omega
            subst this
            have := HBV.out.symm.trans H5.out
            omega
        have H92 : Hid (R.getD c 0 = 92) := HBV.out.trans h92c
        clear h92c
        go_wp2_with fail
        go_roundg (m + 1 - (c + 1))
        case measure => have := HK2.out; omega
        case rel =>
          refine ⟨c + 1, z - 1, by go_num, by go_num, by omega, by omega, rfl, fun t ht => ?_, rfl⟩
          rcases Nat.lt_or_ge t c with h | h
          · exact h92.out t h
          · have : t = c := by omega
            subst this
            exact H92.out
      · have hb : (bv == 92) = false := by simpa using h92c
        have htc : tc R = c := tc_of R c (by have := HR.out; omega) h92.out (fun e => h92c (HBV.out.symm.trans e))
        have HT : Hid (tc R = c) := htc
        clear h92c htc
        rcases H6.out with ⟨hev, hTT⟩ | ⟨hod, y, hy1, hy2, hy3⟩
        · have hev' : ((c : Int) % 2 == 0) = true := by
            rw [HT.out] at hev
            have : ((c : Int) % 2) = 0 := by omega
            simp [this]
          have HTT : Hid (j + 1 + m = T) := hTT
          clear hev hTT
          go_wp2_with fail
          go_ret
          exact ⟨ret_i64 (by have := HTT.out; omega), rfl⟩
        · have hod' : ((c : Int) % 2 == 0) = false := by
            rw [HT.out] at hod
            have : ((c : Int) % 2) = 1 := by omega
            simp [this]
          have HY : Hid (D.drop (j + 1 + m) = 34 :: (qt y ++ 34 :: tail) ∧ (j + 1 + m) + (qt y).length + 1 = T) := ⟨hy2, hy3⟩
          clear hod hy2 hy3
          go_wp2_with fail
          go_roundg y.length
          case measure => have := HK.out; omega
          case rel => exact ⟨j + 1 + m, y, by go_num, rfl, HY, rfl⟩

end Go.Proofs.Qxb6601282a
