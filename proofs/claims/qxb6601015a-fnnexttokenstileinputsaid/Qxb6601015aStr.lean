import Derived.Test.Qxb6601015aDigits
namespace Go.Proofs.Qxb6601015a
open Go.RowKit

set_option maxHeartbeats 400000 in
theorem scanString_any (s : ByteArray) (p b : Nat) (w : World) (hs : s.size ≤ maxLen) (hp : p < s.size)
    (h0 : w.cell? ⟨b, 0, none⟩ = some (.string s)) (h1 : w.cell? ⟨b, 1, none⟩ = some (.int .i64 (p : Int))) (hf : w.frozen? ⟨b, 1, none⟩ = false) :
    Calls Try.prog 37 #[.pointer (some ⟨b, 0, none⟩)] w fun e w' =>
      ∃ (k : Int) (q : Nat), e = .returned (.int .i64 k) ∧ 1 ≤ k ∧ k ≤ 7 ∧ p < q ∧ q ≤ s.size ∧ At b w w' q := by
  unfold maxLen at hs
  go_enter Try.func37, Try.ntmps37
  go_wp2_with fail
  go_loopg [] (s.size - (p + 1)) (fun k wr => ∃ q : Nat, p < q ∧ q ≤ s.size ∧ k = s.size - q ∧ At b w wr q)
  case atStart => exact ⟨p + 1, by omega, by omega, rfl, At.set ⟨Only.refl _ _, h1⟩ (by omega)⟩
  case round =>
    obtain ⟨q, hq1, hq2, hk, ha⟩ := hrel
    have hc0 := ha.cell0 h0
    have hc1 := ha.2
    have hfr := ha.froz hf
    have HA : Hid (At b w wr q) := ha
    have HK : Hid (gk = s.size - q) := hk
    clear ha hk h0 h1 hf
    by_cases hlt : q < s.size
    · have hlt' : (q : Int) < (s.size : Int) := by omega
      by_cases hb : ((s[q].toNat : Int) != 39) = true
      · go_wp2_with fail
        go_quiet (fail)
        go_wp2_with fail
        go_quiet (fail)
        go_wp2
        go_roundg (s.size - (q + 1))
        case measure => have := HK.out; omega
        case rel => exact ⟨q + 1, by omega, by omega, rfl, (HA.out.drewN _).set (by omega)⟩
      · have hb' : ((s[q].toNat : Int) != 39) = false := by simpa using hb
        clear hb
        by_cases he : q + 1 = s.size
        · have he' : ((q : Int) + 1 == (s.size : Int)) = true := by simp; omega
          have HE : Hid (q + 1 = s.size) := he
          clear he
          go_wp2_with fail
          go_quiet (fail)
          go_wp2_with fail
          go_quiet (fail)
          go_wp2_with fail
          go_quiet (fail)
          go_wp2
          go_ret
          exact ⟨4, q + 1, rfl, by omega, by omega, by omega, by have := HE.out; omega, ((HA.out.drewN _).set (by omega)).drewN _⟩
        · have he' : ((q : Int) + 1 == (s.size : Int)) = false := by simp; omega
          have hlt2 : q + 1 < s.size := by omega
          have hlt2' : (q : Int) + 1 < (s.size : Int) := by omega
          clear he
          have hix := index_at s ((q : Int) + 1) (q + 1) (by omega) hlt2
          cases hb2 : ((s[q + 1].toNat : Int) != 39)
          all_goals
            go_wp2_with fail
            go_quiet (fail)
            go_wp2_with fail
            go_quiet (fail)
            go_wp2_with fail
            go_quiet (fail)
            go_wp2
          · go_roundg (s.size - (q + 2))
            case measure => have := HK.out; omega
            case rel => exact ⟨q + 2, by omega, by omega, rfl, (((HA.out.drewN _).set (q' := q + 1) (by omega)).drewN _).set (by omega)⟩
          · go_ret
            exact ⟨4, q + 1, rfl, by omega, by omega, by omega, by omega, ((HA.out.drewN _).set (by omega)).drewN _⟩
    · have hlt' : decide ((q : Int) < (s.size : Int)) = false := by simp; omega
      go_wp2_with fail
      go_quiet (fail)
      go_wp2
      go_ret
      exact ⟨7, q, rfl, by omega, by omega, hq1, hq2, HA.out.drewN _⟩

end Go.Proofs.Qxb6601015a
