import Derived.Test.Qxb6601015aDigits
import Derived.Deep.DeepCutAuto
namespace Go.Proofs.Qxb6601015a
open Go.RowKit

set_option maxRecDepth 100000 in
set_option maxHeartbeats 800000 in
theorem scanNumber_any (s : ByteArray) (p b : Nat) (w : World) (hs : s.size ≤ maxLen) (hp : p < s.size) (hc : digB (byteAt s p) = true ∨ byteAt s p = 46)
    (h0 : w.cell? ⟨b, 0, none⟩ = some (.string s)) (h1 : w.cell? ⟨b, 1, none⟩ = some (.int .i64 (p : Int))) (hf : w.frozen? ⟨b, 1, none⟩ = false) :
    Calls Try.prog 34 #[.pointer (some ⟨b, 0, none⟩)] w fun e w' =>
      ∃ (k : Int) (q : Nat), e = .returned (.int .i64 k) ∧ 1 ≤ k ∧ k ≤ 7 ∧ p < q ∧ q ≤ s.size ∧ At b w w' q := by
  have HS := hs
  unfold maxLen at hs
  have HC : Hid (digB (byteAt s p) = true ∨ byteAt s p = 46) := hc
  clear hc
  go_enter Try.func34, Try.ntmps34
  go_wp2_with fail
  refine (skipDigits_any s p b _ HS (by omega) h0 h1 hf).mono ?_
  rintro e w1 ⟨rfl, q1, hq1, hq2, hq3, ha⟩
  have HQ : Hid (p < s.size → digB (byteAt s p) = true → p < q1) := hq3
  have HA : Hid (At b w w1 q1) := ha
  have hc0 := ha.cell0 h0
  have hc1 := ha.2
  have hfr := ha.froz hf
  clear ha hq3 
  go_wp2_with fail
  go_cut [28] (fun v wx => ∃ B : Bool, v = .bool B ∧ (B = true → q1 < s.size) ∧ (B = false → p < q1) ∧ At b w wx q1)
  case first =>
    by_cases hlt : q1 < s.size
    · have hlt' : (q1 : Int) < (s.size : Int) := by omega
      cases hd : ((s[q1].toNat : Int) == 46)
      all_goals
        go_quiet (fail)
        go_wp2
        go_meet
      · refine ⟨false, rfl, by simp, fun _ => ?_, HA.out.drewN _⟩
        rcases HC.out with h | h
        · exact HQ.out hp h
        · rcases Nat.lt_or_ge p q1 with h' | h'
          · exact h'
          · have : p = q1 := by omega
            subst this
            rw [byteAt_eq s p hp] at h
            simp [h] at hd
      · exact ⟨true, rfl, fun _ => hlt, by simp, HA.out.drewN _⟩
    · have hlt' : decide ((q1 : Int) < (s.size : Int)) = false := by simp; omega
      go_quiet (fail)
      go_wp2
      go_meet
      exact ⟨false, rfl, by simp, fun _ => by omega, HA.out.drewN _⟩
  case rest =>
    obtain ⟨B, rfl, hB1, hB2, ha⟩ := hcut
    clear HA hc0 hc1 hfr HC HQ
    have hc0 := ha.cell0 h0
    have hc1 := ha.2
    have hfr := ha.froz hf
    have HA : Hid (At b w wc q1) := ha
    have HB : Hid ((B = true → q1 < s.size) ∧ (B = false → p < q1)) := ⟨hB1, hB2⟩
    clear ha hB1 hB2
    go_upto_if 28 with fail
    go_cut [3] (fun v wx => ∃ (k : Int) (q : Nat), v = .int .i64 k ∧ 1 ≤ k ∧ k ≤ 7 ∧ p < q ∧ q ≤ s.size ∧ At b w wx q)
    case first =>
      cases B
      · have hpq := HB.out.2 rfl
        clear HB
        go_wp2_with fail
        go_meet
        exact ⟨2, q1, rfl, by omega, by omega, hpq, hq2, HA.out⟩
      · have hlt := HB.out.1 rfl
        go_wp2_with fail
        refine (skipDigits_any s (q1 + 1) b _ HS (by omega) ?_ ?_ ?_).mono ?_
        · exact (HA.out.set (q' := q1 + 1) (by omega)).cell0 h0
        · exact (HA.out.set (q' := q1 + 1) (by omega)).2
        · exact (HA.out.set (q' := q1 + 1) (by omega)).froz hf
        rintro e w2 ⟨rfl, q2, h21, h22, _, h2a⟩
        have H2 : Hid (At b (wc.setCell ⟨b, 1, none⟩ (.int .i64 ((q1 : Int) + 1))) w2 q2) := h2a
        clear h2a
        go_wp2_with fail
        go_meet
        exact ⟨3, q2, rfl, by omega, by omega, by omega, h22, (HA.out.set (q' := q1 + 1) (by omega)).trans H2.out⟩
    case rest =>
      clear HA hc0 hc1 hfr HB hq1 hq2
      obtain ⟨kk, q, rfl, hk1, hk2, hq1, hq2, ha⟩ := hcut
      have hc0 := ha.cell0 h0
      have hc1 := ha.2
      have hfr := ha.froz hf
      have HA : Hid (At b w wc q) := ha
      clear ha
      go_upto_region 8 with fail
      go_cut [66] (fun v wx => ∃ B : Bool, v = .bool B ∧ (B = true → q < s.size) ∧ At b w wx q)
      case first =>
        by_cases hlt : q < s.size
        · have hlt' : (q : Int) < (s.size : Int) := by omega
          go_wp2
          all_goals
            go_meet
            exact ⟨_, rfl, fun _ => hlt, HA.out⟩
        · have hlt' : decide ((q : Int) < (s.size : Int)) = false := by simp; omega
          go_wp2
          go_meet
          exact ⟨false, rfl, by simp, HA.out⟩
      case rest =>
        clear HA hc0 hc1 hfr
        obtain ⟨B, rfl, hB, ha⟩ := hcut
        have hc0 := ha.cell0 h0
        have hc1 := ha.2
        have hfr := ha.froz hf
        have HA : Hid (At b w wc q) := ha
        have HB : Hid (B = true → q < s.size) := hB
        clear ha hB
        go_upto_if 66 with fail
        go_cut [3] (fun v wx => ∃ (k : Int) (q : Nat), v = .int .i64 k ∧ 1 ≤ k ∧ k ≤ 7 ∧ p < q ∧ q ≤ s.size ∧ At b w wx q)
        case first =>
          cases B
          · clear HB
            go_wp2_with fail
            go_meet
            exact ⟨kk, q, rfl, hk1, hk2, hq1, hq2, HA.out⟩
          · have hlt := HB.out rfl
            clear HB
            go_upto_region 10 with fail
            go_cut [93] (fun v wx => ∃ B : Bool, v = .bool B ∧ (B = true → q + 1 < s.size) ∧ At b w wx q)
            case first =>
              by_cases hlt2 : q + 1 < s.size
              · have hlt2' : (q : Int) + 1 < (s.size : Int) := by omega
                have hix := index_at s ((q : Int) + 1) (q + 1) (by omega) hlt2
                go_wp2
                all_goals
                  go_meet
                  exact ⟨_, rfl, fun _ => hlt2, HA.out⟩
              · have hlt2' : decide ((q : Int) + 1 < (s.size : Int)) = false := by simp; omega
                go_wp2
                go_meet
                exact ⟨false, rfl, by simp, HA.out⟩
            case rest =>
              clear HA hc0 hc1 hfr
              obtain ⟨B, rfl, hB, ha⟩ := hcut
              have hc0 := ha.cell0 h0
              have hc1 := ha.2
              have hfr := ha.froz hf
              have HA : Hid (At b w wc q) := ha
              have HB : Hid (B = true → q + 1 < s.size) := hB
              clear ha hB
              go_upto_if 93 with fail
              go_cut [4] (fun v wx => ∃ (r : Nat), v = .int .i64 (r : Int) ∧ p < r ∧ r ≤ s.size ∧ At b w wx q)
              case first =>
                cases B
                · clear HB
                  go_wp2_with fail
                  go_meet
                  exact ⟨q + 1, by go_num, by omega, by omega, HA.out⟩
                · have hlt2 := HB.out rfl
                  clear HB
                  go_wp2_with fail
                  go_meet
                  exact ⟨q + 2, by go_num, by omega, by omega, HA.out⟩
              case rest =>
                clear HA hc0 hc1 hfr HB
                obtain ⟨r, rfl, hr1, hr2, ha⟩ := hcut
                have hc0 := ha.cell0 h0
                have hc1 := ha.2
                have hfr := ha.froz hf
                have HA : Hid (At b w wc q) := ha
                clear ha
                go_upto_region 12 with fail
                go_cut [111] (fun v wx => ∃ B : Bool, v = .bool B ∧ At b w wx q)
                case first =>
                  by_cases hlt2 : r < s.size
                  · have hlt2' : (r : Int) < (s.size : Int) := by omega
                    go_wp2_with (go_at_call 36; refine (isDigit_any _ _).mono ?_; rintro e w' ⟨rfl, rfl⟩)
                    go_meet
                    exact ⟨_, rfl, HA.out⟩
                  · have hlt2' : decide ((r : Int) < (s.size : Int)) = false := by simp; omega
                    go_wp2_with fail
                    go_meet
                    exact ⟨false, rfl, HA.out⟩
                case rest =>
                  clear HA hc0 hc1 hfr
                  obtain ⟨B, rfl, ha⟩ := hcut
                  have hc0 := ha.cell0 h0
                  have hc1 := ha.2
                  have hfr := ha.froz hf
                  have HA : Hid (At b w wc q) := ha
                  clear ha
                  go_upto_if 111 with fail
                  cases B
                  · go_wp2_with fail
                    go_meet
                    exact ⟨kk, q, rfl, hk1, hk2, hq1, hq2, HA.out⟩
                  · go_wp2_with fail
                    refine (skipDigits_any s r b _ HS hr2 ?_ ?_ ?_).mono ?_
                    · exact (HA.out.set (q' := r) rfl).cell0 h0
                    · exact (HA.out.set (q' := r) rfl).2
                    · exact (HA.out.set (q' := r) rfl).froz hf
                    rintro e w2 ⟨rfl, q2, h21, h22, _, h2a⟩
                    have H2 : Hid (At b (wc.setCell ⟨b, 1, none⟩ (.int .i64 (r : Int))) w2 q2) := h2a
                    clear h2a
                    go_wp2_with fail
                    go_meet
                    exact ⟨3, q2, rfl, by omega, by omega, by omega, h22, (HA.out.set (q' := r) rfl).trans H2.out⟩
        case rest =>
          clear HA hc0 hc1 hfr HB hq1 hq2 hk1 hk2
          obtain ⟨k3, q3, rfl, hk1, hk2, hq1, hq2, ha⟩ := hcut
          have HA : Hid (At b w wc q3) := ha
          clear ha
          go_wp2
          go_ret
          exact ⟨k3, q3, rfl, hk1, hk2, hq1, hq2, HA.out⟩
end Go.Proofs.Qxb6601015a
