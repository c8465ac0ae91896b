import Derived.Test.Qxb6601015aLeaf
import Derived.Test.Qxb6601015aOnly
import Derived.Deep.LoopGhost
import Derived.Deep.QuietTactic
import Derived.BigQuiet
namespace Go.Proofs.Qxb6601015a
open Go.RowKit

theorem index_at (s : ByteArray) (i : Int) (k : Nat) (hk : i = (k : Int)) (h : k < s.size) (w : World) :
    (Instr.index 9 (.string s) (.int .i64 i)).run Try.prog w = .ok (.int .u8 (s[k].toNat : Int)) w := by
  subst hk
  rw [run_index_string w 9 s .i64 _ Try.underlying9, dif_pos ⟨by omega, by omega⟩]
  rfl

set_option maxHeartbeats 400000 in
theorem skipDigits_any (s : ByteArray) (p b : Nat) (w : World) (hs : s.size ≤ maxLen) (hp : p ≤ s.size)
    (h0 : w.cell? ⟨b, 0, none⟩ = some (.string s)) (h1 : w.cell? ⟨b, 1, none⟩ = some (.int .i64 (p : Int))) (hf : w.frozen? ⟨b, 1, none⟩ = false) :
    Calls Try.prog 42 #[.pointer (some ⟨b, 0, none⟩)] w fun e w' => e = .returned (.tuple #[]) ∧
      ∃ q : Nat, p ≤ q ∧ q ≤ s.size ∧ (p < s.size → digB (byteAt s p) = true → p < q) ∧ At b w w' q := by
  unfold maxLen at hs
  go_enter Try.func42, Try.ntmps42
  go_wp2_with fail
  go_loopg [] (s.size - p) (fun k wr => ∃ q : Nat, p ≤ q ∧ q ≤ s.size ∧ k = s.size - q ∧ At b w wr q)
  case atStart => exact ⟨p, Nat.le_refl _, hp, rfl, Only.refl _ _, h1⟩
  case round =>
    obtain ⟨q, hq1, hq2, hk, ha⟩ := hrel
    have hc0 := ha.cell0 h0
    have hc1 := ha.2
    have hfr := ha.froz hf
    have HA : Hid (At b w wr q) := ha
    have HK : Hid (gk = s.size - q) := hk
    clear ha hk
    by_cases hlt : q < s.size
    · have hlt' : (q : Int) < (s.size : Int) := by omega
      cases hd0 : digB (byteAt s q)
      · have hd := hd0
        rw [byteAt_eq s q hlt] at hd
        go_wp2_with fail
        go_quiet ((go_at_call 36; exact Calls.quiet_of_same (isDigit_is _ _ hd _)))
        go_wp2
        go_end0
        refine ⟨rfl, q, hq1, hq2, fun _ hy => ?_, HA.out.drewN _⟩
        rcases Nat.lt_or_ge p q with h | h
        · exact h
        · have : p = q := by omega
          subst this
          rw [hd0] at hy; cases hy
      · have hd := hd0
        rw [byteAt_eq s q hlt] at hd
        go_wp2_with fail
        go_quiet ((go_at_call 36; exact Calls.quiet_of_same (isDigit_is _ _ hd _)))
        go_wp2
        go_roundg (s.size - (q + 1))
        case measure => have := HK.out; omega
        case rel => exact ⟨q + 1, by omega, by omega, rfl, (HA.out.drewN _).set (by omega)⟩
    · have hlt' : decide ((q : Int) < (s.size : Int)) = false := by simp; omega
      go_wp2_with fail
      go_quiet (fail)
      go_wp2
      go_end0
      exact ⟨rfl, q, hq1, hq2, fun _ _ => by omega, HA.out.drewN _⟩

end Go.Proofs.Qxb6601015a
