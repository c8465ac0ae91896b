import Derived.Test.Qxb6601015aNextBase
namespace Go.Proofs.Qxb6601015a
open Go.RowKit

set_option maxRecDepth 100000 in
set_option maxHeartbeats 1600000 in
theorem next_def (s : ByteArray) (p b q : Nat) (w : World) (hs : s.size ≤ 65536) (hp : p ≤ s.size) (hb : b < w.heap.size) (hq : skp s p = q) (hlt : q < s.size)
    (h0 : w.cell? ⟨b, 0, none⟩ = some (.string s)) (h1 : w.cell? ⟨b, 1, none⟩ = some (.int .i64 (p : Int))) (hf : w.frozen? ⟨b, 1, none⟩ = false)
    (hl : letB (s[q].toNat : Int) = false) (hd : digB (s[q].toNat : Int) = false) (h46 : ((s[q].toNat : Int) == 46) = false) (h39 : ((s[q].toNat : Int) == 39) = false) (h36 : ((s[q].toNat : Int) == 36) = false) (hpc : pre2 s q ⟨#[47, 42]⟩ = false) (hp1 : pre2 s q ⟨#[58, 58]⟩ = false) (hp2 : pre2 s q ⟨#[124, 124]⟩ = false) (hi : ¬ 0 ≤ punI (s[q].toNat : Int)) (h60 : ((s[q].toNat : Int) == 60) = false) (h62 : ((s[q].toNat : Int) == 62) = false) :
    Calls Try.prog 28 #[.pointer (some ⟨b, 0, none⟩)] w (Says s p b w) := by
  have k0 : (w.alloc tokZ).cell? ⟨b, 0, none⟩ = some (.string s) := by rw [World.cell?_alloc_past _ _ _ hb]; exact h0
  have k1 : (w.alloc tokZ).cell? ⟨b, 1, none⟩ = some (.int .i64 (p : Int)) := by rw [World.cell?_alloc_past _ _ _ hb]; exact h1
  have kf : (w.alloc tokZ).frozen? ⟨b, 1, none⟩ = false := by rw [World.frozen?_alloc_past _ _ _ hb]; exact hf
  have hq1 : p ≤ q := by have := skp_bd s p hp; omega
  have he' : ((q : Int) == (s.size : Int)) = false := by simp; omega
  have hlt' : (q : Int) < (s.size : Int) := by omega
  have HQ : Hid (skp s p = q) := hq
  clear h0 h1 hf hq
  go_enter Try.func28, Try.ntmps28
  go_wp2_with fail
  refine (skipSpace_any s p b (w.alloc tokZ) hs hp k0 k1 kf).mono ?_
  rintro e w1 ⟨rfl, ha⟩
  rw [HQ.out] at ha
  have hc0 := ha.cell0 k0
  have hc1 := ha.2
  have hfr := ha.froz kf
  have HA : Hid (At b (w.alloc tokZ) w1 q) := ha
  clear ha HQ k1
  go_upto_block 0 with fail
  go_cut [4] (fun v wx => ∃ (k : Int) (r : Nat), v = .int .i64 k ∧ 1 ≤ k ∧ k ≤ 7 ∧ q < r ∧ r ≤ s.size ∧ At b (w.alloc tokZ) wx r)
  case first =>
    go_wp2_with (first | (go_at_call 35; refine (isLetter_any _ _).mono ?_; rintro e w' ⟨rfl, hw⟩; replace hw := hw.symm; subst hw) | (go_at_call 36; refine (isDigit_any _ _).mono ?_; rintro e w' ⟨rfl, hw⟩; replace hw := hw.symm; subst hw) | (go_at_call 38; refine (hasPrefix_any s q _ _).mono ?_; rintro e w' ⟨rfl, hw⟩; replace hw := hw.symm; subst hw) | (go_at_call 39; refine (pun_any _ _).mono ?_; rintro e w' ⟨rfl, hw⟩; replace hw := hw.symm; subst hw))
    go_meet
    exact ⟨7, q + 1, rfl, by omega, by omega, by omega, by omega, HA.out.set (by omega)⟩
  case rest =>
    clear HA hc0 hc1 hfr
    obtain ⟨k, r, rfl, hk1, hk2, hr1, hr2, ha⟩ := hcut
    have hc0 := ha.cell0 k0
    have hc1 := ha.2
    obtain ⟨r0, r1, r2, f0⟩ := cell_r b w wc r hb ha
    have HA : Hid (At b (w.alloc tokZ) wc r) := ha
    clear ha
    go_wp2_with fail
    go_region
    go_wp2_with fail
    refine bodyPost_ret (v := .agg #[.int .i64 k, .string (s.extract q r), .int .i64 (q : Int)]) (by simp [results, Try.results28, go_sem, r0, r1, r2]) rfl ?_
    exact ⟨k, q, r, _, rfl, rfl, hq1, by omega, hr2, Or.inr ⟨hk1, hk2, hr1⟩, Nx.of_at hb HA.out.drew _ _ _⟩

end Go.Proofs.Qxb6601015a
