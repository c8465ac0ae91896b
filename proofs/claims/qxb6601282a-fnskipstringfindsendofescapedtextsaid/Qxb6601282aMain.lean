import Derived.Test.Qxb6601282aTop
namespace Go.Proofs.Qxb6601282a
open Go.RowKit

set_option maxRecDepth 100000 in
set_option maxHeartbeats 1600000 in
theorem main_big (a0 a1 a2 : Option Addr) (n0 n1 n2 c0 c1 c2 : Nat) (w : World) (h0 : n0 ≤ maxLen) (h1 : n1 ≤ maxLen) (h2 : n2 ≤ maxLen) (h : ¬ (n0 + n1 + n2 ≤ 1048576 ∧ n0 ≤ 262144 ∧ n1 ≤ 262144 ∧ n2 ≤ 262144)) :
    Calls Try.prog 4 #[.slice a0 n0 c0, .slice a1 n1 c1, .slice a2 n2 c2] w fun e w' => e = .returned (.bool true) ∧ Below w.heap.size w w' := by
  by_cases hs : n0 + n1 + n2 ≤ 1048576
  · clear h0 h1 h2
    by_cases g0 : n0 ≤ 262144
    · by_cases g1 : n1 ≤ 262144
      · have g2 : ¬ n2 ≤ 262144 := by omega
        clear h
        go_enter Try.func4, Try.ntmps4
        go_wp2_with (go_at_call 12; refine (bytes_ok a0 a1 a2 n0 n1 n2 c0 c1 c2 w hs).mono ?_; rintro e w' ⟨rfl, hw⟩; replace hw := hw.symm; subst hw)
        go_ret
        exact ⟨rfl, Below.refl _ _⟩
      · clear h
        go_enter Try.func4, Try.ntmps4
        go_wp2_with (go_at_call 12; refine (bytes_ok a0 a1 a2 n0 n1 n2 c0 c1 c2 w hs).mono ?_; rintro e w' ⟨rfl, hw⟩; replace hw := hw.symm; subst hw)
        go_ret
        exact ⟨rfl, Below.refl _ _⟩
    · clear h
      go_enter Try.func4, Try.ntmps4
      go_wp2_with (go_at_call 12; refine (bytes_ok a0 a1 a2 n0 n1 n2 c0 c1 c2 w hs).mono ?_; rintro e w' ⟨rfl, hw⟩; replace hw := hw.symm; subst hw)
      go_ret
      exact ⟨rfl, Below.refl _ _⟩
  · clear h
    go_enter Try.func4, Try.ntmps4
    go_wp2_with (go_at_call 12; refine (bytes_no a0 a1 a2 n0 n1 n2 c0 c1 c2 w hs h0 h1 h2).mono ?_; rintro e w' ⟨rfl, hw⟩; replace hw := hw.symm; subst hw)
    go_ret
    exact ⟨rfl, Below.refl _ _⟩

set_option maxHeartbeats 400000 in
theorem zz_any (D : List Int) (g n cap i : Nat) (v tail : List Int) (w : World) (hn : D.length = n) (hcap : n ≤ cap) (hsz : n ≤ 4000000) (hB : isB D)
    (hcell : ∀ k, k < n → w.cell? ⟨g, k, none⟩ = some (.int .u8 (D.getD k 0))) (hd : D.drop i = 34 :: (qt v ++ 34 :: tail)) :
    Calls Try.prog 10 #[.slice (some ⟨g, 0, none⟩) n cap, .int .i64 (i : Int)] w fun e w' => e = .returned (.int .i64 ((i + (qt v).length + 1 : Nat) : Int)) ∧ w' = w := by
  go_enter Try.func10, Try.ntmps10
  go_wp2_with (go_at_call 19; refine (skip_any D g n cap i v tail w hn hcap hsz hB hcell hd).mono ?_; rintro e w' ⟨rfl, hw⟩; replace hw := hw.symm; subst hw)
  go_ret
  exact ⟨rfl, rfl⟩

theorem doc_facts (z0 z1 z2 : List Int) (n0 m n2 : Nat) (l0 : z0.length = n0) (l1 : (qt z1).length + 2 = m) (l2 : z2.length = n2) (b0 : isB z0) (b1 : isB z1) (b2 : isB z2) :
    (z0 ++ (34 :: (qt z1 ++ [34])) ++ z2).length = n0 + m + n2 ∧ isB (z0 ++ (34 :: (qt z1 ++ [34])) ++ z2) ∧ (z0 ++ (34 :: (qt z1 ++ [34])) ++ z2).drop n0 = 34 :: (qt z1 ++ 34 :: z2) := by
  refine ⟨by simp; omega, ?_, ?_⟩
  · intro z hz
    have hq := qt_isB z1 b1
    simp only [List.mem_append, List.mem_cons] at hz
    rcases hz with (h | h | h | h) | h
    · exact b0 z h
    · omega
    · exact hq z h
    · rcases h with h | h
      · omega
      · cases h
    · exact b2 z h
  · rw [List.append_assoc, ← l0, List.drop_left]
    simp

set_option maxRecDepth 1000000 in
set_option maxHeartbeats 1600000 in
theorem main_small (a0 a1 a2 : Option Addr) (n0 n1 n2 c0 c1 c2 : Nat) (z0 z1 z2 : List Int) (w : World) (h0 : n0 ≤ 262144) (h1 : n1 ≤ 262144) (h2 : n2 ≤ 262144)
    (i0 : In w a0 n0 c0 z0) (i1 : In w a1 n1 c1 z1) (i2 : In w a2 n2 c2 z2) (b0 : isB z0) (b1 : isB z1) (b2 : isB z2) :
    Calls Try.prog 4 #[.slice a0 n0 c0, .slice a1 n1 c1, .slice a2 n2 c2] w fun e w' => e = .returned (.bool true) ∧ Below w.heap.size w w' := by
  obtain ⟨t0, hi, hz0, hz1, hz2⟩ := info_parts info5
  have I0 : Hid (In w a0 n0 c0 z0) := i0
  have I1 : Hid (In w a1 n1 c1 z1) := i1
  have I2 : Hid (In w a2 n2 c2 z2) := i2
  have BB : Hid (isB z0 ∧ isB z1 ∧ isB z2) := ⟨b0, b1, b2⟩
  clear i0 i1 i2 b0 b1 b2
  go_enter Try.func4, Try.ntmps4
  go_wp2_with (go_at_call 12; refine (bytes_ok a0 a1 a2 n0 n1 n2 c0 c1 c2 w (by omega)).mono ?_; rintro e w' ⟨rfl, hw⟩; replace hw := hw.symm; subst hw)
  refine (clone_any a0 n0 c0 z0 w I0.out h0).mono ?_
  rintro e w1 ⟨p0, d0, rfl, hp0, hA0, hbl1⟩
  have H1 : Hid ((p0 = none → n0 = 0 ∧ d0 = 0) ∧ At w1 p0 z0 ∧ Below w.heap.size w w1) := ⟨hp0, hA0, hbl1⟩
  clear hp0 hA0 hbl1
  go_wp2_with fail
  refine (clone_any a1 n1 c1 z1 w1 (I1.out.below H1.out.2.2) h1).mono ?_
  rintro e w2 ⟨p1, d1, rfl, hp1, hA1, hbl2⟩
  have H2 : Hid ((p1 = none → n1 = 0 ∧ d1 = 0) ∧ At w2 p1 z1 ∧ Below w1.heap.size w1 w2) := ⟨hp1, hA1, hbl2⟩
  clear hp1 hA1 hbl2
  go_wp2_with fail
  refine (clone_any a2 n2 c2 z2 w2 ((I2.out.below H1.out.2.2).below H2.out.2.2) h2).mono ?_
  rintro e w3 ⟨p2, d2, rfl, hp2, hA2, hbl3⟩
  have H3 : Hid ((p2 = none → n2 = 0 ∧ d2 = 0) ∧ At w3 p2 z2 ∧ Below w2.heap.size w2 w3) := ⟨hp2, hA2, hbl3⟩
  clear hp2 hA2 hbl3
  obtain ⟨m, hm⟩ : ∃ m, (qt z1).length + 2 = m := ⟨_, rfl⟩
  have HM : Hid ((qt z1).length + 2 = m) := hm
  have hmb : m ≤ 524290 := by
    have := (qt_len z1).2
    have := I1.out.1
    omega
  clear hm
  go_wp2_with fail
  refine (quote_any p1 n1 d1 z1 w3 I1.out.1 h1 m HM.out (H2.out.2.1.below H3.out.2.2)).mono ?_
  rintro e w4 ⟨rfl, hown4, hbl4⟩
  have H4 : Hid (w4.ownsRow w3.heap.size 5 1 (.slice (some ⟨w3.heap.size, 0, none⟩) m (2 * n1 + 2)) m (vals (34 :: (qt z1 ++ [34]))) ∧ Below w3.heap.size w3 w4) := ⟨hown4, hbl4⟩
  clear hown4 hbl4
  go_wp2_with (at_make; refine wpList_make_own _ rfl _ _ 22 rfl w4.heap.size 5 t0 (.int .u8 0) 1 Try.underlying22 hi hz0 hz1 _ _ _ (n0 + m + n2) rfl rfl (by omega) ?b2 ?b3 (Nat.le_refl _) ?_)
  case b2 => rw [hz2]; omega
  case b3 => unfold maxLen; omega
  intro w5 hown5 hgrow5
  have A0 : Hid (At w4 p0 z0) := ((H1.out.2.1.below H2.out.2.2).below H3.out.2.2).below H4.out.2
  have A2 : Hid (At w4 p2 z2) := H3.out.2.1.below H4.out.2
  have AE : Hid (At w4 (some ⟨w3.heap.size, 0, none⟩) (34 :: (qt z1 ++ [34]))) := at_of_owns H4.out.1
  have B5 : Hid (Below w4.heap.size w4 w5) := (Below.refl _ _).grown hgrow5 (Nat.le_refl _) (fun k h => by cases h)
  have B04 : Hid (Below w.heap.size w w4) := by
    have b1 := H1.out.2.2
    have b2 := b1.trans (H2.out.2.2.mono b1.size)
    have b3 := b2.trans (H3.out.2.2.mono b2.size)
    exact b3.trans (H4.out.2.mono b3.size)
  have L0 : Hid (z0.length = n0) := I0.out.1
  have L2 : Hid (z2.length = n2) := I2.out.1
  have P0 : Hid (p0 = none → n0 = 0 ∧ d0 = 0) := H1.out.1
  have P2 : Hid (p2 = none → n2 = 0 ∧ d2 = 0) := H3.out.1
  clear H1 H2 H3 H4 I0 I1 I2 hgrow5
  go_wp2_with (first
    | (at_builtin; refine wpList_append_fits_any _ rfl (.tmp 41) (.tmp 42) 22 rfl w4.heap.size 5 t0 1 Try.underlying22 hi hz1 w4.heap.size 0 (n0 + m + n2) _ rfl hown5 p0 n0 d0 (vals z0) rfl (by simp [L0.out]) P0.out (A0.out.below B5.out).cells (vals_one z0) (by omega) ?_; intro w6 hown6 hgrow6; simp only [Nat.zero_add, List.nil_append] at hown6; have B6 : Hid (Below w4.heap.size w4 w6) := B5.out.grown hgrow6 B5.out.size (fun k hk => by cases hk; exact Nat.le_refl _); clear hgrow6)
    | (at_builtin; refine wpList_append_fits_any _ rfl (.tmp 44) (.tmp 45) 22 rfl w4.heap.size 5 t0 1 Try.underlying22 hi hz1 w4.heap.size n0 (n0 + m + n2) _ rfl hown6 (some ⟨w3.heap.size, 0, none⟩) m (2 * n1 + 2) (vals (34 :: (qt z1 ++ [34]))) rfl (by have := HM.out; simp; omega) (by intro h; cases h) (AE.out.below B6.out).cells (vals_one _) (by omega) ?_; intro w7 hown7 hgrow7; have B7 : Hid (Below w4.heap.size w4 w7) := B6.out.grown hgrow7 B6.out.size (fun k hk => by cases hk; exact Nat.le_refl _); clear hgrow7)
    | (at_builtin; refine wpList_append_fits_any _ rfl (.tmp 47) (.tmp 48) 22 rfl w4.heap.size 5 t0 1 Try.underlying22 hi hz1 w4.heap.size (n0 + m) (n0 + m + n2) _ rfl hown7 p2 n2 d2 (vals z2) rfl (by simp [L2.out]) P2.out (A2.out.below B7.out).cells (vals_one z2) (by omega) ?_; intro w8 hown8 hgrow8; have B8 : Hid (Below w4.heap.size w4 w8) := B7.out.grown hgrow8 B7.out.size (fun k hk => by cases hk; exact Nat.le_refl _); clear hgrow8))
  obtain ⟨f1, f2, f3⟩ := doc_facts z0 z1 z2 n0 m n2 L0.out HM.out L2.out BB.out.1 BB.out.2.1 BB.out.2.2
  have hv : vals z0 ++ vals (34 :: (qt z1 ++ [34])) ++ vals z2 = vals (z0 ++ (34 :: (qt z1 ++ [34])) ++ z2) := by simp [vals]
  have hcell : ∀ k, k < n0 + m + n2 → w8.cell? ⟨w4.heap.size, k, none⟩ = some (.int .u8 ((z0 ++ (34 :: (qt z1 ++ [34])) ++ z2).getD k 0)) := by
    rw [hv] at hown8
    intro k hk
    obtain ⟨b, e1, _, e3⟩ := at_of_owns hown8 (by rw [f1]; omega)
    cases e1
    exact e3 k (by rw [f1]; exact hk)
  clear hv hown8 hown7 hown6 hown5
  refine (zz_any _ w4.heap.size (n0 + m + n2) (n0 + m + n2) n0 z1 z2 w8 f1 (Nat.le_refl _) (by omega) f2 hcell f3).mono ?_
  rintro e w9 ⟨rfl, hw⟩
  replace hw := hw.symm
  subst hw
  clear hcell f1 f2 f3
  have hans : (((n0 + (qt z1).length + 1 : Nat) : Int) == (n0 : Int) + (m : Int) - 1) = true := by
    have := HM.out
    simp
    omega
  generalize ((n0 + (qt z1).length + 1 : Nat) : Int) = ans at hans ⊢
  go_wp2_with fail
  go_ret
  exact ⟨rfl, B04.out.trans (B8.out.mono B04.out.size)⟩

end Go.Proofs.Qxb6601282a
