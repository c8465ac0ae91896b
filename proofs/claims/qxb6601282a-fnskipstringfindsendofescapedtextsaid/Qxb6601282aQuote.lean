import Derived.Test.Qxb6601282aPlain
import Derived.WalkKit
import Derived.WalkSpells
import Derived.WalkLawsBesides
import Derived.Outline
import Derived.Deep.LoopGhost
namespace Go.Proofs.Qxb6601282a
open Go.RowKit

theorem info5 : (Try.prog.info? 5).map (fun i => (i.zero, i.size, i.bytes)) = some (some (.int .u8 0), 1, 1) := by kernel_rfl

abbrev vals (l : List Int) : List Value := l.map (Value.int .u8)

theorem one_new (w : World) (v : Value) (t : TypeId) : ∀ j u, [v][j]? = some u → (w.alloc (.cells #[v] t)).cell? ((⟨w.heap.size, 0, none⟩ : Addr).add j) = some u := by
  intro j u hj
  match j, hj with
  | 0, hj => simp at hj; subst hj; simp [Addr.add]

theorem qt_take_hit (zs : List Int) (k : Nat) (cv : Int) (hk : k < zs.length) (h : zs.getD k 0 = cv) (h2 : cv = 34 ∨ cv = 92) : qt (zs.take (k + 1)) = qt (zs.take k) ++ [92] ++ [cv] := by
  have e : zs.take (k + 1) = zs.take k ++ [cv] := by
    rw [List.take_succ_eq_append_getElem hk]
    congr 2
    rw [← h, List.getD_eq_getElem?_getD, List.getElem?_eq_getElem hk]
    rfl
  rw [e, qt_append]
  simp only [qt]
  rw [if_pos h2]
  simp
theorem qt_take_miss (zs : List Int) (k : Nat) (cv : Int) (hk : k < zs.length) (h : zs.getD k 0 = cv) (h2 : ¬ (cv = 34 ∨ cv = 92)) : qt (zs.take (k + 1)) = qt (zs.take k) ++ [cv] := by
  have e : zs.take (k + 1) = zs.take k ++ [cv] := by
    rw [List.take_succ_eq_append_getElem hk]
    congr 2
    rw [← h, List.getD_eq_getElem?_getD, List.getElem?_eq_getElem hk]
    rfl
  rw [e, qt_append]
  simp only [qt]
  rw [if_neg h2]

def At (w : World) (ao : Option Addr) (zs : List Int) : Prop :=
  0 < zs.length → ∃ b, ao = some ⟨b, 0, none⟩ ∧ b < w.heap.size ∧ ∀ k, k < zs.length → w.cell? ⟨b, k, none⟩ = some (.int .u8 (zs.getD k 0))

def Rw (B C : Nat) (w wr : World) (n : Nat) (L : List Int) : Prop :=
  wr.ownsRow B 5 1 (.slice (some ⟨B, 0, none⟩) n C) n (vals L) ∧ n = L.length ∧ Below B w wr

set_option maxRecDepth 1000000 in
set_option maxHeartbeats 1600000 in
theorem quote_any (ao : Option Addr) (len cap : Nat) (zs : List Int) (w : World) (hz : zs.length = len) (hlen : len ≤ 262144)
    (n : Nat) (hn : (qt zs).length + 2 = n) (hc : At w ao zs) :
    Calls Try.prog 13 #[.slice ao len cap] w fun e w' =>
      e = .returned (.slice (some ⟨w.heap.size, 0, none⟩) n (2 * len + 2)) ∧ w'.ownsRow w.heap.size 5 1 (.slice (some ⟨w.heap.size, 0, none⟩) n (2 * len + 2)) n (vals (34 :: (qt zs ++ [34]))) ∧ Below w.heap.size w w' := by
  obtain ⟨i0, hi, hz0, hz1, hz2⟩ := info_parts info5
  have HN : Hid ((qt zs).length + 2 = n) := hn
  clear hn
  obtain ⟨C, hC⟩ : ∃ C, 2 * len + 2 = C := ⟨_, rfl⟩
  rw [hC]
  have HCC : Hid (2 * len + 2 = C) := hC
  have hC' : (2 * (len : Int) + 2) = (C : Int) := by omega
  have HC' : Hid (2 * (len : Int) + 2 = (C : Int)) := hC'
  clear hC hC'
  go_enter Try.func13, Try.ntmps13
  go_wp2_with (at_make; refine wpList_make_own _ rfl _ _ 22 rfl w.heap.size 5 i0 (.int .u8 0) 1 Try.underlying22 hi hz0 hz1 _ _ _ C rfl rfl HC'.out ?b2 ?b3 (Nat.le_refl _) ?_)
  case b2 => rw [hz2]; have := HCC.out; omega
  case b3 => unfold maxLen; have := HCC.out; omega
  intro w0 hown0 hgrow0
  go_wp2_with (at_builtin; refine wpList_append_fits _ rfl (.tmp 11) (.tmp 12) 22 rfl w.heap.size 5 i0 1 Try.underlying22 hi hz1 w.heap.size 0 C _ rfl (hown0.alloc _) ⟨w0.heap.size, 0, none⟩ 1 1 [.int .u8 34] rfl rfl (one_new _ _ _) (by intro u hu; simp at hu; subst hu; rfl) (by have := HCC.out; omega) ?_; intro w1 hown1 hgrow1)
  have HR : Rw w.heap.size C w w1 (0 + 1) [34] := ⟨hown1, rfl, ((Below.refl _ _).grown hgrow0 (Nat.le_refl _) (fun k h => by cases h)).alloc hgrow0.size _ |>.grown hgrow1 (by have := hgrow0.size; simp; omega) (fun k hk => by cases hk; exact Nat.le_refl _)⟩
  clear hown0 hgrow0 hown1 hgrow1
  have HCL : Hid (At w ao zs) := hc
  clear hc
  go_loopg [3, 4, 5] len (fun g so sk _ wr => ∃ k n : Nat, k ≤ len ∧ g = len - k ∧ sk = .int .i64 (k : Int) ∧ so = .slice (some ⟨w.heap.size, 0, none⟩) n C ∧ Rw w.heap.size C w wr n (34 :: qt (zs.take k)))
  case atStart => exact ⟨0, 0 + 1, by omega, by omega, rfl, rfl, HR⟩
  case round =>
    obtain ⟨k, m, hk, hg, rfl, rfl, hown, hnL, hbl⟩ := hrel
    have HG : Hid (gk = len - k) := hg
    have HL : Hid (m = (34 :: qt (zs.take k)).length) := hnL
    clear hg hnL
    have hnb : m ≤ 2 * k + 1 := by
      have h1 := HL.out
      have h2 := (qt_len (zs.take k)).2
      simp at h1 h2
      omega
    have hBB : w.heap.size ≤ wr.heap.size := hbl.size
    by_cases hlt : k < len
    · have hlt' : (k : Int) < (len : Int) := by omega
      obtain ⟨cv, hcv⟩ : ∃ cv, zs.getD k 0 = cv := ⟨_, rfl⟩
      obtain ⟨b, rfl, hb, hbc⟩ := HCL.out (by omega)
      have hcell : wr.cell? ⟨b, k, none⟩ = some (.int .u8 cv) := by
        rw [hbl.cell (by exact hb), hbc k (by omega), hcv]
      clear hbc HCL
      have HCV : Hid (zs.getD k 0 = cv) := hcv
      have HBL : Hid (Below w.heap.size w wr) := hbl
      have hroom : m + 2 ≤ C := by have := HCC.out; omega
      clear hcv hbl
      by_cases hq : cv = 34 ∨ cv = 92
      · have HQ : Hid (cv = 34 ∨ cv = 92) := hq
        clear hq
        cases hq1 : (cv == 34)
        · have hq2 : (cv == 92) = true := by
            have h := HQ.out
            simp at hq1 ⊢
            omega
          go_wp2_with (first | (at_builtin; refine wpList_append_fits _ rfl (.tmp 30) (.tmp 31) 22 rfl w.heap.size 5 i0 1 Try.underlying22 hi hz1 w.heap.size m C _ rfl (hown.alloc _) ⟨wr.heap.size, 0, none⟩ 1 1 [.int .u8 92] rfl rfl (one_new _ _ _) (by intro u hu; simp at hu; subst hu; rfl) (by omega) ?_; intro w2 hown2 hgrow2) | (at_builtin; refine wpList_append_fits _ rfl (.tmp 33) (.tmp 35) 22 rfl w.heap.size 5 i0 1 Try.underlying22 hi hz1 w.heap.size (m + 1) C _ rfl (hown2.alloc _) ⟨w2.heap.size, 0, none⟩ 1 1 [.int .u8 cv] rfl rfl (one_new _ _ _) (by intro u hu; simp at hu; subst hu; rfl) (by omega) ?_; intro w3 hown3 hgrow3))
          have hB2 : w.heap.size ≤ w2.heap.size := by have := hgrow2.size; simp at this; omega
          go_roundg (len - (k + 1))
          case measure => have := HG.out; omega
          case rel =>
            have hb2 := (HBL.out.alloc hBB _).grown hgrow2 (by simp; omega) (fun k hk => by cases hk; exact Nat.le_refl _)
            refine ⟨k + 1, m + 1 + 1, by omega, rfl, by go_num, rfl, ?_, ?_, (hb2.alloc hb2.size _).grown hgrow3 (by simp; omega) (fun k hk => by cases hk; exact Nat.le_refl _)⟩
            · rw [qt_take_hit zs k cv (by omega) HCV.out HQ.out]
              have e : vals (34 :: (qt (zs.take k) ++ [92] ++ [cv])) = vals (34 :: qt (zs.take k)) ++ [.int .u8 92] ++ [.int .u8 cv] := by simp [vals]
              rw [e]
              exact hown3
            · rw [qt_take_hit zs k cv (by omega) HCV.out HQ.out]
              have := HL.out
              simp at this ⊢
              omega
        · have hq0 : cv = 34 := by simpa using hq1
          clear hq0
          go_wp2_with (first | (at_builtin; refine wpList_append_fits _ rfl (.tmp 30) (.tmp 31) 22 rfl w.heap.size 5 i0 1 Try.underlying22 hi hz1 w.heap.size m C _ rfl (hown.alloc _) ⟨wr.heap.size, 0, none⟩ 1 1 [.int .u8 92] rfl rfl (one_new _ _ _) (by intro u hu; simp at hu; subst hu; rfl) (by omega) ?_; intro w2 hown2 hgrow2) | (at_builtin; refine wpList_append_fits _ rfl (.tmp 33) (.tmp 35) 22 rfl w.heap.size 5 i0 1 Try.underlying22 hi hz1 w.heap.size (m + 1) C _ rfl (hown2.alloc _) ⟨w2.heap.size, 0, none⟩ 1 1 [.int .u8 cv] rfl rfl (one_new _ _ _) (by intro u hu; simp at hu; subst hu; rfl) (by omega) ?_; intro w3 hown3 hgrow3))
          have hB2 : w.heap.size ≤ w2.heap.size := by have := hgrow2.size; simp at this; omega
          go_roundg (len - (k + 1))
          case measure => have := HG.out; omega
          case rel =>
            have hb2 := (HBL.out.alloc hBB _).grown hgrow2 (by simp; omega) (fun k hk => by cases hk; exact Nat.le_refl _)
            refine ⟨k + 1, m + 1 + 1, by omega, rfl, by go_num, rfl, ?_, ?_, (hb2.alloc hb2.size _).grown hgrow3 (by simp; omega) (fun k hk => by cases hk; exact Nat.le_refl _)⟩
            · rw [qt_take_hit zs k cv (by omega) HCV.out HQ.out]
              have e : vals (34 :: (qt (zs.take k) ++ [92] ++ [cv])) = vals (34 :: qt (zs.take k)) ++ [.int .u8 92] ++ [.int .u8 cv] := by simp [vals]
              rw [e]
              exact hown3
            · rw [qt_take_hit zs k cv (by omega) HCV.out HQ.out]
              have := HL.out
              simp at this ⊢
              omega
      · have hq1 : (cv == 34) = false := by simp; omega
        have hq2 : (cv == 92) = false := by simp; omega
        go_wp2_with (at_builtin; refine wpList_append_fits _ rfl (.tmp 33) (.tmp 35) 22 rfl w.heap.size 5 i0 1 Try.underlying22 hi hz1 w.heap.size m C _ rfl (hown.alloc _) ⟨wr.heap.size, 0, none⟩ 1 1 [.int .u8 cv] rfl rfl (one_new _ _ _) (by intro u hu; simp at hu; subst hu; rfl) (by omega) ?_; intro w2 hown2 hgrow2)
        go_roundg (len - (k + 1))
        case measure => have := HG.out; omega
        case rel =>
          refine ⟨k + 1, m + 1, by omega, rfl, by go_num, rfl, ?_, ?_, (HBL.out.alloc hBB _).grown hgrow2 (by simp; omega) (fun k hk => by cases hk; exact Nat.le_refl _)⟩
          · rw [qt_take_miss zs k cv (by omega) HCV.out hq]
            have e : vals (34 :: (qt (zs.take k) ++ [cv])) = vals (34 :: qt (zs.take k)) ++ [.int .u8 cv] := by simp [vals]
            rw [e]
            exact hown2
          · rw [qt_take_miss zs k cv (by omega) HCV.out hq]
            have := HL.out
            simp at this ⊢
            omega
    · have hlt' : ¬ (k : Int) < (len : Int) := by omega
      have hroom : m + 1 ≤ C := by have := HCC.out; omega
      have HBL : Hid (Below w.heap.size w wr) := hbl
      clear hbl
      go_wp2_with (at_builtin; refine wpList_append_fits _ rfl (.tmp 37) (.tmp 38) 22 rfl w.heap.size 5 i0 1 Try.underlying22 hi hz1 w.heap.size m C _ rfl (hown.alloc _) ⟨wr.heap.size, 0, none⟩ 1 1 [.int .u8 34] rfl rfl (one_new _ _ _) (by intro u hu; simp at hu; subst hu; rfl) (by omega) ?_; intro w2 hown2 hgrow2)
      go_ret
      have e : zs.take k = zs := List.take_of_length_le (by omega)
      have hL := HL.out
      rw [e] at hL hown2
      have hnm : m + 1 = n := by have := HN.out; simp at hL; omega
      subst hnm
      refine ⟨rfl, ?_, (HBL.out.alloc hBB _).grown hgrow2 (by simp; omega) (fun k hk => by cases hk; exact Nat.le_refl _)⟩
      exact hown2

end Go.Proofs.Qxb6601282a
