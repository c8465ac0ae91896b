import Derived.Test.Qxb6601015aNextLet
import Derived.Test.Qxb6601015aNextNum
import Derived.Test.Qxb6601015aNextDot
import Derived.Test.Qxb6601015aNextStr
import Derived.Test.Qxb6601015aNextDol
import Derived.Test.Qxb6601015aNextCom
import Derived.Test.Qxb6601015aNextCol
import Derived.Test.Qxb6601015aNextBar
import Derived.Test.Qxb6601015aNextPun
import Derived.Test.Qxb6601015aNextPunA
import Derived.Test.Qxb6601015aNextPunB
import Derived.Test.Qxb6601015aNextLtA
import Derived.Test.Qxb6601015aNextLtB
import Derived.Test.Qxb6601015aNextLtC
import Derived.Test.Qxb6601015aNextLtD
import Derived.Test.Qxb6601015aNextGtA
import Derived.Test.Qxb6601015aNextGtB
import Derived.Test.Qxb6601015aNextGtC
import Derived.Test.Qxb6601015aNextDef
import Derived.Test.Qxb6601015aNextDefA
import Derived.Test.Qxb6601015aNextDefB
namespace Go.Proofs.Qxb6601015a
open Go.RowKit

theorem pre2_head (s : ByteArray) (q : Nat) (a b : UInt8) (hlt : q < s.size) (h : pre2 s q ⟨#[a, b]⟩ = true) : (s[q].toNat : Int) = (a.toNat : Int) := by
  unfold pre2 Lib.hasPrefix at h
  have e : (s.extract q s.size).data.toList[0]? = some s[q] := by
    have h2 : 0 < (s.extract q s.size).data.toList.length := by rw [len_ext]; omega
    rw [List.getElem?_eq_getElem h2]
    simp
    rfl
  revert h e
  generalize (s.extract q s.size).data.toList = l
  cases l with
  | nil => intro h; simp at h
  | cons x l => intro h e; simp at h e; rw [← e, h.1]

theorem pre2_no (s : ByteArray) (q : Nat) (a b : UInt8) (hlt : q < s.size) (h : ¬ (s[q].toNat : Int) = (a.toNat : Int)) : pre2 s q ⟨#[a, b]⟩ = false := by
  cases e : pre2 s q ⟨#[a, b]⟩
  · rfl
  · exact (h (pre2_head s q a b hlt e)).elim

set_option maxRecDepth 100000 in
set_option maxHeartbeats 1600000 in
theorem next_eof (s : ByteArray) (p b q : Nat) (w : World) (hs : s.size ≤ 65536) (hp : p ≤ s.size) (hb : b < w.heap.size) (hq : skp s p = q) (he : q = s.size)
    (h0 : w.cell? ⟨b, 0, none⟩ = some (.string s)) (h1 : w.cell? ⟨b, 1, none⟩ = some (.int .i64 (p : Int))) (hf : w.frozen? ⟨b, 1, none⟩ = false) :
    Calls Try.prog 28 #[.pointer (some ⟨b, 0, none⟩)] w (Says s p b w) := by
  have k0 : (w.alloc tokZ).cell? ⟨b, 0, none⟩ = some (.string s) := by rw [World.cell?_alloc_past _ _ _ hb]; exact h0
  have k1 : (w.alloc tokZ).cell? ⟨b, 1, none⟩ = some (.int .i64 (p : Int)) := by rw [World.cell?_alloc_past _ _ _ hb]; exact h1
  have kf : (w.alloc tokZ).frozen? ⟨b, 1, none⟩ = false := by rw [World.frozen?_alloc_past _ _ _ hb]; exact hf
  have hq1 : p ≤ q := by have := skp_bd s p hp; omega
  have he' : ((q : Int) == (s.size : Int)) = true := by simp [he]
  have HQ : Hid (skp s p = q) := hq
  have HE : Hid (q = s.size) := he
  clear h0 h1 hf hq he
  go_enter Try.func28, Try.ntmps28
  go_wp2_with fail
  refine (skipSpace_any s p b (w.alloc tokZ) hs hp k0 k1 kf).mono ?_
  rintro e w1 ⟨rfl, ha⟩
  rw [HQ.out] at ha
  have hc0 := ha.cell0 k0
  have hc1 := ha.2
  obtain ⟨r0, r1, r2, f0⟩ := cell_r b w w1 q hb ha
  have HA : Hid (At b (w.alloc tokZ) w1 q) := ha
  clear ha HQ k1
  go_wp2_with fail
  refine bodyPost_ret (v := .agg #[.int .i64 0, .string ⟨#[]⟩, .int .i64 (q : Int)]) (by simp [results, Try.results28, go_sem, r0, r1, r2]) rfl ?_
  exact ⟨0, q, q, ⟨#[]⟩, rfl, ext_end s q, hq1, by omega, Nat.le_of_eq HE, Or.inl ⟨rfl, HE⟩, Nx.of_at hb HA.out _ _ _⟩

theorem bf {c n : Int} (h : ¬ c = n) : (c == n) = false := by simpa using h

theorem next_any (s : ByteArray) (p b : Nat) (w : World) (hs : s.size ≤ 65536) (hp : p ≤ s.size) (hb : b < w.heap.size)
    (h0 : w.cell? ⟨b, 0, none⟩ = some (.string s)) (h1 : w.cell? ⟨b, 1, none⟩ = some (.int .i64 (p : Int))) (hf : w.frozen? ⟨b, 1, none⟩ = false) :
    Calls Try.prog 28 #[.pointer (some ⟨b, 0, none⟩)] w (Says s p b w) := by
  obtain ⟨q, hq⟩ : ∃ q, skp s p = q := ⟨_, rfl⟩
  have hbd := skp_bd s p hp
  rw [hq] at hbd
  by_cases he : q = s.size
  · exact next_eof s p b q w hs hp hb hq he h0 h1 hf
  have hlt : q < s.size := by omega
  cases hl : letB (s[q].toNat : Int)
  case true => exact next_let s p b q w hs hp hb hq hlt h0 h1 hf hl
  cases hd : digB (s[q].toNat : Int)
  case true => exact next_num s p b q w hs hp hb hq hlt h0 h1 hf hl hd
  cases h46 : ((s[q].toNat : Int) == 46)
  case true =>
    have ec : (s[q].toNat : Int) = 46 := by simpa using h46
    have n39 := bf (c := (s[q].toNat : Int)) (n := 39) (by omega)
    have n36 := bf (c := (s[q].toNat : Int)) (n := 36) (by omega)
    have t1 := pre2_no s q 47 42 hlt (by rw [ec]; decide)
    have t2 := pre2_no s q 58 58 hlt (by rw [ec]; decide)
    have t3 := pre2_no s q 124 124 hlt (by rw [ec]; decide)
    have hi : 0 ≤ punI (s[q].toNat : Int) := by rw [ec]; decide
    by_cases hl2 : q + 1 < s.size
    · cases hd2 : digB (s[q + 1].toNat : Int)
      · exact next_punB s p b q w hs hp hb hq hlt h0 h1 hf hl hd h46 hl2 hd2 n39 n36 t1 t2 t3 hi
      · exact next_dot s p b q w hs hp hb hq hlt h0 h1 hf hl hd h46 hl2 hd2
    · exact next_punA s p b q w hs hp hb hq hlt h0 h1 hf hl hd h46 hl2 n39 n36 t1 t2 t3 hi
  cases h39 : ((s[q].toNat : Int) == 39)
  case true => exact next_str s p b q w hs hp hb hq hlt h0 h1 hf hl hd h46 h39
  cases h36 : ((s[q].toNat : Int) == 36)
  case true =>
    have ec : (s[q].toNat : Int) = 36 := by simpa using h36
    have t1 := pre2_no s q 47 42 hlt (by rw [ec]; decide)
    have t2 := pre2_no s q 58 58 hlt (by rw [ec]; decide)
    have t3 := pre2_no s q 124 124 hlt (by rw [ec]; decide)
    have hi : ¬ 0 ≤ punI (s[q].toNat : Int) := by rw [ec]; decide
    have n60 := bf (c := (s[q].toNat : Int)) (n := 60) (by omega)
    have n62 := bf (c := (s[q].toNat : Int)) (n := 62) (by omega)
    by_cases hl2 : q + 1 < s.size
    · cases hd2 : digB (s[q + 1].toNat : Int)
      · exact next_defB s p b q w hs hp hb hq hlt h0 h1 hf hl hd h46 h39 h36 hl2 hd2 t1 t2 t3 hi n60 n62
      · exact next_dol s p b q w hs hp hb hq hlt h0 h1 hf hl hd h46 h39 h36 hl2 hd2
    · exact next_defA s p b q w hs hp hb hq hlt h0 h1 hf hl hd h46 h39 h36 hl2 t1 t2 t3 hi n60 n62
  cases t1 : pre2 s q ⟨#[47, 42]⟩
  case true => exact next_com s p b q w hs hp hb hq hlt h0 h1 hf hl hd h46 h39 h36 t1
  cases t2 : pre2 s q ⟨#[58, 58]⟩
  case true => exact next_col s p b q w hs hp hb hq hlt h0 h1 hf hl hd h46 h39 h36 t1 t2
  cases t3 : pre2 s q ⟨#[124, 124]⟩
  case true => exact next_bar s p b q w hs hp hb hq hlt h0 h1 hf hl hd h46 h39 h36 t1 t2 t3
  by_cases hi : 0 ≤ punI (s[q].toNat : Int)
  · exact next_pun s p b q w hs hp hb hq hlt h0 h1 hf hl hd h46 h39 h36 t1 t2 t3 hi
  cases h60 : ((s[q].toNat : Int) == 60)
  case true =>
    by_cases hl2 : q + 1 < s.size
    · cases hy61 : ((s[q + 1].toNat : Int) == 61)
      · cases hy62 : ((s[q + 1].toNat : Int) == 62)
        · exact next_ltD s p b q w hs hp hb hq hlt h0 h1 hf hl hd h46 h39 h36 t1 t2 t3 hi h60 hl2 hy61 hy62
        · exact next_ltC s p b q w hs hp hb hq hlt h0 h1 hf hl hd h46 h39 h36 t1 t2 t3 hi h60 hl2 hy61 hy62
      · exact next_ltB s p b q w hs hp hb hq hlt h0 h1 hf hl hd h46 h39 h36 t1 t2 t3 hi h60 hl2 hy61
    · exact next_ltA s p b q w hs hp hb hq hlt h0 h1 hf hl hd h46 h39 h36 t1 t2 t3 hi h60 hl2
  cases h62 : ((s[q].toNat : Int) == 62)
  case true =>
    by_cases hl2 : q + 1 < s.size
    · cases hy61 : ((s[q + 1].toNat : Int) == 61)
      · exact next_gtC s p b q w hs hp hb hq hlt h0 h1 hf hl hd h46 h39 h36 t1 t2 t3 hi h60 h62 hl2 hy61
      · exact next_gtB s p b q w hs hp hb hq hlt h0 h1 hf hl hd h46 h39 h36 t1 t2 t3 hi h60 h62 hl2 hy61
    · exact next_gtA s p b q w hs hp hb hq hlt h0 h1 hf hl hd h46 h39 h36 t1 t2 t3 hi h60 h62 hl2
  exact next_def s p b q w hs hp hb hq hlt h0 h1 hf hl hd h46 h39 h36 t1 t2 t3 hi h60 h62

end Go.Proofs.Qxb6601015a
