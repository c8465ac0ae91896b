import Derived.Test.Qxb6601282aShelf
import Derived.Lib.IndexLaws
namespace Go.Proofs.Qxb6601282a
open Go.RowKit

def qt : List Int → List Int
  | [] => []
  | c :: r => if c = 34 ∨ c = 92 then 92 :: c :: qt r else c :: qt r

theorem qt_append (a b : List Int) : qt (a ++ b) = qt a ++ qt b := by
  induction a with
  | nil => rfl
  | cons c r ih =>
    simp only [List.cons_append, qt, ih]
    split <;> simp

theorem qt_len (a : List Int) : a.length ≤ (qt a).length ∧ (qt a).length ≤ 2 * a.length := by
  induction a with
  | nil => exact ⟨Nat.le_refl _, Nat.le_refl _⟩
  | cons c r ih =>
    simp only [qt]
    split <;> simp <;> omega

def isB (l : List Int) : Prop := ∀ z ∈ l, 0 ≤ z ∧ z ≤ 255

theorem qt_isB (a : List Int) (h : isB a) : isB (qt a) := by
  induction a with
  | nil => exact h
  | cons c r ih =>
    have hr : isB (qt r) := ih fun z hz => h z (List.mem_cons_of_mem _ hz)
    have hc := h c (List.mem_cons_self ..)
    intro z hz
    simp only [qt] at hz
    split at hz
    · rcases List.mem_cons.1 hz with rfl | hz
      · omega
      · rcases List.mem_cons.1 hz with rfl | hz
        · exact hc
        · exact hr z hz
    · rcases List.mem_cons.1 hz with rfl | hz
      · exact hc
      · exact hr z hz

theorem qt_no34 (a : List Int) (h : (34 : Int) ∉ a) : (34 : Int) ∉ qt a := by
  induction a with
  | nil => simp [qt]
  | cons c r ih =>
    have h1 : ¬ (34 : Int) = c := fun e => h (by simp [e])
    have h2 : (34 : Int) ∉ r := fun e => h (by simp [e])
    simp only [qt]
    split
    · intro hm
      rcases List.mem_cons.1 hm with e | hm
      · omega
      · rcases List.mem_cons.1 hm with e | hm
        · exact h1 e
        · exact ih h2 hm
    · intro hm
      rcases List.mem_cons.1 hm with e | hm
      · exact h1 e
      · exact ih h2 hm

theorem first34 (v : List Int) : (34 : Int) ∉ v ∨ ∃ x y, v = x ++ 34 :: y ∧ (34 : Int) ∉ x := by
  induction v with
  | nil => left; simp
  | cons c r ih =>
    by_cases hc : c = 34
    · right; exact ⟨[], r, by simp [hc], by simp⟩
    · rcases ih with h | ⟨x, y, rfl, h⟩
      · left; intro hm; rcases List.mem_cons.1 hm with e | hm
        · exact hc e.symm
        · exact h hm
      · right; refine ⟨c :: x, y, by simp, ?_⟩
        intro hm; rcases List.mem_cons.1 hm with e | hm
        · exact hc e.symm
        · exact h hm

theorem u8_34 (c : Int) (h : 0 ≤ c ∧ c ≤ 255) : (c.toNat.toUInt8 = (34 : UInt8)) ↔ c = 34 := by
  constructor
  · intro e
    have := congrArg UInt8.toNat e
    simp at this
    omega
  · rintro rfl; rfl

theorem idx34 (A B : List Int) (hb : isB A) (h : (34 : Int) ∉ A) : Lib.indexByte (Lib.bytesOf (A ++ 34 :: B)) 34 = (A.length : Int) := by
  induction A with
  | nil => rfl
  | cons c r ih =>
    have h1 : ¬ c = 34 := fun e => h (by simp [e])
    have h2 : (34 : Int) ∉ r := fun e => h (by simp [e])
    have h3 := ih (fun z hz => hb z (List.mem_cons_of_mem _ hz)) h2
    have h4 : (UInt8.ofNat c.toNat == (34 : UInt8)) = false := by
      have := u8_34 c (hb c (List.mem_cons_self ..))
      simp only [beq_eq_false_iff_ne, ne_eq]
      exact fun e => h1 (this.1 e)
    simp only [List.cons_append, Lib.bytesOf, List.map_cons] at h3 ⊢
    rw [Lib.indexByte, h4]
    simp only [Bool.false_eq_true, if_false]
    rw [h3, if_neg (by simp)]
    simp

def tc : List Int → Nat
  | [] => 0
  | a :: r => if a = 92 then tc r + 1 else 0

theorem tc_of (R : List Int) : ∀ c, c < R.length → (∀ k, k < c → R.getD k 0 = 92) → R.getD c 0 ≠ 92 → tc R = c := by
  induction R with
  | nil => intro c h; simp at h
  | cons a r ih =>
    intro c hc h1 h2
    cases c with
    | zero =>
      simp only [tc]
      rw [if_neg (by simpa using h2)]
    | succ c =>
      have ha : a = 92 := by simpa using h1 0 (by omega)
      simp only [tc]
      rw [if_pos ha, ih c (by simpa using hc) (fun k hk => by simpa using h1 (k + 1) (by omega)) (by simpa using h2)]

theorem tc_pair (R : List Int) : tc (92 :: 92 :: R) = tc R + 2 := by simp [tc]

theorem tc_qt (l : List Int) (h : (34 : Int) ∉ l) (Z : List Int) (hz : tc Z = 0) : tc ((qt l.reverse).reverse ++ Z) % 2 = 0 := by
  induction l with
  | nil => simp [qt, hz]
  | cons a r ih =>
    have h1 : ¬ a = 34 := fun e => h (by simp [e])
    have h2 : (34 : Int) ∉ r := fun e => h (by simp [e])
    have h3 := ih h2
    rw [List.reverse_cons, qt_append, List.reverse_append]
    by_cases ha : a = 92
    · subst ha
      have e : (qt [92]).reverse = [92, 92] := by decide
      rw [e]
      show tc (92 :: 92 :: ((qt r.reverse).reverse ++ Z)) % 2 = 0
      rw [tc_pair]
      omega
    · have e : (qt [a]).reverse = [a] := by simp [qt, h1, ha]
      rw [e]
      show tc (a :: ((qt r.reverse).reverse ++ Z)) % 2 = 0
      simp [tc, ha]

theorem tc_even (x : List Int) (h : (34 : Int) ∉ x) : tc ((34 :: qt x).reverse) % 2 = 0 := by
  have := tc_qt x.reverse (by simpa using h) [34] (by decide)
  rw [List.reverse_reverse] at this
  rw [List.reverse_cons]
  exact this
theorem tc_odd (x : List Int) (h : (34 : Int) ∉ x) : tc ((34 :: (qt x ++ [92])).reverse) % 2 = 1 := by
  have := tc_even x h
  rw [List.reverse_cons] at this
  rw [List.reverse_cons, List.reverse_append]
  show tc (92 :: ((qt x).reverse ++ [34])) % 2 = 1
  simp only [tc]
  rw [if_pos trivial]
  omega

theorem back (D M rest : List Int) (i k : Nat) (h : D.drop i = 34 :: (M ++ rest)) (hk : k < M.length + 1) : D.getD (i + M.length - k) 0 = ((34 :: M).reverse).getD k 0 := by
  have e1 : D.getD (i + M.length - k) 0 = (D.drop i).getD (M.length - k) 0 := by
    rw [List.getD_eq_getElem?_getD, List.getD_eq_getElem?_getD, List.getElem?_drop]
    congr 2
    omega
  rw [e1, h]
  rw [List.getD_eq_getElem?_getD, List.getD_eq_getElem?_getD, List.getElem?_reverse (by simp; omega)]
  have e2 : (34 :: (M ++ rest))[M.length - k]? = (34 :: M)[M.length - k]? := by
    rw [show (34 : Int) :: (M ++ rest) = (34 :: M) ++ rest by simp, List.getElem?_append_left (by simp; omega)]
  rw [e2]
  congr 2

theorem drop_isB (D : List Int) (h : isB D) (i : Nat) : isB (D.drop i) := fun z hz => h z (List.mem_of_mem_drop hz)

theorem step (D u tail : List Int) (j T : Nat) (h : D.drop j = 34 :: (qt u ++ 34 :: tail)) (hT : j + (qt u).length + 1 = T) (hB : isB D) :
    ∃ (m : Nat) (R : List Int), Lib.indexByte (Lib.bytesOf (D.drop (j + 1))) 34 = (m : Int) ∧ j + 1 + m < D.length ∧ R.length = m + 1 ∧
      (∀ k, k < m + 1 → D.getD (j + m - k) 0 = R.getD k 0) ∧ R.getD m 0 = 34 ∧
      ((tc R % 2 = 0 ∧ j + 1 + m = T) ∨ (tc R % 2 = 1 ∧ ∃ y, y.length < u.length ∧ D.drop (j + 1 + m) = 34 :: (qt y ++ 34 :: tail) ∧ (j + 1 + m) + (qt y).length + 1 = T)) := by
  have hd1 : D.drop (j + 1) = qt u ++ 34 :: tail := by
    have := congrArg List.tail h
    simpa using this
  have hl := congrArg List.length h
  simp at hl
  have hbd : isB (qt u ++ 34 :: tail) := hd1 ▸ drop_isB D hB (j + 1)
  have last : ∀ M : List Int, ((34 :: M).reverse).getD M.length 0 = 34 := by
    intro M
    rw [List.getD_eq_getElem?_getD, List.getElem?_reverse (by simp)]
    simp
  rcases first34 u with h34 | ⟨x, y, rfl, h34⟩
  · refine ⟨(qt u).length, (34 :: qt u).reverse, ?_, by omega, by simp, fun k hk => back D (qt u) _ j k h hk, last _, Or.inl ⟨tc_even u h34, by omega⟩⟩
    rw [hd1]
    exact idx34 _ _ (fun z hz => hbd z (List.mem_append_left _ hz)) (qt_no34 u h34)
  · have e : qt (x ++ 34 :: y) = (qt x ++ [92]) ++ 34 :: qt y := by
      rw [qt_append]
      simp [qt]
    rw [e] at h hd1 hT hl hbd
    have ea : (qt x ++ [92] ++ 34 :: qt y) ++ 34 :: tail = (qt x ++ [92]) ++ 34 :: (qt y ++ 34 :: tail) := by simp
    rw [ea] at h hd1 hbd
    have eM : (qt x ++ [92]).length = (qt x).length + 1 := by simp
    have no : (34 : Int) ∉ qt x ++ [92] := by
      intro hm
      rcases List.mem_append.1 hm with hm | hm
      · exact qt_no34 x h34 hm
      · simp at hm
    refine ⟨(qt x).length + 1, (34 :: (qt x ++ [92])).reverse, ?_, by simp at hl; omega, by simp, fun k hk => ?_, ?_, Or.inr ⟨tc_odd x h34, y, by simp; omega, ?_, by simp at hT; omega⟩⟩
    · rw [hd1, ← eM]
      exact idx34 _ _ (fun z hz => hbd z (List.mem_append_left _ hz)) no
    · rw [← eM]
      exact back D (qt x ++ [92]) _ j k h (by rw [eM]; exact hk)
    · rw [← eM]; exact last _
    · have := congrArg (List.drop ((qt x).length + 1)) hd1
      rw [List.drop_drop, ← eM, List.drop_left] at this
      rw [← eM]
      exact this

end Go.Proofs.Qxb6601282a
