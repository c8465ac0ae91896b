import Derived.Test.Qxb6601015aNextAny
namespace Go.Proofs.Qxb6601015a
open Go.RowKit

def SaysZ (s : ByteArray) (p : Nat) (w : World) (e : Ending) (w' : World) : Prop :=
  ∃ (k : Int) (st q : Nat) (T : ByteArray), e = .returned (.tuple #[.agg #[.int .i64 k, .string T, .int .i64 (st : Int)], .int .i64 (q : Int)]) ∧
      T = s.extract st q ∧ p ≤ st ∧ st ≤ q ∧ q ≤ s.size ∧ ((k = 0 ∧ st = s.size) ∨ (1 ≤ k ∧ k ≤ 7 ∧ st < q)) ∧ Below w.heap.size w w'

def lexO (s : ByteArray) (p : Nat) : Obj := .cells #[.string s, .int .i64 (p : Int)] 43

theorem zz_facts (s : ByteArray) (p q : Nat) (w w1 : World) (h : Nx (w.heap.size + 1) ((w.alloc tokZ).alloc (lexO s p)) w1 q) :
    (w1.cell? ⟨w.heap.size, 0, none⟩ = some (.int .i64 0) ∧ w1.cell? ⟨w.heap.size, 1, none⟩ = some (.string ⟨#[]⟩) ∧ w1.cell? ⟨w.heap.size, 2, none⟩ = some (.int .i64 0) ∧ (∀ i, w1.frozen? ⟨w.heap.size, i, none⟩ = false)) ∧
    w.heap.size + 1 < w1.heap.size ∧ Below w.heap.size w w1 := by
  have hz : ((w.alloc tokZ).alloc (lexO s p)).heap.size = w.heap.size + 2 := by simp
  have hblk : w1.heap[w.heap.size]? = ((w.alloc tokZ).alloc (lexO s p)).heap[w.heap.size]? := h.block _ (by omega) (by omega)
  have hc : ∀ i, w1.cell? ⟨w.heap.size, i, none⟩ = (#[.int .i64 0, .string ⟨#[]⟩, .int .i64 0] : Array Value)[i]? := by
    intro i
    rw [World.cell?_of_block (w := (w.alloc tokZ).alloc (lexO s p)) (a := ⟨w.heap.size, i, none⟩) hblk, World.cell?_alloc_past _ _ _ (by simp), tokZ, World.cell?_alloc_at _ _ _ _ rfl]
  refine ⟨⟨hc 0, hc 1, hc 2, ?_⟩, by have := h.size; omega, ?_⟩
  · intro i
    rw [World.frozen?_of_block (w := (w.alloc tokZ).alloc (lexO s p)) (a := ⟨w.heap.size, i, none⟩) hblk, World.frozen?_alloc_past _ _ _ (by simp), tokZ, World.frozen?_alloc_at _ _ _ _ rfl]
  · refine ⟨h.os, h.tape, h.output, by have := h.size; omega, ?_⟩
    intro k hk
    rw [h.block k (by omega) (by omega), Below.heap_alloc _ _ _ (by simp; omega), Below.heap_alloc _ _ _ hk]

set_option maxRecDepth 100000 in
set_option maxHeartbeats 1600000 in
theorem zz_any (s : ByteArray) (p : Nat) (w : World) (hs : s.size ≤ 65536) (hp : p ≤ s.size) :
    Calls Try.prog 12 #[.string s, .int .i64 (p : Int)] w (SaysZ s p w) := by
  go_enter Try.func12, Try.ntmps12
  go_wp2_with fail
  refine (next_any s p (w.heap.size + 1) ((w.alloc tokZ).alloc (lexO s p)) hs hp (by simp) ?_ ?_ ?_).mono ?_
  · rw [lexO, World.cell?_alloc_at _ _ _ _ (by simp)]; rfl
  · rw [lexO, World.cell?_alloc_at _ _ _ _ (by simp)]; rfl
  · rw [lexO, World.frozen?_alloc_at _ _ _ _ (by simp)]
  rintro e w1 ⟨k, st, q, T, rfl, hT, h1, h2, h3, h4, h5⟩
  have hpos := h5.pos
  obtain ⟨⟨r0, r1, r2, f0⟩, hz, hbl⟩ := zz_facts s p q w w1 h5
  have hz0 : w.heap.size < w1.heap.size := by omega
  have HT : Hid (T = s.extract st q ∧ ((k = 0 ∧ st = s.size) ∨ (1 ≤ k ∧ k ≤ 7 ∧ st < q)) ∧ Below w.heap.size w w1) := ⟨hT, h4, hbl⟩
  clear h5 hT h4 hbl
  go_wp2_with fail
  go_region
  go_wp2_with fail
  refine bodyPost_ret (v := .tuple #[.agg #[.int .i64 k, .string T, .int .i64 (st : Int)], .int .i64 (q : Int)]) (by simp [results, Try.results12, go_sem, r0, r1, r2, hz0]) rfl ?_
  exact ⟨k, st, q, T, rfl, HT.out.1, h1, h2, h3, HT.out.2.1, ((((HT.out.2.2.setCell (Nat.le_refl _) _).setCell (Nat.le_refl _) _).setCell (Nat.le_refl _) _).alloc (by simp; omega) _).drew⟩

end Go.Proofs.Qxb6601015a
