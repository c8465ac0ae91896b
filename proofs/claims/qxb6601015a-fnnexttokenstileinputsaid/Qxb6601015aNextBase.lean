import Derived.Test.Qxb6601015aSpace
import Derived.Test.Qxb6601015aNum
import Derived.Test.Qxb6601015aStr
import Derived.Deep.CutBlock
namespace Go.Proofs.Qxb6601015a
open Go.RowKit

structure Nx (b : Nat) (w w' : World) (q : Nat) : Prop where
  os : w'.os = w.os
  tape : w'.tape = w.tape
  output : w'.output = w.output
  size : w.heap.size ≤ w'.heap.size
  block : ∀ k, k < w.heap.size → k ≠ b → w'.heap[k]? = w.heap[k]?
  pos : w'.cell? ⟨b, 1, none⟩ = some (.int .i64 (q : Int))

def tokZ : Obj := .cells #[.int .i64 0, .string ⟨#[]⟩, .int .i64 0] 25

theorem Nx.of_at {b : Nat} {w w1 : World} {q : Nat} (hb : b < w.heap.size) (ha : At b (w.alloc tokZ) w1 q) (v0 v1 v2 : Value) :
    Nx b w (((w1.setCell ⟨w.heap.size, 0, none⟩ v0).setCell ⟨w.heap.size, 1, none⟩ v1).setCell ⟨w.heap.size, 2, none⟩ v2) q := by
  have hne : ¬ w.heap.size = b := by omega
  refine ⟨ha.1.os, ha.1.tape, ha.1.output, ?_, ?_, ?_⟩
  · rw [World.size_setCell, World.size_setCell, World.size_setCell, ha.1.size]; simp
  · intro k hk hkb
    have e : ¬ k = w.heap.size := by omega
    rw [heap_setCell_other _ _ _ _ e, heap_setCell_other _ _ _ _ e, heap_setCell_other _ _ _ _ e, ha.1.block k hkb, Below.heap_alloc _ _ _ hk]
  · rw [World.cell?_setCell_other _ _ _ _ (by simp), World.cell?_setCell_other _ _ _ _ (by simp), World.cell?_setCell_other _ _ _ _ (by simp)]
    exact ha.2

theorem ext_end (s : ByteArray) (q : Nat) : (⟨#[]⟩ : ByteArray) = s.extract q q := by
  apply ByteArray.ext; simp

def Says (s : ByteArray) (p b : Nat) (w : World) (e : Ending) (w' : World) : Prop :=
  ∃ (k : Int) (st q : Nat) (T : ByteArray), e = .returned (.agg #[.int .i64 k, .string T, .int .i64 (st : Int)]) ∧
      T = s.extract st q ∧ p ≤ st ∧ st ≤ q ∧ q ≤ s.size ∧ ((k = 0 ∧ st = s.size) ∨ (1 ≤ k ∧ k ≤ 7 ∧ st < q)) ∧ Nx b w w' q

theorem hasPrefix_any (s : ByteArray) (q : Nat) (p : ByteArray) (w : World) :
    Calls Try.prog 38 #[.string (s.extract q s.size), .string p] w fun e w' => e = .returned (.bool (pre2 s q p)) ∧ w' = w := hasPrefix_is s q p _ rfl w

def punI (c : Int) : Int := Lib.indexByte (ByteArray.mk #[40, 41, 44, 46, 59, 58, 42, 43, 45, 47, 61]).data.toList c.toNat.toUInt8
theorem pun_any (c : Int) (w : World) :
    Calls Try.prog 39 #[.string ⟨#[40, 41, 44, 46, 59, 58, 42, 43, 45, 47, 61]⟩, .int .u8 c] w fun e w' => e = .returned (.int .i64 (punI c)) ∧ w' = w :=
  Try.strings_IndexByte _ _ w

theorem cell_r (b : Nat) (w w1 : World) (q : Nat) (hb : b < w.heap.size) (ha : At b (w.alloc tokZ) w1 q) :
    w1.cell? ⟨w.heap.size, 0, none⟩ = some (.int .i64 0) ∧ w1.cell? ⟨w.heap.size, 1, none⟩ = some (.string ⟨#[]⟩) ∧ w1.cell? ⟨w.heap.size, 2, none⟩ = some (.int .i64 0) ∧ (∀ i, w1.frozen? ⟨w.heap.size, i, none⟩ = false) := by
  have hne : ¬ w.heap.size = b := by omega
  refine ⟨?_, ?_, ?_, ?_⟩
  · rw [ha.1.cell _ (by simp), tokZ, World.cell?_alloc_at _ _ _ _ rfl]; rfl
  · rw [ha.1.cell _ (by simp), tokZ, World.cell?_alloc_at _ _ _ _ rfl]; rfl
  · rw [ha.1.cell _ (by simp), tokZ, World.cell?_alloc_at _ _ _ _ rfl]; rfl
  · intro i; rw [ha.1.frozen, tokZ, World.frozen?_alloc_at _ _ _ _ rfl]

end Go.Proofs.Qxb6601015a
