import Derived.WalkKit
import Derived.WalkSpells
import Derived.Deep.Draws
namespace Go.Proofs.Qxb6601015a
open Go.RowKit

def byteAt (s : ByteArray) (k : Nat) : Int := if h : k < s.size then (s[k].toNat : Int) else 0
theorem byteAt_eq (s : ByteArray) (k : Nat) (h : k < s.size) : byteAt s k = (s[k].toNat : Int) := by
  unfold byteAt; rw [dif_pos h]

structure Only (b : Nat) (w w' : World) : Prop where
  os : w'.os = w.os
  tape : w'.tape = w.tape
  output : w'.output = w.output
  size : w'.heap.size = w.heap.size
  block : ∀ k, k ≠ b → w'.heap[k]? = w.heap[k]?
  cell : ∀ a : Addr, a ≠ ⟨b, 1, none⟩ → w'.cell? a = w.cell? a
  frozen : ∀ a, w'.frozen? a = w.frozen? a

theorem Only.refl (b : Nat) (w : World) : Only b w w := ⟨rfl, rfl, rfl, rfl, fun _ _ => rfl, fun _ _ => rfl, fun _ => rfl⟩
theorem Only.trans {b : Nat} {w w1 w2 : World} (h : Only b w w1) (k : Only b w1 w2) : Only b w w2 :=
  ⟨k.os.trans h.os, k.tape.trans h.tape, k.output.trans h.output, k.size.trans h.size, fun i hi => (k.block i hi).trans (h.block i hi), fun a ha => (k.cell a ha).trans (h.cell a ha), fun a => (k.frozen a).trans (h.frozen a)⟩
theorem Only.drewN {b : Nat} {w w1 : World} (h : Only b w w1) (n : Nat) : Only b w (w1.drewN n) :=
  ⟨h.os, h.tape, h.output, h.size, h.block, h.cell, h.frozen⟩
theorem Only.drew {b : Nat} {w w1 : World} (h : Only b w w1) : Only b w w1.drew :=
  ⟨h.os, h.tape, h.output, h.size, h.block, h.cell, h.frozen⟩
theorem Only.setCell {b : Nat} {w w1 : World} (h : Only b w w1) (v : Value) : Only b w (w1.setCell ⟨b, 1, none⟩ v) :=
  ⟨h.os, h.tape, h.output, by rw [World.size_setCell]; exact h.size,
   fun k hk => by rw [heap_setCell_other _ _ _ _ hk]; exact h.block k hk,
   fun a ha => by rw [World.cell?_setCell_other _ _ _ _ (Ne.symm ha)]; exact h.cell a ha,
   fun a => by rw [World.frozen?_setCell]; exact h.frozen a⟩
theorem Only.below {b B : Nat} {w w1 : World} (h : Only b w w1) (hB : B ≤ b) : Below B w w1 :=
  ⟨h.os, h.tape, h.output, Nat.le_of_eq h.size.symm, fun k hk => h.block k (by omega)⟩

def At (b : Nat) (w w' : World) (q : Nat) : Prop := Only b w w' ∧ w'.cell? ⟨b, 1, none⟩ = some (.int .i64 (q : Int))

theorem At.drewN {b q : Nat} {w w1 : World} (h : At b w w1 q) (n : Nat) : At b w (w1.drewN n) q := ⟨h.1.drewN n, h.2⟩
theorem At.drew {b q : Nat} {w w1 : World} (h : At b w w1 q) : At b w w1.drew q := ⟨h.1.drew, h.2⟩
theorem At.set {b q q' : Nat} {w w1 : World} {v : Int} (h : At b w w1 q) (hv : v = (q' : Int)) : At b w (w1.setCell ⟨b, 1, none⟩ (.int .i64 v)) q' :=
  ⟨h.1.setCell _, by rw [World.cell?_setCell_same _ _ _ h.2, hv]⟩
theorem At.trans {b q r : Nat} {w w1 w2 : World} (h : At b w w1 q) (k : At b w1 w2 r) : At b w w2 r := ⟨h.1.trans k.1, k.2⟩
theorem At.cell0 {b q : Nat} {w w1 : World} {s : ByteArray} (h : At b w w1 q) (h0 : w.cell? ⟨b, 0, none⟩ = some (.string s)) : w1.cell? ⟨b, 0, none⟩ = some (.string s) := by
  rw [h.1.cell _ (by simp)]; exact h0
theorem At.froz {b q : Nat} {w w1 : World} (h : At b w w1 q) (hf : w.frozen? ⟨b, 1, none⟩ = false) : w1.frozen? ⟨b, 1, none⟩ = false := by
  rw [h.1.frozen]; exact hf

end Go.Proofs.Qxb6601015a
