import Derived.Test.Qxb6601282aQuote
import Derived.Deep.OwnRows
import Derived.Laws.CopyOwn
import Derived.Lib.SliceRun
namespace Go.Proofs.Qxb6601282a
open Go.RowKit

set_option maxHeartbeats 400000 in
theorem clone_nil (w : World) :
    Calls Try.prog 9 #[.slice none 0 0] w fun e w' => e = .returned (.slice none 0 0) ∧ w' = w := by
  have hnil := fun w : World => Lib.run_eql_slice_nil (P := Try.prog) w 22 5 none 0 0 0 0 Try.underlying22
  go_enter Try.func9, Try.ntmps9
  go_wp2
  go_ret
  exact ⟨rfl, rfl⟩

theorem heap_new (w : World) (o : Obj) : (w.alloc o).heap[w.heap.size]? = some o := by
  simp only [World.alloc, Array.getElem?_push]
  simp

theorem lt_cell {w : World} {a : Addr} {v : Value} (h : w.cell? a = some v) : a.block < w.heap.size := by
  rcases Nat.lt_or_ge a.block w.heap.size with g | g
  · exact g
  · unfold World.cell? at h
    rw [Array.getElem?_eq_none g] at h
    simp at h

theorem vals_one (l : List Int) : ∀ v ∈ vals l, v.oneCell' = true := by
  intro v hv
  obtain ⟨z, _, rfl⟩ := List.mem_map.1 hv
  rfl

set_option maxRecDepth 1000000 in
set_option maxHeartbeats 800000 in
theorem clone_some (x : Addr) (len cap : Nat) (zs : List Int) (w : World) (hz : zs.length = len) (hlen : len ≤ 262144)
    (hc : ∀ i, i < len → w.cell? (x.add i) = some (.int .u8 (zs.getD i 0))) :
    Calls Try.prog 9 #[.slice (some x) len cap] w fun e w' => e = .returned (.slice (some ⟨w.heap.size, 0, none⟩) len len) ∧
      At w' (some ⟨w.heap.size, 0, none⟩) zs ∧ Below w.heap.size w w' ∧ w.heap.size < w'.heap.size := by
  have hnil := fun w : World => Lib.run_eql_slice_nil (P := Try.prog) w 22 5 (some x) len cap 0 0 Try.underlying22
  have hmk := fun w : World => run_make_row' (P := Try.prog) 22 5 (.int .u8 0) 1 Try.underlying22 info5 rfl .i64 .i64 len (by omega) (by omega) w
  have HC : Hid _ := hc
  clear hc
  go_enter Try.func9, Try.ntmps9
  go_wp2_with (refine wpList_copy_splice rfl (.tmp 9) (.tmp 10) 22 22 rfl 5 Try.underlying22 (by kernel_rfl) _ _ _ _ _ _ rfl rfl w.heap.size 0 (madeCells #[.int .u8 0] len).toList 5 ?c1 (vals zs) ?c2 ?c3 ?c4 (vals_one zs) w.heap.size w ?c5 (Nat.le_refl _) ?_)
  case c1 => rw [heap_new, Array.toArray_toList]
  case c2 => simp [hz]
  case c3 =>
    intro _ j a hj
    have hjl : j < zs.length := (List.getElem?_eq_some_iff.1 hj).1
    rw [World.cell?_alloc_lt _ _ _ (lt_cell (HC.out j (by omega))), HC.out j (by omega), List.getD_eq_getElem?_getD, hj]
    rfl
  case c4 => simp [size_madeCells, hz]
  case c5 => exact (Below.refl _ _).alloc (Nat.le_refl _) _
  intro w1 hrow hbl
  have HB : Hid (Below w.heap.size w w1) := hbl
  clear hbl
  go_wp2_with fail
  go_ret
  have hb := HB.out
  have hr : w1.heap[w.heap.size]? = some (Obj.cells (vals zs).toArray 5) := by
    rw [hrow.out]
    simp [splice, size_madeCells, hz]
  have hsz : w.heap.size < w1.heap.size := (Array.getElem?_eq_some_iff.1 hr).1
  refine ⟨rfl, ?_, hb, hsz⟩
  intro _
  refine ⟨w.heap.size, rfl, hsz, ?_⟩
  intro k hk
  unfold World.cell?
  rw [hr]
  simp [List.getElem?_eq_getElem hk]

end Go.Proofs.Qxb6601282a
