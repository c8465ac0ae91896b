import Derived.Test.Qxb6601282aClone
import Derived.Test.Qxb6601282aSkip
namespace Go.Proofs.Qxb6601282a
open Go.RowKit

def In (w : World) (ao : Option Addr) (len cap : Nat) (zs : List Int) : Prop :=
  zs.length = len ∧ ((ao = none ∧ len = 0 ∧ cap = 0) ∨ ∃ x, ao = some x ∧ ∀ i, i < len → w.cell? (x.add i) = some (.int .u8 (zs.getD i 0)))

theorem In.below {w w' : World} {ao : Option Addr} {len cap : Nat} {zs : List Int} (h : In w ao len cap zs) (hb : Below w.heap.size w w') : In w' ao len cap zs := by
  refine ⟨h.1, ?_⟩
  rcases h.2 with h | ⟨x, hx, hc⟩
  · exact Or.inl h
  · exact Or.inr ⟨x, hx, fun i hi => (hb.cell (lt_cell (hc i hi))).trans (hc i hi)⟩

theorem At.below {w w' : World} {ao : Option Addr} {zs : List Int} (h : At w ao zs) (hb : Below w.heap.size w w') : At w' ao zs := by
  intro hp
  obtain ⟨b, h1, h2, h3⟩ := h hp
  exact ⟨b, h1, Nat.lt_of_lt_of_le h2 hb.size, fun k hk => (hb.cell (lt_cell (h3 k hk))).trans (h3 k hk)⟩

def Cl (w : World) (len : Nat) (zs : List Int) (e : Ending) (w' : World) : Prop :=
  ∃ ao cap, e = .returned (.slice ao len cap) ∧ (ao = none → len = 0 ∧ cap = 0) ∧ At w' ao zs ∧ Below w.heap.size w w'

theorem clone_any (ao : Option Addr) (len cap : Nat) (zs : List Int) (w : World) (h : In w ao len cap zs) (hlen : len ≤ 262144) :
    Calls Try.prog 9 #[.slice ao len cap] w (Cl w len zs) := by
  obtain ⟨hz, h⟩ := h
  rcases h with ⟨rfl, rfl, rfl⟩ | ⟨x, rfl, hc⟩
  · refine (clone_nil w).mono ?_
    rintro e w' ⟨rfl, rfl⟩
    exact ⟨none, 0, rfl, fun _ => ⟨rfl, rfl⟩, fun hp => by omega, Below.refl _ _⟩
  · refine (clone_some x len cap zs w hz hlen hc).mono ?_
    rintro e w' ⟨rfl, h1, h2, _⟩
    exact ⟨_, _, rfl, (fun h => by cases h), h1, h2⟩

theorem At.cells {w : World} {ao : Option Addr} {zs : List Int} (h : At w ao zs) : ∀ ad, ao = some ad → ∀ j u, (vals zs)[j]? = some u → w.cell? (ad.add j) = some u := by
  intro ad had j u hj
  have hl : j < zs.length := by
    have := (List.getElem?_eq_some_iff.1 hj).1
    simpa using this
  obtain ⟨b, h1, _, h3⟩ := h (by omega)
  rw [h1] at had
  cases had
  have e := h3 j hl
  have e2 : ((⟨b, 0, none⟩ : Addr).add j) = ⟨b, j, none⟩ := by simp [Addr.add]; omega
  rw [e2, e]
  simp at hj
  obtain ⟨z, hz, rfl⟩ := hj
  rw [List.getD_eq_getElem?_getD, hz]
  rfl

theorem at_of_owns {w : World} {base g n cap : Nat} {L : List Int} (h : w.ownsRow base 5 1 (.slice (some ⟨g, 0, none⟩) n cap) n (vals L)) : At w (some ⟨g, 0, none⟩) L := by
  have hl : L.length = n := by have := h.1; simpa using this
  intro hp
  have hc : ∀ k, k < L.length → w.cell? ⟨g, k, none⟩ = some (.int .u8 (L.getD k 0)) := by
    intro k hk
    rw [World.ownsRow.cellAt h k (by omega)]
    simp [List.getElem?_eq_getElem hk]
  exact ⟨g, rfl, lt_cell (hc 0 hp), hc⟩

set_option maxHeartbeats 800000 in
theorem bytes_ok (a0 a1 a2 : Option Addr) (n0 n1 n2 c0 c1 c2 : Nat) (w : World) (h : n0 + n1 + n2 ≤ 1048576) :
    Calls Try.prog 12 #[.slice a0 n0 c0, .slice a1 n1 c1, .slice a2 n2 c2] w fun e w' => e = .returned (.bool true) ∧ w' = w := by
  go_enter Try.func12, Try.ntmps12
  go_wp2
  go_ret
  exact ⟨rfl, rfl⟩

set_option maxHeartbeats 1600000 in
theorem bytes_no (a0 a1 a2 : Option Addr) (n0 n1 n2 c0 c1 c2 : Nat) (w : World) (h : ¬ n0 + n1 + n2 ≤ 1048576) (h0 : n0 ≤ maxLen) (h1 : n1 ≤ maxLen) (h2 : n2 ≤ maxLen) :
    Calls Try.prog 12 #[.slice a0 n0 c0, .slice a1 n1 c1, .slice a2 n2 c2] w fun e w' => e = .returned (.bool false) ∧ w' = w := by
  unfold maxLen at h0 h1 h2
  by_cases g0 : n0 ≤ 1048576
  · by_cases g1 : n1 ≤ 1048576
    · by_cases g01 : n0 + n1 ≤ 1048576
      · by_cases g2 : n2 ≤ 1048576
        all_goals
          go_enter Try.func12, Try.ntmps12
          go_wp2
          go_ret
          exact ⟨rfl, rfl⟩
      · go_enter Try.func12, Try.ntmps12
        go_wp2
        go_ret
        exact ⟨rfl, rfl⟩
    · go_enter Try.func12, Try.ntmps12
      go_wp2
      go_ret
      exact ⟨rfl, rfl⟩
  · go_enter Try.func12, Try.ntmps12
    go_wp2
    go_ret
    exact ⟨rfl, rfl⟩

end Go.Proofs.Qxb6601282a
