/- The reference's numbers: QuoRem. Conditions: those that each theorem states. -/
import Derived.Test.YtdbjdpooggaonaaGreatDoorBase19
set_option linter.all false

namespace Go.Proofs.YtdbjdpooggaonaaGreatDoor
open Go.RowKit
set_option maxRecDepth 100000
theorem NewS.mono {w w' : World} {v : Value} (h : NewS w' v) (hw : w.heap.size ≤ w'.heap.size) : NewS w v := by
  rcases h with h | ⟨K, n, c, h, hk⟩
  · exact .inl h
  · exact .inr ⟨K, n, c, h, Nat.le_trans hw hk⟩
/-- A row that lies elsewhere stays, when a cell of block K is written. -/
theorem DS.set {w2 w : World} {v : Value} {n K p : Nat} {u : Value} {f : Nat → Nat} (h : DS w v n f) (hn : NewS w2 v) (hK : K < w2.heap.size) : DS (w.setCell ⟨K, p, none⟩ u) v n f := by
  obtain ⟨A, c, rfl, h1, h2, h3⟩ := h
  refine ⟨A, c, rfl, h1, h2, fun h0 => ?_⟩
  obtain ⟨K', o, rfl, h4⟩ := h3 h0
  refine ⟨K', o, rfl, fun i hi => ?_⟩
  rw [World.cell?_setCell_other]
  · exact h4 i hi
  · intro e
    cases e
    rcases hn with e | ⟨K3, n3, c3, e, hk⟩
    · cases e
    · cases e; omega
end Go.Proofs.YtdbjdpooggaonaaGreatDoor
