/- Rows of texts; their sizes. Conditions: those that each theorem states. -/
import Derived.Test.YtpabbnogfflgpaaGreatDoorCmp02
set_option linter.all false

namespace Go.Proofs.YtpabbnogfflgpaaGreatDoor
open Go.RowKit
set_option maxRecDepth 100000
/-- A row of texts, wherever it lies. -/
def TS (w : World) (v : Value) (n : Nat) (s : Nat → ByteArray) : Prop :=
  ∃ A cap, v = .slice A n cap ∧ (0 < n → ∃ a, A = some a ∧ a.block < w.heap.size ∧ ∀ i, i < n → w.cell? (a.add i) = some (.string (s i)))
theorem TS.below {w w' : World} {v : Value} {n : Nat} {s : Nat → ByteArray} (h : TS w v n s) (hb : Below w.heap.size w w') : TS w' v n s := by
  obtain ⟨A, cap, hv, h⟩ := h
  refine ⟨A, cap, hv, fun hn => ?_⟩
  obtain ⟨a, h1, h2, h3⟩ := h hn
  exact ⟨a, h1, Nat.lt_of_lt_of_le h2 hb.size, fun i hi => cb' hb (h3 i hi)⟩
theorem TS.tr {w : World} {v : Value} {n : Nat} {s : Nat → ByteArray} {x : Nat → Int} (h : TS w v n s) (hx : ∀ i, i < n → s i = zT (x i)) : TR w v n x := by
  obtain ⟨A, cap, hv, h⟩ := h
  refine ⟨A, cap, hv, fun hn => ?_⟩
  obtain ⟨a, h1, h2, h3⟩ := h hn
  exact ⟨a, h1, h2, fun i hi => by rw [← hx i hi]; exact h3 i hi⟩
def Fit (n : Nat) (s : Nat → ByteArray) : Prop := n ≤ 2147483647 ∧ ∀ i, i < n → (s i).size ≤ 2147483647
instance (n : Nat) (s : Nat → ByteArray) : Decidable (Fit n s) := inferInstanceAs (Decidable (_ ∧ _))
set_option maxHeartbeats 2000000 in
theorem fits_any (v : Value) (n : Nat) (s : Nat → ByteArray) (w : World) (h : TS w v n s) (hn : n ≤ maxLen) (hs : ∀ i, i < n → (s i).size ≤ maxLen) :
    Calls Tryz.prog 16 #[v] w fun e w' => e = .returned (.bool (decide (Fit n s))) ∧ w = w' := by
  obtain ⟨A, cap, rfl, hf⟩ := h
  have h1 := Hd.mk hf
  clear hf
  replace hs := Hd.mk hs
  unfold maxLen at hn
  by_cases hb : 2147483647 < n
  · have d1 : decide ((2147483647 : Int) < (n : Int)) = true := decide_eq_true (by omega)
    go_enter Tryz.func16, Tryz.ntmps16
    go_wp2
    go_ret
    exact ⟨by rw [decide_eq_false (fun h : Fit n s => absurd h.1 (by omega))]; rfl, rfl⟩
  have d1 : decide ((2147483647 : Int) < (n : Int)) = false := decide_eq_false (by omega)
  go_enter Tryz.func16, Tryz.ntmps16
  go_wp2
  go_loopw [10] (fun i wr => ∃ k : Nat, k ≤ n ∧ i = .int .i64 k ∧ w = wr ∧ Hd (∀ j, j < k → (s j).size ≤ 2147483647)) (fun i _ => n - (intOf i).toNat)
  case atStart => exact ⟨0, Nat.zero_le _, rfl, rfl, ⟨fun j hj => by omega⟩⟩
  case round =>
    obtain ⟨k, hk, rfl, rfl, hj⟩ := hrel
    by_cases hlt : k < n
    · obtain ⟨a, rfl, ha1, ha2⟩ := h1.out (by omega)
      have e1 := ha2 k hlt
      have hk64 := hs.out k hlt
      unfold maxLen at hk64
      by_cases hz : 2147483647 < (s k).size
      · have d2 : decide ((2147483647 : Int) < ((s k).size : Int)) = true := decide_eq_true (by omega)
        have hnf := Hd.mk (decide_eq_false (fun h : Fit n s => absurd (h.2 k hlt) (by omega)))
        replace ha2 := Hd.mk ha2
        go_wp2
        go_ret
        exact ⟨by rw [hnf.out]; rfl, rfl⟩
      · have d2 : decide ((2147483647 : Int) < ((s k).size : Int)) = false := decide_eq_false (by omega)
        have hz' := Hd.mk hz
        replace ha2 := Hd.mk ha2
        go_wp2
        go_roundw
        case rel => exact ⟨k + 1, by omega, by rw [Int.natCast_succ], trivial, ⟨fun j hj' => if e : j = k then by rw [e]; have := hz'.out; omega else hj.out j (by omega)⟩⟩
        case measure => simp [intOf]; omega
    · obtain rfl : k = n := by omega
      go_wp2
      go_ret
      exact ⟨by rw [decide_eq_true (show Fit k s from ⟨by omega, hj.out⟩)]; rfl, rfl⟩
end Go.Proofs.YtpabbnogfflgpaaGreatDoor
