/- What an operation's function is asked. Conditions: those that each theorem states. -/
import Derived.Test.YtdbjdpooggaonaaGreatDoorBase28
set_option linter.all false

namespace Go.Proofs.YtdbjdpooggaonaaGreatDoor
open Go.RowKit
set_option maxRecDepth 100000
/-- The function of an operation. -/
def opf : Nat → Bool → Nat
  | 0, false => 97
  | 0, true => 96
  | 1, false => 99
  | 1, true => 98
  | 2, false => 101
  | 2, true => 100
  | 3, false => 103
  | 3, true => 102
  | 4, false => 105
  | 4, true => 104
  | 5, false => 107
  | 5, true => 106
  | 6, false => 109
  | 6, true => 108
  | 7, false => 111
  | 7, true => 110
  | 8, false => 112
  | 8, true => 112
  | 9, false => 113
  | 9, true => 113
  | _, _ => 0
/-- What an operation's function is asked: its result z; the second one stays; the first one stays, or is z. -/
def OpC (k : Nat) (m : Bool) (x y z : Int) : Prop := ∀ (Q : Nat → Prop) (BA BB : Nat) (S : Nat → Option Int) (w1 : World), Ints Q w1 S → S BA = some x → S BB = some y → BA ≠ BB →
  Calls Tryz.prog (opf k m) #[.agg #[ptr BA], .agg #[ptr BB]] w1 fun e w' => ∃ B9 S', e = .returned (.agg #[ptr B9]) ∧ Keep Q w1 w' ∧ Ints Q w' S' ∧ S' B9 = some z ∧ S' BB = some y ∧ S' BA = some (if (m && decide ((k : Int) < 8)) = true then z else x)
/-- The operation's function panics. -/
def OpP (k : Nat) (m : Bool) (x y : Int) : Prop := ∀ (Q : Nat → Prop) (BA BB : Nat) (S : Nat → Option Int) (w1 : World), Ints Q w1 S → S BA = some x → S BB = some y → BA ≠ BB →
  Calls Tryz.prog (opf k m) #[.agg #[ptr BA], .agg #[ptr BB]] w1 fun e w' => Pan e ∧ Keep Q w1 w'
end Go.Proofs.YtdbjdpooggaonaaGreatDoor
