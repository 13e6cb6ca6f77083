/- The thin package: two decimals compared: the function. Cells of numbers in a state, put apart. Conditions: those that each theorem states. -/
import Derived.Test.YtdbjdpooggaonaaGreatDoorOrders02
import Derived.Test.YtdbjdpooggaonaaGreatDoorBase29
import Derived.Test.YtdbjdpooggaonaaGreatDoorJoin03
import Derived.Test.YtdbjdpooggaonaaGreatDoorBase28
set_option linter.all false

section
namespace Go.Proofs.YtdbjdpooggaonaaGreatDoor
open Go.RowKit
set_option maxRecDepth 100000
abbrev cmpW (w : World) (a b : ByteArray) : World := ((w.alloc (.cells #[.string a] 9)).alloc (.cells #[.string b] 9)).alloc (.cells #[.bool false, .bool false, .bool false, .bool false, .bool false] 31)
theorem cmpW_below (w : World) (a b : ByteArray) : Below w.heap.size w (cmpW w a b) :=
  (((Below.refl _ _).alloc (Nat.le_refl _) _).alloc (by simp only [World.size_alloc]; omega) _).alloc (by simp only [World.size_alloc]; omega) _
theorem cmpW_blk (w : World) (a b : ByteArray) : Blk (cmpW w a b) w.heap.size 9 [.string a] ∧ Blk (cmpW w a b) (w.heap.size + 1) 9 [.string b] ∧ Blk (cmpW w a b) (w.heap.size + 2) 31 falses := by
  have h1 := Blk.new w #[.string a] 9
  have h2 := Blk.new (w.alloc (.cells #[.string a] 9)) #[.string b] 9
  have h3 := Blk.new ((w.alloc (.cells #[.string a] 9)).alloc (.cells #[.string b] 9)) #[.bool false, .bool false, .bool false, .bool false, .bool false] 31
  simp only [World.size_alloc] at h1 h2 h3
  exact ⟨(h1.alloc _).alloc _, h2.alloc _, h3⟩
set_option maxHeartbeats 2000000 in
theorem DecCompare_ok (x y : Int) (hx : inR x = true) (hy : inR y = true) (w : World) (hok : Ok w) (her : Er w) :
    Calls Tryz.prog 11 #[.string (zT x), .string (zT y)] w fun e w' => e = .returned (.agg #[.bool (decide (x = y)), .bool (decide (y < x)), .bool (decide (y ≤ x)), .bool (decide (x < y)), .bool (decide (x ≤ y))]) ∧ Below w.heap.size w w' := by
  obtain ⟨h1, h2, h3⟩ := cmpW_blk w (zT x) (zT y)
  have hb1 := cmpW_below w (zT x) (zT y)
  have hs1 : (cmpW w (zT x) (zT y)).heap.size = w.heap.size + 3 := by simp only [World.size_alloc]
  have h100 := hok.2
  generalize hW : cmpW w (zT x) (zT y) = w1 at *
  have hb2 : Below w1.heap.size w1 (okW w1) := (Below.refl _ _).alloc (Nat.le_refl _) _
  have hb3 := hb1.trans (hb2.mono hb1.size)
  have hs2 : (okW w1).heap.size = w1.heap.size + 1 := World.size_alloc _ _
  have hc := CmpC_ok x y hx hy w.heap.size (w.heap.size + 1) (w.heap.size + 2) (okW w1) (hok.below hb3) (her.below hb3) (h1.alloc _) (h2.alloc _) (h3.alloc _) (by omega) (by omega)
  unfold cmpL at hc
  generalize decide (x = y) = q0 at *
  generalize decide (y < x) = q1 at *
  generalize decide (y ≤ x) = q2 at *
  generalize decide (x < y) = q3 at *
  generalize decide (x ≤ y) = q4 at *
  have hsf := Hd.mk (safe_ok 41 _ w1 (fun w2 => Keep (fun k => k < (okW w1).heap.size ∧ k ≠ (w.heap.size + 2)) (okW w1) w2 ∧ Blk w2 (w.heap.size + 2) 31 [.bool q0, .bool q1, .bool q2, .bool q3, .bool q4]) (enters Tryz.func41 (by kernel_rfl) (by kernel_rfl)) (hc.mono fun e w2 ⟨q1, q2, q3⟩ => ⟨q1, q2.block _ ⟨by omega, by omega⟩ (by omega), q2, q3⟩))
  have hfin : Hd (∀ w2 w3, Keep (fun k => k < (okW w1).heap.size ∧ k ≠ (w.heap.size + 2)) (okW w1) w2 → Put w2 w3 w1.heap.size 4 [.bool true] → Below w.heap.size w w3) := ⟨fun w2 w3 q1 q2 => q2.bel (hb3.trans ⟨q1.os, q1.tape, q1.output, q1.size, fun k hk => q1.block k ⟨Nat.lt_of_lt_of_le hk hb3.size, by omega⟩ (Nat.lt_of_lt_of_le hk hb3.size)⟩) hb1.size⟩
  have hmf : ∀ (fn : Fn) (first cap : Array Value) (w : World), (Instr.makeFunc fn first cap).run Tryz.prog w = .ok (.func fn first cap) w := fun _ _ _ _ => rfl
  have hne : w.heap.size + 2 ≠ w1.heap.size := by omega
  clear hc h1 h2 h3 hb1 hb2 hb3 hok her
  go_enter Tryz.func11, Tryz.ntmps11
  go_wp2_with fail
  refine hsf.out.mono ?_
  rintro e w3 ⟨rfl, w2, ⟨hc2, hu2⟩, hp3⟩
  have hb3 := Hd.mk (hfin.out w2 w3 hc2 hp3)
  have hu3 := hp3.blk hu2 hne
  have y0 : w3.cell? ⟨w.heap.size + 1 + 1, 0, none⟩ = some (.bool q0) := hu3.cell 0
  have y1 : w3.cell? ⟨w.heap.size + 1 + 1, 1, none⟩ = some (.bool q1) := hu3.cell 1
  have y2 : w3.cell? ⟨w.heap.size + 1 + 1, 2, none⟩ = some (.bool q2) := hu3.cell 2
  have y3 : w3.cell? ⟨w.heap.size + 1 + 1, 3, none⟩ = some (.bool q3) := hu3.cell 3
  have y4 : w3.cell? ⟨w.heap.size + 1 + 1, 4, none⟩ = some (.bool q4) := hu3.cell 4
  have z0 : w3.frozen? ⟨w.heap.size + 1 + 1, 0, none⟩ = false := hu3.frozen 0
  have z1 : w3.frozen? ⟨w.heap.size + 1 + 1, 1, none⟩ = false := hu3.frozen 1
  have z2 : w3.frozen? ⟨w.heap.size + 1 + 1, 2, none⟩ = false := hu3.frozen 2
  have z3 : w3.frozen? ⟨w.heap.size + 1 + 1, 3, none⟩ = false := hu3.frozen 3
  have z4 : w3.frozen? ⟨w.heap.size + 1 + 1, 4, none⟩ = false := hu3.frozen 4
  have lu : w.heap.size + 1 + 1 < w3.heap.size := hu3.lt
  have hself := Hd.mk (((((Put.refl hu3).set 0 (.bool q0)).set 1 (.bool q1)).set 2 (.bool q2)).set 3 (.bool q3))
  clear hu3 hu2 hc2 hp3 hsf hfin
  go_wp2
  refine bodyPost_ret (v := .agg #[.bool q0, .bool q1, .bool q2, .bool q3, .bool q4]) (by simp [results, Tryz.results11, go_sem, y0, y1, y2, y3, y4, z0, z1, z2, z3, z4, lu]) rfl ⟨rfl, ?_⟩
  (repeat first | exact hb3.out | refine Below.setCell ?_ (by dsimp only; omega) _)
end Go.Proofs.YtdbjdpooggaonaaGreatDoor
end

section
namespace Go.Proofs.YtdbjdpooggaonaaGreatDoor
theorem updC_off {C : Nat → Option (List Value)} {b k : Nat} {vs : List Value} (h : k ≠ b) : updC C b vs k = C k := if_neg h
end Go.Proofs.YtdbjdpooggaonaaGreatDoor
end
