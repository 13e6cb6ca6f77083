/- FnOrdersBoth: the walk. Conditions: those that each theorem states. -/
import Derived.Test.YtdbjdpooggaonaaGreatDoorJoin03
import Derived.Test.YtdbjdpooggaonaaGreatDoorOrders01
import Derived.Test.YtdbjdpooggaonaaGreatDoorOrders03
set_option linter.all false

namespace Go.Proofs.YtdbjdpooggaonaaGreatDoor
open Go.RowKit
set_option maxRecDepth 100000
theorem guard5J : Tryz.prog.eqGuardType Tryz.prog.depth 31 = false := by kernel_rfl
theorem eq5J (a b c d e : Bool) (w : World) : (Op.equalIn 10000 31 (.agg #[.bool a, .bool b, .bool c, .bool d, .bool e]) (.agg #[.bool a, .bool b, .bool c, .bool d, .bool e])).run Tryz.prog w = .ok true w := by
  cases a <;> cases b <;> cases c <;> cases d <;> cases e <;> kernel_rfl
theorem whole_lt (x y : Int) : (x * E18 < y * E18) = (x < y) := by
  rw [show x * E18 = x * 1000000000000000000 from rfl, show y * E18 = y * 1000000000000000000 from rfl]
  exact propext ⟨fun h => by omega, fun h => by omega⟩
theorem whole_le (x y : Int) : (x * E18 ≤ y * E18) = (x ≤ y) := by
  rw [show x * E18 = x * 1000000000000000000 from rfl, show y * E18 = y * 1000000000000000000 from rfl]
  exact propext ⟨fun h => by omega, fun h => by omega⟩
theorem whole_eq (x y : Int) : (x * E18 = y * E18) = (x = y) := by
  rw [show x * E18 = x * 1000000000000000000 from rfl, show y * E18 = y * 1000000000000000000 from rfl]
  exact propext ⟨fun h => by omega, fun h => by omega⟩
set_option maxHeartbeats 16000000 in
theorem ordersBoth_walk (a b : ByteArray) (w : World) (hok : Ok w) (her : Er w) :
    Calls Tryz.prog 3 #[.string a, .string b] w fun e w' => e = .returned (.bool true) ∧ Below w.heap.size w w' := by
  by_cases h1 : 2147483647 < a.size
  · have d1 : decide ((2147483647 : Int) < (a.size : Int)) = true := decide_eq_true (by omega)
    go_enter Tryz.func3, Tryz.ntmps3
    go_wp2
    go_ret
    exact ⟨rfl, Below.refl _ _⟩
  have d1 : decide ((2147483647 : Int) < (a.size : Int)) = false := decide_eq_false (by omega)
  by_cases h2 : 2147483647 < b.size
  · have d2 : decide ((2147483647 : Int) < (b.size : Int)) = true := decide_eq_true (by omega)
    go_enter Tryz.func3, Tryz.ntmps3
    go_wp2
    go_ret
    exact ⟨rfl, Below.refl _ _⟩
  have d2 : decide ((2147483647 : Int) < (b.size : Int)) = false := decide_eq_false (by omega)
  have hpa := Hd.mk (sint_any a w (by omega))
  have hpb := Hd.mk fun w1 => sint_any b w1 (by omega)
  have hal := Hd.mk joinAwake_any
  go_enter Tryz.func3, Tryz.ntmps3
  go_upto_region 4 with (go_at_call 8; refine hpa.out.mono ?_; rintro e w2 ⟨b2, A2, n2, c2, ok, rfl, hx, hb2⟩; replace hx := Hd.mk hx; replace hb2 := Hd.mk hb2)
  have r2 := Hd.mk (((SR.start w [] (fun p hp => by cases hp)).op hb2.out).box2 (b0 := b2) (A := A2) (m := n2) (c := c2))
  have hba : Below w2.heap.size w2 (w2.alloc (.cells #[.bool b2, .slice A2 n2 c2] 24)) := (Below.refl _ _).alloc (Nat.le_refl _) _
  have hC : Hd (updC (fun _ => none) w2.heap.size [.bool b2, .slice A2 n2 c2] w2.heap.size = some [.bool b2, .slice A2 n2 c2]) := ⟨updC_same⟩
  have hlt3 : w2.heap.size < (w2.alloc (.cells #[.bool b2, .slice A2 n2 c2] 24)).heap.size := by rw [World.size_alloc]; omega
  generalize updC (fun _ => none) w2.heap.size [.bool b2, .slice A2 n2 c2] = C at *
  have hxb := Hd.mk fun x (h : NumV w2 (.agg #[.bool b2, .slice A2 n2 c2]) x) => h.below hba
  clear hba
  generalize w2.alloc (.cells #[.bool b2, .slice A2 n2 c2] 24) = w3 at *
  refine SR.cellK r2.out hC.out ?_
  intro f0 f1 fz fy fl
  go_upto_region 5 with (go_at_call 8; refine (hpb.out w3).mono ?_; rintro e w4 ⟨b4, A4, n4, c4, ok2, rfl, hy, hb4⟩; replace hy := Hd.mk hy; replace hb4 := Hd.mk hb4)
  have hlt4 : w2.heap.size < w4.heap.size := Nat.lt_of_lt_of_le hlt3 hb4.out.size
  have r4 := Hd.mk ((r2.out.op hb4.out).box2 (b0 := b4) (A := A4) (m := n4) (c := c4))
  have hbb : Below w4.heap.size w4 (w4.alloc (.cells #[.bool b4, .slice A4 n4 c4] 24)) := (Below.refl _ _).alloc (Nat.le_refl _) _
  have hD : Hd (updC C w4.heap.size [.bool b4, .slice A4 n4 c4] w4.heap.size = some [.bool b4, .slice A4 n4 c4]) := ⟨updC_same⟩
  have hC4 : Hd (updC C w4.heap.size [.bool b4, .slice A4 n4 c4] w2.heap.size = some [.bool b2, .slice A2 n2 c2]) := ⟨by rw [updC_off (by omega)]; exact hC.out⟩
  generalize updC C w4.heap.size [.bool b4, .slice A4 n4 c4] = C4 at *
  have hxb4 := Hd.mk fun x (h : NumV w2 (.agg #[.bool b2, .slice A2 n2 c2]) x) => ((hxb.out x h).below hb4.out).below hbb
  have hyb4 := Hd.mk fun y (h : NumV w4 (.agg #[.bool b4, .slice A4 n4 c4]) y) => h.below hbb
  have hlt5 : w4.heap.size < (w4.alloc (.cells #[.bool b4, .slice A4 n4 c4] 24)).heap.size := by rw [World.size_alloc]; omega
  clear hbb hxb r2 hC
  generalize w4.alloc (.cells #[.bool b4, .slice A4 n4 c4] 24) = w5 at *
  refine SR.cellK r4.out hC4.out ?_
  clear f0 f1 fz fy fl
  intro f0 f1 fz fy fl
  refine SR.cellK r4.out hD.out ?_
  intro g0 g1 gz gy gl
  by_cases hoo : ok = true ∧ ok2 = true
  case neg =>
    have h := hoo
    rcases Bool.eq_false_or_eq_true ok with h1 | h1
    · rcases Bool.eq_false_or_eq_true ok2 with h2 | h2
      · exact absurd ⟨h1, h2⟩ h
      · subst h1; subst h2
        clear hoo h
        go_wp2_with (go_at_call 9; refine (hal.out _ (hok.below r4.out.bel) (her.below r4.out.bel)).mono ?_; rintro e w9 ⟨rfl, hb9⟩; have r9 := Hd.mk (r4.out.op hb9); clear hb9)
        go_ret
        exact ⟨rfl, r9.out.bel⟩
    · subst h1
      clear hoo h
      go_wp2_with (go_at_call 9; refine (hal.out _ (hok.below r4.out.bel) (her.below r4.out.bel)).mono ?_; rintro e w9 ⟨rfl, hb9⟩; have r9 := Hd.mk (r4.out.op hb9); clear hb9)
      go_ret
      exact ⟨rfl, r9.out.bel⟩
  obtain ⟨rfl, rfl⟩ := hoo
  obtain ⟨x, hsx, hxm, hnx⟩ := hx.out rfl
  obtain ⟨y, hsy, hym, hny⟩ := hy.out rfl
  subst hsx
  subst hsy
  have r5 := Hd.mk ((r4.out.add (hxb4.out x hnx)).add (hyb4.out y hny))
  have hdx := Hd.mk fun w1 v1 (h : NumV w1 v1 x) => decOf_any v1 x w1 h hxm
  have hdy := Hd.mk fun w1 v1 (h : NumV w1 v1 y) => decOf_any v1 y w1 h hym
  have hic := Hd.mk fun w1 q1 q2 => IntCompare_ok x y hxm hym w1 q1 q2
  have hdc := Hd.mk fun w1 q1 q2 => DecCompare_ok (x * E18) (y * E18) (inR_whole hxm) (inR_whole hym) w1 q1 q2
  simp only [whole_lt, whole_le, whole_eq] at hdc
  have hbd := build5
  have hgd := guard5J
  have heq := eq5J
  replace hxm := Hd.mk hxm
  replace hym := Hd.mk hym
  replace hx := Hd.mk hx
  replace hy := Hd.mk hy
  replace hnx := Hd.mk hnx
  replace hny := Hd.mk hny
  generalize zT (x * E18) = tx at *
  generalize zT (y * E18) = ty at *
  generalize zT x = sx at *
  generalize zT y = sy at *
  generalize decide (x = y) = q0 at *
  generalize decide (y < x) = q1 at *
  generalize decide (y ≤ x) = q2 at *
  generalize decide (x < y) = q3 at *
  generalize decide (x ≤ y) = q4 at *
  go_upto_region 8 with (go_at_call 10; refine (hic.out _ (hok.below r5.out.bel) (her.below r5.out.bel)).mono ?_; rintro e w6 ⟨rfl, hb6⟩; have r6 := Hd.mk (r5.out.op hb6); clear hb6)
  have hbk := Blk.new w6 #[.bool q0, .bool q1, .bool q2, .bool q3, .bool q4] 29
  have hb7 : Below w6.heap.size w6 (w6.alloc (.cells #[.bool q0, .bool q1, .bool q2, .bool q3, .bool q4] 29)) := (Below.refl _ _).alloc (Nat.le_refl _) _
  have r7 := Hd.mk (r6.out.op hb7)
  clear hb7
  generalize w6.alloc (.cells #[.bool q0, .bool q1, .bool q2, .bool q3, .bool q4] 29) = w7 at *
  generalize w6.heap.size = bt at *
  replace hbk := Hd.mk hbk
  clear f0 f1 fz fy fl g0 g1 gz gy gl
  have s7 : w7.drew.cell? ⟨bt, 0, none⟩ = some (.bool q0) ∧ w7.drew.cell? ⟨bt, 1, none⟩ = some (.bool q1) ∧ w7.drew.cell? ⟨bt, 2, none⟩ = some (.bool q2) ∧ w7.drew.cell? ⟨bt, 3, none⟩ = some (.bool q3) ∧ w7.drew.cell? ⟨bt, 4, none⟩ = some (.bool q4) ∧ w7.drew.cell? ⟨w2.heap.size, 0, none⟩ = some (.bool b2) ∧ w7.drew.cell? ⟨w2.heap.size, 1, none⟩ = some (.slice A2 n2 c2) ∧ w7.drew.cell? ⟨w4.heap.size, 0, none⟩ = some (.bool b4) ∧ w7.drew.cell? ⟨w4.heap.size, 1, none⟩ = some (.slice A4 n4 c4) := ⟨hbk.out.cell 0, hbk.out.cell 1, hbk.out.cell 2, hbk.out.cell 3, hbk.out.cell 4, (r7.out.blk _ _ hC4.out).2.cell 0, (r7.out.blk _ _ hC4.out).2.cell 1, (r7.out.blk _ _ hD.out).2.cell 0, (r7.out.blk _ _ hD.out).2.cell 1⟩
  go_region_held3 (fun wx => wx.cell? ⟨bt, 0, none⟩ = some (.bool q0) ∧ wx.cell? ⟨bt, 1, none⟩ = some (.bool q1) ∧ wx.cell? ⟨bt, 2, none⟩ = some (.bool q2) ∧ wx.cell? ⟨bt, 3, none⟩ = some (.bool q3) ∧ wx.cell? ⟨bt, 4, none⟩ = some (.bool q4) ∧ wx.cell? ⟨w2.heap.size, 0, none⟩ = some (.bool b2) ∧ wx.cell? ⟨w2.heap.size, 1, none⟩ = some (.slice A2 n2 c2) ∧ wx.cell? ⟨w4.heap.size, 0, none⟩ = some (.bool b4) ∧ wx.cell? ⟨w4.heap.size, 1, none⟩ = some (.slice A4 n4 c4)) (first | with_reducible exact s7 | with_reducible exact s10 | with_reducible exact s11 | with_reducible exact s12 | with_reducible exact s13) (first
    | (go_at_call 9; refine (hal.out _ (hok.below r7.out.drew.bel) (her.below r7.out.drew.bel)).mono ?_; rintro e w10 ⟨rfl, hb10⟩; have r10 := Hd.mk (r7.out.drew.op hb10); have k10 := Hd.mk (Blk.of_heap hbk.out (hb10.block _ hbk.out.lt)); clear hb10; have s10 : w10.cell? ⟨bt, 0, none⟩ = some (.bool q0) ∧ w10.cell? ⟨bt, 1, none⟩ = some (.bool q1) ∧ w10.cell? ⟨bt, 2, none⟩ = some (.bool q2) ∧ w10.cell? ⟨bt, 3, none⟩ = some (.bool q3) ∧ w10.cell? ⟨bt, 4, none⟩ = some (.bool q4) ∧ w10.cell? ⟨w2.heap.size, 0, none⟩ = some (.bool b2) ∧ w10.cell? ⟨w2.heap.size, 1, none⟩ = some (.slice A2 n2 c2) ∧ w10.cell? ⟨w4.heap.size, 0, none⟩ = some (.bool b4) ∧ w10.cell? ⟨w4.heap.size, 1, none⟩ = some (.slice A4 n4 c4) := ⟨k10.out.cell 0, k10.out.cell 1, k10.out.cell 2, k10.out.cell 3, k10.out.cell 4, (r10.out.blk _ _ hC4.out).2.cell 0, (r10.out.blk _ _ hC4.out).2.cell 1, (r10.out.blk _ _ hD.out).2.cell 0, (r10.out.blk _ _ hD.out).2.cell 1⟩)
    | (go_at_call 12; (with_reducible show Calls _ _ #[Value.agg #[Value.bool b2, Value.slice A2 n2 c2]] _ _); refine (hdx.out _ _ r10.out.v1).mono ?_; rintro e w11 ⟨rfl, hb11⟩; have r11 := Hd.mk (r10.out.op hb11); have k11 := Hd.mk (Blk.of_heap k10.out (hb11.block _ k10.out.lt)); clear hb11; have s11 : w11.cell? ⟨bt, 0, none⟩ = some (.bool q0) ∧ w11.cell? ⟨bt, 1, none⟩ = some (.bool q1) ∧ w11.cell? ⟨bt, 2, none⟩ = some (.bool q2) ∧ w11.cell? ⟨bt, 3, none⟩ = some (.bool q3) ∧ w11.cell? ⟨bt, 4, none⟩ = some (.bool q4) ∧ w11.cell? ⟨w2.heap.size, 0, none⟩ = some (.bool b2) ∧ w11.cell? ⟨w2.heap.size, 1, none⟩ = some (.slice A2 n2 c2) ∧ w11.cell? ⟨w4.heap.size, 0, none⟩ = some (.bool b4) ∧ w11.cell? ⟨w4.heap.size, 1, none⟩ = some (.slice A4 n4 c4) := ⟨k11.out.cell 0, k11.out.cell 1, k11.out.cell 2, k11.out.cell 3, k11.out.cell 4, (r11.out.blk _ _ hC4.out).2.cell 0, (r11.out.blk _ _ hC4.out).2.cell 1, (r11.out.blk _ _ hD.out).2.cell 0, (r11.out.blk _ _ hD.out).2.cell 1⟩)
    | (go_at_call 12; refine (hdy.out _ _ r11.out.v0).mono ?_; rintro e w12 ⟨rfl, hb12⟩; have r12 := Hd.mk (r11.out.op hb12); have k12 := Hd.mk (Blk.of_heap k11.out (hb12.block _ k11.out.lt)); clear hb12; have s12 : w12.cell? ⟨bt, 0, none⟩ = some (.bool q0) ∧ w12.cell? ⟨bt, 1, none⟩ = some (.bool q1) ∧ w12.cell? ⟨bt, 2, none⟩ = some (.bool q2) ∧ w12.cell? ⟨bt, 3, none⟩ = some (.bool q3) ∧ w12.cell? ⟨bt, 4, none⟩ = some (.bool q4) ∧ w12.cell? ⟨w2.heap.size, 0, none⟩ = some (.bool b2) ∧ w12.cell? ⟨w2.heap.size, 1, none⟩ = some (.slice A2 n2 c2) ∧ w12.cell? ⟨w4.heap.size, 0, none⟩ = some (.bool b4) ∧ w12.cell? ⟨w4.heap.size, 1, none⟩ = some (.slice A4 n4 c4) := ⟨k12.out.cell 0, k12.out.cell 1, k12.out.cell 2, k12.out.cell 3, k12.out.cell 4, (r12.out.blk _ _ hC4.out).2.cell 0, (r12.out.blk _ _ hC4.out).2.cell 1, (r12.out.blk _ _ hD.out).2.cell 0, (r12.out.blk _ _ hD.out).2.cell 1⟩)
    | (go_at_call 11; refine (hdc.out _ (hok.below r12.out.bel) (her.below r12.out.bel)).mono ?_; rintro e w13 ⟨rfl, hb13⟩; have r13 := Hd.mk (r12.out.op hb13); have k13 := Hd.mk (Blk.of_heap k12.out (hb13.block _ k12.out.lt)); clear hb13; have s13 : w13.cell? ⟨bt, 0, none⟩ = some (.bool q0) ∧ w13.cell? ⟨bt, 1, none⟩ = some (.bool q1) ∧ w13.cell? ⟨bt, 2, none⟩ = some (.bool q2) ∧ w13.cell? ⟨bt, 3, none⟩ = some (.bool q3) ∧ w13.cell? ⟨bt, 4, none⟩ = some (.bool q4) ∧ w13.cell? ⟨w2.heap.size, 0, none⟩ = some (.bool b2) ∧ w13.cell? ⟨w2.heap.size, 1, none⟩ = some (.slice A2 n2 c2) ∧ w13.cell? ⟨w4.heap.size, 0, none⟩ = some (.bool b4) ∧ w13.cell? ⟨w4.heap.size, 1, none⟩ = some (.slice A4 n4 c4) := ⟨k13.out.cell 0, k13.out.cell 1, k13.out.cell 2, k13.out.cell 3, k13.out.cell 4, (r13.out.blk _ _ hC4.out).2.cell 0, (r13.out.blk _ _ hC4.out).2.cell 1, (r13.out.blk _ _ hD.out).2.cell 0, (r13.out.blk _ _ hD.out).2.cell 1⟩))
  all_goals
    go_wp2
    go_ret
    exact ⟨by simp, r13.out.bel⟩
end Go.Proofs.YtdbjdpooggaonaaGreatDoor
