/- FnIntToDec: the walk. Conditions: those that each theorem states. -/
import Derived.Test.YtdbjdpooggaonaaGreatDoorJoin03
set_option linter.all false

namespace Go.Proofs.YtdbjdpooggaonaaGreatDoor
open Go.RowKit
set_option maxRecDepth 100000
theorem tell_whole (x : Int) (w : World) (hok : Ok w) (her : Er w) (hx : x.natAbs < 2 ^ 256) :
    Calls Tryz.prog 23 #[.string (zT (x * E18))] w fun e w' => ∃ (t : ByteArray) (b4 b5 b10 b11 : Bool) (v8 v9 : Int), e = .returned (.tuple #[.agg #[.string t, .bool true, .bool (decide (x = 0)), .bool (decide (x < 0)), .bool b4, .bool b5, .string (zT x), .string (zT x), .int .i64 v8, .int .i64 v9, .bool b10, .bool b11], .bool true]) ∧ Below w.heap.size w w' := by
  have h := DecTell_ok (x * E18) w hok her (inR_whole hx) (by rw [chopR_whole]; exact hx) (by rw [tdiv_whole]; exact hx)
  unfold tellL abL at h
  rw [chopR_whole, tdiv_whole, tmod_whole, whole_zero, whole_neg] at h
  exact h.mono fun _ _ ⟨he, hb⟩ => ⟨_, _, _, _, _, _, _, he, hb⟩
set_option maxHeartbeats 8000000 in
theorem intToDec_walk (a : ByteArray) (w : World) (hok : Ok w) (her : Er w) :
    Calls Tryz.prog 5 #[.string a] w fun e w' => e = .returned (.bool true) ∧ Below w.heap.size w w' := by
  by_cases h1 : 2147483647 < a.size
  · have d1 : decide ((2147483647 : Int) < (a.size : Int)) = true := decide_eq_true (by omega)
    go_enter Tryz.func5, Tryz.ntmps5
    go_wp2
    go_ret
    exact ⟨rfl, Below.refl _ _⟩
  have d1 : decide ((2147483647 : Int) < (a.size : Int)) = false := decide_eq_false (by omega)
  have hpt := Hd.mk (sint_any a w (by omega))
  have hal := Hd.mk joinAwake_any
  go_enter Tryz.func5, Tryz.ntmps5
  go_upto_region 4 with (go_at_call 8; refine hpt.out.mono ?_; rintro e w2 ⟨b2, A2, n2, c2, ok, rfl, hx, hb2⟩; replace hx := Hd.mk hx; replace hb2 := Hd.mk hb2)
  have r2 := Hd.mk (((SR.start w [] (fun p hp => by cases hp)).op hb2.out).box2 (b0 := b2) (A := A2) (m := n2) (c := c2))
  have hba : Below w2.heap.size w2 (w2.alloc (.cells #[.bool b2, .slice A2 n2 c2] 24)) := (Below.refl _ _).alloc (Nat.le_refl _) _
  have hC : Hd (updC (fun _ => none) w2.heap.size [.bool b2, .slice A2 n2 c2] w2.heap.size = some [.bool b2, .slice A2 n2 c2]) := ⟨updC_same⟩
  generalize updC (fun _ => none) w2.heap.size [.bool b2, .slice A2 n2 c2] = C at *
  have hxb := Hd.mk fun x (h : NumV w2 (.agg #[.bool b2, .slice A2 n2 c2]) x) => h.below hba
  clear hba
  generalize w2.alloc (.cells #[.bool b2, .slice A2 n2 c2] 24) = w3 at *
  refine SR.cellK r2.out hC.out ?_
  intro f0 f1 fz fy fl
  cases ok
  · go_wp2_with (go_at_call 9; refine (hal.out _ (hok.below r2.out.bel) (her.below r2.out.bel)).mono ?_; rintro e w9 ⟨rfl, hb9⟩; have r9 := Hd.mk (r2.out.op hb9); clear hb9)
    go_ret
    exact ⟨rfl, r9.out.bel⟩
  obtain ⟨x, hsx, hxm, hnx⟩ := hx.out rfl
  subst hsx
  have hb : b2 = decide (x < 0) := by
    obtain ⟨A', cap, e, _⟩ := hnx.open
    cases e; rfl
  have r3 := Hd.mk (r2.out.add (hxb.out x hnx))
  have hmk := Hd.mk fun w1 q1 q2 => DecMake_ok 7 (by decide) 0 (by decide) x w1 q1 q2 hxm (fun h => absurd h (by decide))
  rw [show makV 7 0 x = x * E18 from rfl] at hmk
  have hte := Hd.mk fun w1 q1 q2 => tell_whole x w1 q1 q2 hxm
  have hdo := Hd.mk fun w1 v1 (h : NumV w1 v1 x) => decOf_any v1 x w1 h hxm
  have hze := Hd.mk fun w1 v1 (h : NumV w1 v1 x) => zero_any v1 x w1 h
  subst hb
  replace hxm := Hd.mk hxm
  replace hnx := Hd.mk hnx
  replace hx := Hd.mk hx
  generalize zT (x * E18) = sz at *
  generalize zT x = sx at *
  generalize decide (x = 0) = q0 at *
  generalize decide (x < 0) = q1 at *
  go_upto_region 7 with (go_at_call 22; refine (hmk.out _ (hok.below r3.out.bel) (her.below r3.out.bel)).mono ?_; rintro e w5 ⟨rfl, hb5⟩; have r5 := Hd.mk (r3.out.op hb5); clear hb5)
  go_upto_region 8 with (go_at_call 23; refine (hte.out _ (hok.below r5.out.bel) (her.below r5.out.bel)).mono ?_; rintro e w8 ⟨tx, p4, p5, p10, p11, v8, v9, rfl, hb8⟩; have r8 := Hd.mk (r5.out.op hb8); clear hb8)
  have hbk := Blk.new w8 #[.string tx, .bool true, .bool q0, .bool q1, .bool p4, .bool p5, .string sx, .string sx, .int .i64 v8, .int .i64 v9, .bool p10, .bool p11] 48
  have hb9 : Below w8.heap.size w8 (w8.alloc (.cells #[.string tx, .bool true, .bool q0, .bool q1, .bool p4, .bool p5, .string sx, .string sx, .int .i64 v8, .int .i64 v9, .bool p10, .bool p11] 48)) := (Below.refl _ _).alloc (Nat.le_refl _) _
  have r9 := Hd.mk (r8.out.op hb9)
  clear hb9
  generalize w8.alloc (.cells #[.string tx, .bool true, .bool q0, .bool q1, .bool p4, .bool p5, .string sx, .string sx, .int .i64 v8, .int .i64 v9, .bool p10, .bool p11] 48) = w9 at *
  generalize w8.heap.size = bt at *
  replace hbk := Hd.mk hbk
  go_region_law (first
    | (go_simp; go_at_call 9; refine (hal.out _ (hok.below r9.out.drew.bel) (her.below r9.out.drew.bel)).mono ?_; rintro e w10 ⟨rfl, hb10⟩; have r10 := Hd.mk (r9.out.drew.op hb10); have k10 := Hd.mk (Blk.of_heap hbk.out (hb10.block _ hbk.out.lt)); clear hb10; refine SR.cellK r10.out hC.out ?_; intro i0 i1 iz iy il)
    | (go_simp; go_at_call 12; refine (hdo.out _ _ r10.out.v0).mono ?_; rintro e w11 ⟨rfl, hb11⟩; have r11 := Hd.mk (r10.out.op hb11); have k11 := Hd.mk (Blk.of_heap k10.out (hb11.block _ k10.out.lt)); clear hb11; refine SR.cellK r11.out hC.out ?_; intro j0 j1 jz jy jl; have l1 := k11.out.cell 1; have l2 := k11.out.cell 2; have l3 := k11.out.cell 3; have l6 := k11.out.cell 6; have l7 := k11.out.cell 7; simp only [Array.toList, List.getElem?_cons_succ, List.getElem?_cons_zero] at l1 l2 l3 l6 l7)
    | (go_simp; go_at_call 24; refine (hze.out _ _ r11.out.v0).mono ?_; rintro e w12 ⟨rfl, hb12⟩; have r12 := Hd.mk (r11.out.op hb12); have k12 := Hd.mk (Blk.of_heap k11.out (hb12.block _ k11.out.lt)); clear hb12; refine SR.cellK r12.out hC.out ?_; intro g0 g1 gz gy gl; have m2 := k12.out.cell 2; have m3 := k12.out.cell 3; simp only [Array.toList, List.getElem?_cons_succ, List.getElem?_cons_zero] at m2 m3))
  all_goals
    go_wp2
    go_ret
    exact ⟨by simp, r12.out.bel⟩
end Go.Proofs.YtdbjdpooggaonaaGreatDoor
