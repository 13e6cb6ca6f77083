/- FnDecBack: the walk. Conditions: those that each theorem states. -/
import Derived.Test.YtmamfidjigmahaaGreatDoorBack01
set_option linter.all false

namespace Go.Proofs.YtmamfidjigmahaaGreatDoor
open Go.RowKit
set_option maxRecDepth 100000
theorem chopR_near (x : Int) : (chopR x).natAbs ≤ x.natAbs + 1 := by
  unfold chopR chopP E18
  split
  · split
    · omega
    · split
      · omega
      · split <;> omega
  · split
    · omega
    · split
      · omega
      · split <;> omega
theorem tdiv_near (x : Int) : (x.tdiv E18).natAbs ≤ x.natAbs := by
  rw [Int.natAbs_tdiv]
  exact Nat.div_le_self _ _
theorem tell_any (x : Int) (w : World) (hok : Ok w) (her : Er w) (hx : inR x = true) (hr : (chopR x).natAbs < 2 ^ 256) (ht : (x.tdiv E18).natAbs < 2 ^ 256) :
    Calls Tryz.prog 12 #[.string (zT x)] w fun e w' => ∃ (b1 b2 b3 b4 b5 b10 b11 : Bool) (s6 s7 : ByteArray) (v8 v9 : Int), e = .returned (.tuple #[.agg #[.string (mkT (decL x)), .bool b1, .bool b2, .bool b3, .bool b4, .bool b5, .string s6, .string s7, .int .i64 v8, .int .i64 v9, .bool b10, .bool b11], .bool true]) ∧ Below w.heap.size w w' :=
  (DecTell_ok x w hok her hx hr ht).mono fun _ _ ⟨he, hb⟩ => ⟨_, _, _, _, _, _, _, _, _, _, _, he, hb⟩
set_option maxHeartbeats 8000000 in
theorem back_walk (a : ByteArray) (w : World) (hok : Ok w) (her : Er w) :
    Calls Tryz.prog 3 #[.string a] w fun e w' => e = .returned (.bool true) ∧ Below w.heap.size w w' := by
  by_cases h1 : 2147483647 < a.size
  · have d1 : decide ((2147483647 : Int) < (a.size : Int)) = true := decide_eq_true (by omega)
    go_enter Tryz.func3, Tryz.ntmps3
    go_wp2
    go_ret
    exact ⟨rfl, Below.refl _ _⟩
  have d1 : decide ((2147483647 : Int) < (a.size : Int)) = false := decide_eq_false (by omega)
  have hpt := Hd.mk (parts_any a w (by omega))
  have hal := Hd.mk alive_any
  go_enter Tryz.func3, Tryz.ntmps3
  go_upto_region 4 with (go_at_call 7; refine hpt.out.mono ?_; rintro e w2 ⟨b2, A2, n2, c2, ok, rfl, hx, hb2⟩; replace hx := Hd.mk hx; replace hb2 := Hd.mk hb2)
  have r2 := Hd.mk (((SR.start w [] (fun p hp => by cases hp)).op hb2.out).box2 (b0 := b2) (A := A2) (m := n2) (c := c2))
  have hba : Below w2.heap.size w2 (w2.alloc (.cells #[.bool b2, .slice A2 n2 c2] 24)) := (Below.refl _ _).alloc (Nat.le_refl _) _
  have hC : Hd (updC (fun _ => none) w2.heap.size [.bool b2, .slice A2 n2 c2] w2.heap.size = some [.bool b2, .slice A2 n2 c2]) := ⟨updC_same⟩
  generalize updC (fun _ => none) w2.heap.size [.bool b2, .slice A2 n2 c2] = C at *
  have hxb := Hd.mk fun x (h : NumV w2 (.agg #[.bool b2, .slice A2 n2 c2]) x) => h.below hba
  clear hba
  generalize w2.alloc (.cells #[.bool b2, .slice A2 n2 c2] 24) = w3 at *
  refine SR.cellK r2.out hC.out ?_
  intro f0 f1 fz fy fl
  cases ok
  · go_wp2_with (go_at_call 11; refine (hal.out _ (hok.below r2.out.bel) (her.below r2.out.bel)).mono ?_; rintro e w9 ⟨rfl, hb9⟩; have r9 := Hd.mk (r2.out.op hb9); clear hb9)
    go_ret
    exact ⟨rfl, r9.out.bel⟩
  obtain ⟨x, hsx, hxm, hnx⟩ := hx.out rfl
  subst hsx
  rw [most_lim] at hxm
  have hxR : inR x = true := inR_of (by omega) (by omega)
  have hx200 : x.natAbs < 10 ^ 200 := by
    have := inR_130 hxR
    exact Nat.lt_trans this (by decide)
  have h130 : (10 : Nat) ^ 130 + 1 < 10 ^ 200 := by decide
  have hr200 : (chopR x).natAbs < 10 ^ 200 := Nat.lt_of_le_of_lt (chopR_near x) (Nat.lt_of_le_of_lt (Nat.succ_le_of_lt (Nat.lt_succ_of_lt (inR_130 hxR))) h130)
  have ht200 : (x.tdiv E18).natAbs < 10 ^ 200 := Nat.lt_of_le_of_lt (tdiv_near x) hx200
  clear h130
  have r3 := Hd.mk (r2.out.add (hxb.out x hnx))
  have hro := Hd.mk fun w1 v1 (h : NumV w1 v1 x) => nv (rounded_any v1 x w1 h hx200)
  have hcu := Hd.mk fun w1 v1 (h : NumV w1 v1 x) => nv (cut18_any v1 x w1 h hx200)
  by_cases hR : (chopR x).natAbs < 2 ^ 256
  · have hbr := Hd.mk fun w1 v1 (h : NumV w1 v1 (chopR x)) => bits_le v1 _ w1 h hr200 hR
    by_cases hT : (x.tdiv E18).natAbs < 2 ^ 256
    · have hbt := Hd.mk fun w1 v1 (h : NumV w1 v1 (x.tdiv E18)) => bits_le v1 _ w1 h ht200 hT
      have hde := Hd.mk fun w1 q1 q2 => tell_any x w1 q1 q2 hxR hR hT
      have hpa := Hd.mk fun w1 q1 q2 => DecParse_back x w1 q1 q2 hxR
      generalize chopR x = y at *
      generalize hty : x.tdiv E18 = t at *
      replace hty := Hd.mk hty
      replace hR := Hd.mk hR
      replace hT := Hd.mk hT
      replace hr200 := Hd.mk hr200
      replace ht200 := Hd.mk ht200
      replace hx200 := Hd.mk hx200
      generalize mkT (decL x) = tx at *
      generalize zT x = sx at *
      go_upto_region 6 with (first
        | (go_at_call 8; refine (hro.out _ _ r3.out.v0).mono ?_; rintro e w4 ⟨b4, A4, m4, c4, rfl, hn4, hb4⟩; have r4 := Hd.mk ((r3.out.op hb4).add hn4); clear hb4 hn4)
        | (go_at_call 10; refine (hcu.out _ _ r5.out.v1).mono ?_; rintro e w6 ⟨b6, A6, m6, c6, rfl, hn6, hb6⟩; have r6 := Hd.mk ((r5.out.op hb6).add hn6); clear hb6 hn6)
        | (go_at_call 9; refine (hbt.out _ _ r6.out.v0).mono ?_; rintro e w7 ⟨k2, rfl, dj1, dj2, dj3, hb7⟩; have r7 := Hd.mk (r6.out.op hb7); clear hb7)
        | (go_at_call 9; refine (hbr.out _ _ r4.out.v0).mono ?_; rintro e w5 ⟨k1, rfl, dk1, dk2, dk3, hb5⟩; have r5 := Hd.mk (r4.out.op hb5); clear hb5; refine SR.cellK r5.out hC.out ?_; intro g0 g1 gz gy gl))
      have hbel7 := Hd.mk r7.out.bel
      clear r2 r3 r4 r5 r6 r7 f0 f1 fz fy fl g0 g1 gz gy gl hxb hbr hbt hro hcu
      go_upto_region 7 with (go_at_call 12; refine (hde.out _ (hok.below hbel7.out) (her.below hbel7.out)).mono ?_; rintro e w8 ⟨p1, p2, p3, p4, p5, p10, p11, s6, s7, v8, v9, rfl, hb8⟩; have hbel8 := Hd.mk (hbel7.out.trans (hb8.mono hbel7.out.size)); clear hb8)
      have hbk := Blk.new w8 #[.string tx, .bool p1, .bool p2, .bool p3, .bool p4, .bool p5, .string s6, .string s7, .int .i64 v8, .int .i64 v9, .bool p10, .bool p11] 31
      have hbel9 : Below w.heap.size w (w8.alloc (.cells #[.string tx, .bool p1, .bool p2, .bool p3, .bool p4, .bool p5, .string s6, .string s7, .int .i64 v8, .int .i64 v9, .bool p10, .bool p11] 31)) := hbel8.out.alloc hbel8.out.size _
      have l0 := hbk.cell 0
      simp only [List.getElem?_cons_zero] at l0
      generalize w8.alloc (.cells #[.string tx, .bool p1, .bool p2, .bool p3, .bool p4, .bool p5, .string s6, .string s7, .int .i64 v8, .int .i64 v9, .bool p10, .bool p11] 31) = w9 at *
      replace hbk := Hd.mk hbk
      replace hbel9 := Hd.mk hbel9
      go_wp2_with (first
        | (go_at_call 13; refine (hpa.out _ (hok.below hbel9.out) (her.below hbel9.out)).mono ?_; rintro e w10 ⟨rfl, hb10⟩; have hbel10 := Hd.mk (hbel9.out.trans (hb10.mono hbel9.out.size)); clear hb10)
        | (go_at_call 11; refine (hal.out _ (hok.below hbel10.out) (her.below hbel10.out)).mono ?_; rintro e w11 ⟨rfl, hb11⟩; have hbel11 := Hd.mk (hbel10.out.trans (hb11.mono hbel10.out.size)); clear hb11))
      go_ret
      exact ⟨by simp, hbel11.out⟩
    · have hbt := Hd.mk fun w1 v1 (h : NumV w1 v1 (x.tdiv E18)) => bits_gt v1 _ w1 h ht200 hT
      generalize chopR x = y at *
      generalize hty : x.tdiv E18 = t at *
      replace hty := Hd.mk hty
      replace hR := Hd.mk hR
      replace hT := Hd.mk hT
      replace hr200 := Hd.mk hr200
      replace ht200 := Hd.mk ht200
      replace hx200 := Hd.mk hx200
      go_wp2_with (first
        | (go_at_call 8; refine (hro.out _ _ r3.out.v0).mono ?_; rintro e w4 ⟨b4, A4, m4, c4, rfl, hn4, hb4⟩; have r4 := Hd.mk ((r3.out.op hb4).add hn4); clear hb4 hn4)
        | (go_at_call 10; refine (hcu.out _ _ r5.out.v1).mono ?_; rintro e w6 ⟨b6, A6, m6, c6, rfl, hn6, hb6⟩; have r6 := Hd.mk ((r5.out.op hb6).add hn6); clear hb6 hn6)
        | (go_at_call 9; refine (hbt.out _ _ r6.out.v0).mono ?_; rintro e w7 ⟨k2, rfl, dj1, dj2, dj3, hb7⟩; have r7 := Hd.mk (r6.out.op hb7); clear hb7)
        | (go_at_call 9; refine (hbr.out _ _ r4.out.v0).mono ?_; rintro e w5 ⟨k1, rfl, dk1, dk2, dk3, hb5⟩; have r5 := Hd.mk (r4.out.op hb5); clear hb5; refine SR.cellK r5.out hC.out ?_; intro g0 g1 gz gy gl)
        | (go_at_call 11; refine (hal.out _ (hok.below r7.out.bel) (her.below r7.out.bel)).mono ?_; rintro e w9 ⟨rfl, hb9⟩; have r9 := Hd.mk (r7.out.op hb9); clear hb9))
      go_ret
      exact ⟨rfl, r9.out.bel⟩
  · have hbr := Hd.mk fun w1 v1 (h : NumV w1 v1 (chopR x)) => bits_gt v1 _ w1 h hr200 hR
    generalize chopR x = y at *
    replace hR := Hd.mk hR
    replace hr200 := Hd.mk hr200
    replace hx200 := Hd.mk hx200
    go_wp2_with (first
      | (go_at_call 8; refine (hro.out _ _ r3.out.v0).mono ?_; rintro e w4 ⟨b4, A4, m4, c4, rfl, hn4, hb4⟩; have r4 := Hd.mk ((r3.out.op hb4).add hn4); clear hb4 hn4)
      | (go_at_call 9; refine (hbr.out _ _ r4.out.v0).mono ?_; rintro e w5 ⟨k1, rfl, dk1, dk2, dk3, hb5⟩; have r5 := Hd.mk (r4.out.op hb5); clear hb5)
      | (go_at_call 11; refine (hal.out _ (hok.below r5.out.bel) (her.below r5.out.bel)).mono ?_; rintro e w9 ⟨rfl, hb9⟩; have r9 := Hd.mk (r5.out.op hb9); clear hb9))
    go_ret
    exact ⟨rfl, r9.out.bel⟩
end Go.Proofs.YtmamfidjigmahaaGreatDoor
