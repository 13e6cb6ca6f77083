/- FnDecPower: the walk. Conditions: those that each theorem states. -/
import Derived.Test.YtpabbnogfflgpaaGreatDoorPower01
import Derived.Test.YtpabbnogfflgpaaGreatDoorBase31
import Derived.Test.YtpabbnogfflgpaaGreatDoorBase28
set_option linter.all false

namespace Go.Proofs.YtpabbnogfflgpaaGreatDoor
open Go.RowKit
set_option maxRecDepth 100000
theorem DecPower_some (n : Nat) (m : Bool) (x z : Int) (w : World) (hok : Ok w) (her : Er w) (hx : inR x = true) (hn : n < 18446744073709551616) (hres : pwD n x = some z) :
    Calls Tryz.prog 22 #[.string (zT x), .int .u64 (n : Int), .bool m] w fun e w' => e = .returned (.tuple #[.string (zT z), .bool true]) ∧ Below w.heap.size w w' := by
  refine pow_ok (zT x) (n : Int) m (zT z) w hok her ?_
  cases m
  · exact powK_Power_ok n x hx z (pwD_in hres) (powC_new hx hn hres)
  · exact powK_PowerMut_ok n x hx z (pwD_in hres) (powC_mut hx hn hres)
theorem DecPower_none (n : Nat) (m : Bool) (x : Int) (w : World) (hok : Ok w) (her : Er w) (hx : inR x = true) (hn : n < 18446744073709551616) (hres : pwD n x = none) :
    Calls Tryz.prog 22 #[.string (zT x), .int .u64 (n : Int), .bool m] w fun e w' => e = .returned (.tuple #[.string (ByteArray.mk #[]), .bool false]) ∧ Below w.heap.size w w' := by
  refine pow_pan (zT x) (n : Int) m w hok her ?_
  cases m
  · exact powK_Power_pan n x hx (powC_new hx hn hres)
  · exact powK_PowerMut_pan n x hx (powC_mut hx hn hres)
theorem powS_some (n : Nat) (v : Value) (x z : Int) (w : World) (hx : NumV w v x) (hxR : inR x = true) (hn : n < 18446744073709551616) (hres : pwD n x = some z) :
    Calls Tryz.prog 21 #[v, .int .u64 (n : Int)] w fun e w' => ∃ b A m c, e = .returned (.tuple #[.agg #[.bool b, .slice A m c], .bool true]) ∧ NumV w' (.agg #[.bool b, .slice A m c]) z ∧ Below w.heap.size w w' :=
  (powS_any n v x w hx hxR hn _ hres).mono fun e w' h => by
    rcases h with ⟨z', b, A, m, c, hz, he, hn, hb⟩ | ⟨hz, -⟩
    · cases hz; exact ⟨b, A, m, c, he, hn, hb⟩
    · cases hz
theorem powS_none (n : Nat) (v : Value) (x : Int) (w : World) (hx : NumV w v x) (hxR : inR x = true) (hn : n < 18446744073709551616) (hres : pwD n x = none) :
    Calls Tryz.prog 21 #[v, .int .u64 (n : Int)] w fun e w' => ∃ b A m c, e = .returned (.tuple #[.agg #[.bool b, .slice A m c], .bool false]) ∧ Below w.heap.size w w' :=
  (powS_any n v x w hx hxR hn _ hres).mono fun e w' h => by
    rcases h with ⟨z', b, A, m, c, hz, -⟩ | ⟨-, b, A, m, c, he, hb⟩
    · cases hz
    · exact ⟨b, A, m, c, he, hb⟩
set_option maxHeartbeats 8000000 in
theorem power_walk (a : ByteArray) (n : Int) (m : Bool) (w : World) (hok : Ok w) (her : Er w) (h0 : 0 ≤ n) (h1 : n < 256) :
    Calls Tryz.prog 5 #[.string a, .int .u8 n, .bool m] w fun e w' => e = .returned (.bool true) ∧ Below w.heap.size w w' := by
  obtain ⟨k, rfl⟩ := Int.eq_ofNat_of_zero_le h0
  clear h0
  by_cases hs : 2147483647 < a.size
  · have d1 : decide ((2147483647 : Int) < (a.size : Int)) = true := decide_eq_true (by omega)
    go_enter Tryz.func5, Tryz.ntmps5
    go_wp2
    go_ret
    exact ⟨rfl, Below.refl _ _⟩
  have d1 : decide ((2147483647 : Int) < (a.size : Int)) = false := decide_eq_false (by omega)
  have hpt := Hd.mk (parts_any a w (by omega))
  have hal := Hd.mk alive_any
  go_enter Tryz.func5, Tryz.ntmps5
  go_upto_region 4 with (go_at_call 17; refine hpt.out.mono ?_; rintro e w2 ⟨b2, A2, n2, c2, ok, rfl, hx, hb2⟩; replace hx := Hd.mk hx; replace hb2 := Hd.mk hb2)
  have r2 := Hd.mk (((SR.start w [] (fun p hp => by cases hp)).op hb2.out).box2 (b0 := b2) (A := A2) (m := n2) (c := c2))
  have hba : Below w2.heap.size w2 (w2.alloc (.cells #[.bool b2, .slice A2 n2 c2] 24)) := (Below.refl _ _).alloc (Nat.le_refl _) _
  have hC : Hd (updC (fun _ => none) w2.heap.size [.bool b2, .slice A2 n2 c2] w2.heap.size = some [.bool b2, .slice A2 n2 c2]) := ⟨updC_same⟩
  generalize updC (fun _ => none) w2.heap.size [.bool b2, .slice A2 n2 c2] = C at *
  have hxb := Hd.mk fun x (h : NumV w2 (.agg #[.bool b2, .slice A2 n2 c2]) x) => h.below hba
  clear hba
  generalize w2.alloc (.cells #[.bool b2, .slice A2 n2 c2] 24) = w3 at *
  refine SR.cellK r2.out hC.out ?_
  intro f0 f1 fz fy fl
  cases ok
  · go_wp2_with (go_at_call 10; refine (hal.out _ (hok.below r2.out.bel) (her.below r2.out.bel)).mono ?_; rintro e w9 ⟨rfl, hb9⟩; have r9 := Hd.mk (r2.out.op hb9); clear hb9)
    go_ret
    exact ⟨rfl, r9.out.bel⟩
  by_cases hk : 200 < k
  · have dk : decide ((200 : Int) < (k : Int)) = true := decide_eq_true (by omega)
    go_wp2_with (go_at_call 10; refine (hal.out _ (hok.below r2.out.bel) (her.below r2.out.bel)).mono ?_; rintro e w9 ⟨rfl, hb9⟩; have r9 := Hd.mk (r2.out.op hb9); clear hb9)
    go_ret
    exact ⟨rfl, r9.out.bel⟩
  have dk : decide ((200 : Int) < (k : Int)) = false := decide_eq_false (by omega)
  obtain ⟨x, hsx, hxm, hnx⟩ := hx.out rfl
  subst hsx
  rw [most_lim] at hxm
  have hxR : inR x = true := inR_of (by omega) (by omega)
  have r3 := Hd.mk (r2.out.add (hxb.out x hnx))
  have hk64 : k < 18446744073709551616 := by omega
  cases hres : pwD k x with
  | none =>
    have hsp := Hd.mk fun w1 v1 (h : NumV w1 v1 x) => powS_none k v1 x w1 h hxR hk64 hres
    have him := Hd.mk fun w1 q1 q2 => DecPower_none k m x w1 q1 q2 hxR hk64 hres
    replace hres := Hd.mk hres
    replace hxm := Hd.mk hxm
    generalize zT x = sx at *
    go_wp2_with (first
      | (go_at_call 21; refine (hsp.out _ _ r3.out.v0).mono ?_; rintro e w4 ⟨b4, A4, m4, c4, rfl, hb4⟩; have r4 := Hd.mk ((r3.out.op hb4).box2 (b0 := b4) (A := A4) (m := m4) (c := c4)); clear hb4)
      | (go_at_call 22; refine (him.out _ (hok.below r4.out.bel) (her.below r4.out.bel)).mono ?_; rintro e w5 ⟨rfl, hb5⟩; have r5 := Hd.mk (r4.out.op hb5); clear hb5)
      | (go_at_call 10; refine (hal.out _ (hok.below r5.out.bel) (her.below r5.out.bel)).mono ?_; rintro e w9 ⟨rfl, hb9⟩; have r9 := Hd.mk (r5.out.op hb9); clear hb9))
    go_ret
    exact ⟨by simp, r9.out.bel⟩
  | some z =>
    have hzR := pwD_in hres
    have hsp := Hd.mk fun w1 v1 (h : NumV w1 v1 x) => powS_some k v1 x z w1 h hxR hk64 hres
    have him := Hd.mk fun w1 q1 q2 => DecPower_some k m x z w1 q1 q2 hxR hk64 hres
    have htx := Hd.mk fun w1 v1 (h1 : NumV w1 v1 z) => text_any v1 _ w1 h1 (wl200 (Nat.lt_trans (inR_130 hzR) (by decide)))
    replace hres := Hd.mk hres
    replace hxm := Hd.mk hxm
    generalize zT x = sx at *
    generalize zT z = sz at *
    go_upto_region 7 with (go_at_call 21; refine (hsp.out _ _ r3.out.v0).mono ?_; rintro e w4 ⟨b4, A4, m4, c4, rfl, hn4, hb4⟩; have r4 := Hd.mk ((((r3.out.op hb4).add hn4)).box2 (b0 := b4) (A := A4) (m := m4) (c := c4)); clear hb4 hn4)
    have hD : Hd (updC C w4.heap.size [.bool b4, .slice A4 m4 c4] w4.heap.size = some [.bool b4, .slice A4 m4 c4]) := ⟨updC_same⟩
    generalize updC C w4.heap.size [.bool b4, .slice A4 m4 c4] = C4 at *
    generalize w4.alloc (.cells #[.bool b4, .slice A4 m4 c4] 24) = w6 at *
    go_wp2_with (first
      | (go_at_call 22; refine (him.out _ (hok.below r4.out.bel) (her.below r4.out.bel)).mono ?_; rintro e w7 ⟨rfl, hb7⟩; have r7 := Hd.mk (r4.out.op hb7); clear hb7)
      | (go_at_call 10; refine (hal.out _ (hok.below r7.out.bel) (her.below r7.out.bel)).mono ?_; rintro e w9 ⟨rfl, hb9⟩; have r9 := Hd.mk (r7.out.op hb9); clear hb9; refine SR.cellK r9.out hD.out ?_; intro j0 j1 jz jy jl)
      | (go_at_call 15; refine (htx.out _ _ r9.out.v0).mono ?_; rintro e w11 ⟨rfl, hb11⟩; have r11 := Hd.mk (r9.out.op hb11); clear hb11))
    go_ret
    exact ⟨by simp, r11.out.bel⟩
end Go.Proofs.YtpabbnogfflgpaaGreatDoor
