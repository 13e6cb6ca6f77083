/- FnDecMakes: the walk. Conditions: those that each theorem states. -/
import Derived.Test.YtpabbnogfflgpaaGreatDoorMakes01
import Derived.Test.YtpabbnogfflgpaaGreatDoorMakes02
import Derived.Test.YtpabbnogfflgpaaGreatDoorOnes02
import Derived.Test.YtpabbnogfflgpaaGreatDoorBase31
import Derived.Test.YtpabbnogfflgpaaGreatDoorBase28
set_option linter.all false

namespace Go.Proofs.YtpabbnogfflgpaaGreatDoor
open Go.RowKit
set_option maxRecDepth 100000
set_option maxHeartbeats 16000000 in
theorem makes_walk (way : Int) (a : ByteArray) (pr : Int) (w : World) (hok : Ok w) (her : Er w) (h0 : 0 ≤ way) (h1 : way < 256) (h2 : 0 ≤ pr) (h3 : pr < 256) :
    Calls Tryz.prog 3 #[.int .u8 way, .string a, .int .u8 pr] w fun e w' => e = .returned (.bool true) ∧ Below w.heap.size w w' := by
  obtain ⟨p, rfl⟩ := Int.eq_ofNat_of_zero_le h2
  clear h2
  by_cases hs : 2147483647 < a.size
  · have d1 : decide ((2147483647 : Int) < (a.size : Int)) = true := decide_eq_true (by omega)
    go_enter Tryz.func3, Tryz.ntmps3
    go_wp2
    go_ret
    exact ⟨rfl, Below.refl _ _⟩
  have d1 : decide ((2147483647 : Int) < (a.size : Int)) = false := decide_eq_false (by omega)
  have hpt := Hd.mk (wholes_any a w (by omega))
  have hal := Hd.mk alive_any
  obtain ⟨k, hk8, hk⟩ : ∃ k : Nat, k < 8 ∧ way.tmod 8 = (k : Int) := ⟨(way.tmod 8).toNat, by have := Int.tmod_lt_of_pos way (b := 8) (by decide); have := Int.tmod_nonneg 8 h0; omega, by have := Int.tmod_nonneg 8 h0; omega⟩
  go_enter Tryz.func3, Tryz.ntmps3
  go_upto_region 4 with (go_at_call 8; refine hpt.out.mono ?_; rintro e w2 ⟨b2, A2, n2, c2, ok, x, rfl, hx, hx80, hnx, hb2⟩; replace hx := Hd.mk hx; replace hb2 := Hd.mk hb2)
  have r2 := Hd.mk ((((SR.start w [] (fun p hp => by cases hp)).op hb2.out).add hnx).box2 (b0 := b2) (A := A2) (m := n2) (c := c2))
  clear hnx
  have hC : Hd (updC (fun _ => none) w2.heap.size [.bool b2, .slice A2 n2 c2] w2.heap.size = some [.bool b2, .slice A2 n2 c2]) := ⟨updC_same⟩
  generalize updC (fun _ => none) w2.heap.size [.bool b2, .slice A2 n2 c2] = C at *
  have s2 : w2.heap.size < (w2.alloc (.cells #[.bool b2, .slice A2 n2 c2] 24)).heap.size := by rw [World.size_alloc]; omega
  generalize w2.alloc (.cells #[.bool b2, .slice A2 n2 c2] 24) = w3 at *
  generalize w2.heap.size = bx at *
  refine SR.cellK r2.out hC.out ?_
  intro f0 f1 fz fy fl
  have hx200 : x.natAbs < 10 ^ 200 := Nat.lt_trans hx80 (by decide)
  have hsm := Hd.mk (small_any _ x w3 r2.out.v0 (wl200 hx200))
  generalize hsv : is64 x = sm at *
  generalize (if sm = true then x else 0) = sv at *
  replace hsv := Hd.mk hsv
  go_upto_region 6 with (go_at_call 9; refine hsm.out.mono ?_; rintro e w4 ⟨rfl, hb4⟩; have r4 := Hd.mk (r2.out.op hb4); have s4 := hb4.size; clear hb4 hsm)
  clear r2 f0 f1 fz fy fl
  refine SR.cellK r4.out hC.out ?_
  intro f0 f1 fz fy fl
  cases ok
  · go_wp2_with (go_at_call 10; refine (hal.out _ (hok.below r4.out.bel) (her.below r4.out.bel)).mono ?_; rintro e w9 ⟨rfl, hb9⟩; have r9 := Hd.mk (r4.out.op hb9); clear hb9)
    go_ret
    exact ⟨rfl, r9.out.bel⟩
  obtain ⟨hsx, hx256⟩ := hx.out rfl
  subst hsx
  by_cases hp : 18 < p
  · have dp : decide ((18 : Int) < (p : Int)) = true := decide_eq_true (by omega)
    go_wp2_with (go_at_call 10; refine (hal.out _ (hok.below r4.out.bel) (her.below r4.out.bel)).mono ?_; rintro e w9 ⟨rfl, hb9⟩; have r9 := Hd.mk (r4.out.op hb9); clear hb9)
    go_ret
    exact ⟨rfl, r9.out.bel⟩
  have dp : decide ((18 : Int) < (p : Int)) = false := decide_eq_false (by omega)
  have hp18 : p ≤ 18 := by omega
  have hpr := Hd.mk fun w1 => nv (prec_any w1)
  rw [show (10 : Int) ^ 18 = E18 by unfold E18; decide] at hpr
  have hw18 : T.wlen E18.natAbs < 900 := wl200 (by decide)
  have hwx9 : T.wlen x.natAbs < 900 := wl200 hx200
  have hmu := Hd.mk fun w1 v1 v2 (h1 : NumV w1 v1 x) (h2 : NumV w1 v2 E18) => nv (ntimes_any v1 v2 _ _ w1 h1 h2 (by omega) (by omega))
  have hte := Hd.mk fun w1 => nv (ten_any (18 - p) w1 (by omega))
  have hwt : T.wlen (((10 ^ (18 - p) : Nat) : Int)).natAbs < 900 := wl200 (by rw [Int.natAbs_natCast]; exact Nat.pow_lt_pow_right (by decide) (by omega))
  have hmt := Hd.mk fun w1 v1 v2 (h1 : NumV w1 v1 x) (h2 : NumV w1 v2 ((10 ^ (18 - p) : Nat) : Int)) => nv (ntimes_any v1 v2 _ _ w1 h1 h2 (by omega) (by omega))
  have hwp : IntKind.i64.wrap ((18 - p : Nat) : Int) = ((18 - p : Nat) : Int) := IntWalk.i64_in _ (by omega)
  have hwq : IntKind.i64.wrap (p : Int) = (p : Int) := IntWalk.i64_in _ (by omega)
  have hwp2 : (18 : Int) - (p : Int) = ((18 - p : Nat) : Int) := by omega
  have hmk := Hd.mk fun (hs : k = 0 ∨ k = 1 ∨ k = 6 → is64 x = true) w1 q1 q2 => DecMake_ok k hk8 p hp18 x w1 q1 q2 hx256 hs
  have ht0 := Hd.mk fun w1 v1 (h1 : NumV w1 v1 (x * E18)) => text_any v1 _ w1 h1 (wl200 (Nat.lt_trans (makV_130 (k := 0) (p := 0) hx80) (by decide)))
  have ht1 := Hd.mk fun w1 v1 (h1 : NumV w1 v1 (x * ((10 ^ (18 - p) : Nat) : Int))) => text_any v1 _ w1 h1 (wl200 (Nat.lt_trans (makV_130 (k := 1) (p := p) hx80) (by decide)))
  have hm0 : ∀ k, ¬ (k = 1 ∨ k = 3 ∨ k = 5) → makV k p x = x * E18 := fun k h => if_neg h
  have hm1 : ∀ k, (k = 1 ∨ k = 3 ∨ k = 5) → makV k p x = x * ((10 ^ (18 - p) : Nat) : Int) := fun k h => if_pos h
  rw [hsv.out] at hmk
  replace hx256 := Hd.mk hx256
  replace hx200 := Hd.mk hx200
  replace hx80 := Hd.mk hx80
  replace hwx9 := Hd.mk hwx9
  replace hw18 := Hd.mk hw18
  replace hwt := Hd.mk hwt
  replace hm0 := Hd.mk hm0
  replace hm1 := Hd.mk hm1
  generalize zT x = sx at *
  generalize hz1 : x * ((10 ^ (18 - p) : Nat) : Int) = z1 at *
  generalize hz0 : x * E18 = z0 at *
  replace hz1 := Hd.mk hz1
  replace hz0 := Hd.mk hz0
  generalize hqq : 18 - p = qp at *
  replace hqq := Hd.mk hqq
  generalize ((10 ^ qp : Nat) : Int) = T18 at *
  generalize E18 = X18 at *
  cases sm
  · by_cases hk0 : k = 0 ∨ k = 1 ∨ k = 6
    · rcases hk0 with rfl | rfl | rfl
      · go_wp2_with (go_at_call 10; refine (hal.out _ (hok.below r4.out.bel) (her.below r4.out.bel)).mono ?_; rintro e w9 ⟨rfl, hb9⟩; have r9 := Hd.mk (r4.out.op hb9); clear hb9)
        go_ret
        exact ⟨rfl, r9.out.bel⟩
      · go_wp2_with (go_at_call 10; refine (hal.out _ (hok.below r4.out.bel) (her.below r4.out.bel)).mono ?_; rintro e w9 ⟨rfl, hb9⟩; have r9 := Hd.mk (r4.out.op hb9); clear hb9)
        go_ret
        exact ⟨rfl, r9.out.bel⟩
      · go_wp2_with (go_at_call 10; refine (hal.out _ (hok.below r4.out.bel) (her.below r4.out.bel)).mono ?_; rintro e w9 ⟨rfl, hb9⟩; have r9 := Hd.mk (r4.out.op hb9); clear hb9)
        go_ret
        exact ⟨rfl, r9.out.bel⟩
    · have c0 : ((k : Int) == 0) = false := by simp; omega
      have c1 : ((k : Int) == 1) = false := by simp; omega
      have c6 : ((k : Int) == 6) = false := by simp; omega
      go_upto_region 8 with fail
      go_cut [12] (fun t12 wx => ∃ bw b A m c, t12 = .pointer (some ⟨bw, 0, none⟩) ∧ ∃ C, Hd (SR w wx C [(.agg #[.bool b, .slice A m c], z0), (.agg #[.bool b2, .slice A2 n2 c2], x)]) ∧ Hd (C bw = some [.bool b, .slice A m c]) ∧ Hd (C bx = some [.bool b2, .slice A2 n2 c2]) ∧ bw ≠ bx)
      case first =>
        go_region_held3 (fun wx => wx.cell? ⟨bx, 0, none⟩ = some (.bool b2) ∧ wx.cell? ⟨bx, 1, none⟩ = some (.slice A2 n2 c2)) ((first | with_reducible exact ⟨f0, f1⟩ | with_reducible exact ⟨k50, k51⟩ | with_reducible exact ⟨k60, k61⟩ | (constructor <;> (repeat first | with_reducible assumption | rw [World.cell?_drew] | (rw [World.cell?_alloc_lt _ _ _ (by (try simp only [World.size_alloc, World.size_drew, World.size_setCell]); show _ < _; omega)]) | rw [World.cell?_setCell_far _ _ _ _ (by (try simp only [World.size_alloc, World.size_drew, World.size_setCell]); show _ ≠ _; omega)])))) (first
          | (go_at_call 12; refine (hpr.out _).mono ?_; skip; rintro e w5 ⟨b5, A5, m5, c5, rfl, hn5, hb5⟩; have r5 := Hd.mk (p := SR _ _ _ _) (by first | exact (r4.out.drew.op hb5).add hn5 | exact ((r4.out.drew.box _).op hb5).add hn5); have s5 := hb5.size; (try simp only [World.size_alloc, World.size_drew] at s5); (try simp only [World.size_alloc, World.size_drew, World.size_setCell] at r5); clear hb5; (try (refine SR.cellK r5.out (b := bx) (b0 := b2) (A := A2) (m := n2) (c := c2) ?_ ?_; (focus (((try simp only [World.size_alloc, World.size_drew, World.size_setCell]); (repeat first | with_reducible exact updC_same | with_reducible exact hC.out | rw [updC_ne (by (try simp only [World.size_alloc, World.size_drew, World.size_setCell]); omega)])); done)); intro k50 k51 k5z k5y k5l)); (try (refine SR.cellK r5.out (b := w4.heap.size) (b0 := false) (A := none) (m := 0) (c := 0) ?_ ?_; (focus (((try simp only [World.size_alloc, World.size_drew, World.size_setCell]); (repeat first | with_reducible exact updC_same | rw [updC_ne (by (try simp only [World.size_alloc, World.size_drew, World.size_setCell]); omega)])); done)); intro a50 a51 a5z a5y a5l)))
          | (go_at_call 11; refine (hmu.out _ _ _ ?_ ?_).mono ?_; (first | exact r5.out.v1 | exact (r5.out.box _).v1); (first | exact r5.out.v0 | exact (r5.out.box _).v0); rintro e w6 ⟨b6, A6, m6, c6, rfl, hn6, hb6⟩; have r6 := Hd.mk (p := SR _ _ _ _) (by first | exact (r5.out.op hb6).add hn6 | exact ((r5.out.box _).op hb6).add hn6); have s6 := hb6.size; (try simp only [World.size_alloc, World.size_drew] at s6); (try simp only [World.size_alloc, World.size_drew, World.size_setCell] at r6); clear hb6; (try (refine SR.cellK r6.out (b := bx) (b0 := b2) (A := A2) (m := n2) (c := c2) ?_ ?_; (focus (((try simp only [World.size_alloc, World.size_drew, World.size_setCell]); (repeat first | with_reducible exact updC_same | with_reducible exact hC.out | rw [updC_ne (by (try simp only [World.size_alloc, World.size_drew, World.size_setCell]); omega)])); done)); intro k60 k61 k6z k6y k6l)); (try (refine SR.cellK r6.out (b := w4.heap.size) (b0 := false) (A := none) (m := 0) (c := 0) ?_ ?_; (focus (((try simp only [World.size_alloc, World.size_drew, World.size_setCell]); (repeat first | with_reducible exact updC_same | rw [updC_ne (by (try simp only [World.size_alloc, World.size_drew, World.size_setCell]); omega)])); done)); intro a60 a61 a6z a6y a6l)); (try (refine SR.cellK r6.out (b := w5.heap.size) (b0 := false) (A := none) (m := 0) (c := 0) ?_ ?_; (focus (((try simp only [World.size_alloc, World.size_drew, World.size_setCell]); (repeat first | with_reducible exact updC_same | rw [updC_ne (by (try simp only [World.size_alloc, World.size_drew, World.size_setCell]); omega)])); done)); intro e60 e61 e6z e6y e6l))))
        all_goals
          go_wp2_with fail
          go_meet
          refine ⟨_, b6, A6, m6, c6, rfl, ?_⟩
          apply SREx2
          focus
            (repeat first | with_reducible exact r6.out | with_reducible apply SR.box2 | with_reducible apply SR.set | with_reducible exact updC_same | with_reducible exact hC.out | (simp only [World.size_alloc, World.size_drew, World.size_setCell]) | rw [updC_ne (by (try simp only [World.size_alloc, World.size_drew, World.size_setCell]); omega)])
            done
          focus
            exact .head _
          focus
            exact .tail _ (.tail _ (.head _))
          refine ⟨⟨?_⟩, ⟨?_⟩, ?_⟩
          focus
            (focus (((try simp only [World.size_alloc, World.size_drew, World.size_setCell]); (repeat first | with_reducible exact updC_same | with_reducible exact hC.out | rw [updC_ne (by (try simp only [World.size_alloc, World.size_drew, World.size_setCell]); omega)])); done))
          focus
            (focus (((try simp only [World.size_alloc, World.size_drew, World.size_setCell]); (repeat first | with_reducible exact updC_same | with_reducible exact hC.out | rw [updC_ne (by (try simp only [World.size_alloc, World.size_drew, World.size_setCell]); omega)])); done))
          (try simp only [World.size_alloc, World.size_drew, World.size_setCell])
          omega
      case rest =>
        obtain ⟨bw, b, A, m, c, rfl, C6, r6, hW, hX, hne⟩ := hcut
        refine SR.cellK r6.out hX.out ?_
        intro g0 g1 gz gy gl
        by_cases hk9 : k = 1 ∨ k = 3 ∨ k = 5
        · have hmk1 := hmk.out (fun h => absurd h hk0)
          rw [hm1.out k hk9] at hmk1
          replace hmk := Hd.mk hmk1
          clear hmk1
          generalize zT z1 = sz1 at *
          rcases hk9 with rfl | rfl | rfl
          all_goals
            go_upto_region 10 with fail
            go_region_law (first
              | (go_simp; go_at_call 13; refine (hte.out _).mono ?_; rintro e w7 ⟨b7, A7, m7, c7, rfl, hn7, hb7⟩; have r7 := Hd.mk ((r6.out.drew.op hb7).add hn7); clear hb7 hn7; refine SR.cellK r7.out hX.out ?_; intro i0 i1 iz iy il)
              | (go_simp; go_at_call 11; refine (hmt.out _ _ _ r7.out.v2 r7.out.v0).mono ?_; rintro e w8 ⟨b8, A8, m8, c8, rfl, hn8, hb8⟩; have r8 := Hd.mk ((r7.out.op hb8).add hn8); clear hb8 hn8; refine SR.cellK r8.out hW.out ?_; intro q0 q1 qz qy ql))
            all_goals
              have r9 := Hd.mk (r8.out.set (b1 := b8) (A1 := A8) (m1 := m8) (c1 := c8) hW.out)
              have hW9 : Hd (updC C6 bw [.bool b8, .slice A8 m8 c8] bw = some [.bool b8, .slice A8 m8 c8]) := ⟨updC_same⟩
              generalize updC C6 bw [.bool b8, .slice A8 m8 c8] = C9 at *
              generalize (w8.setCell ⟨bw, 0, none⟩ (.bool b8)).setCell ⟨bw, 1, none⟩ (.slice A8 m8 c8) = w9 at *
              go_wp2_with (first
                | (go_at_call 14; refine (hmk.out _ (hok.below r9.out.bel) (her.below r9.out.bel)).mono ?_; rintro e w10 ⟨rfl, hb10⟩; have r10 := Hd.mk (r9.out.op hb10); clear hb10)
                | (go_at_call 10; refine (hal.out _ (hok.below r10.out.bel) (her.below r10.out.bel)).mono ?_; rintro e w11 ⟨rfl, hb11⟩; have r11 := Hd.mk (r10.out.op hb11); clear hb11; refine SR.cellK r11.out hW9.out ?_; intro j0 j1 jz jy jl)
                | (go_at_call 15; refine (ht1.out _ _ r11.out.v0).mono ?_; rintro e w12 ⟨rfl, hb12⟩; have r12 := Hd.mk (r11.out.op hb12); clear hb12))
              go_ret
              exact ⟨by simp, r12.out.bel⟩
        · have hmk1 := hmk.out (fun h => absurd h hk0)
          rw [hm0.out k hk9] at hmk1
          replace hmk := Hd.mk hmk1
          clear hmk1
          generalize zT z0 = sz0 at *
          have e1 : ((k : Int) == 1) = false := by simp; omega
          have e3 : ((k : Int) == 3) = false := by simp; omega
          have e5 : ((k : Int) == 5) = false := by simp; omega
          go_wp2_with (first
            | (go_at_call 14; refine (hmk.out _ (hok.below r6.out.bel) (her.below r6.out.bel)).mono ?_; rintro e w10 ⟨rfl, hb10⟩; have r10 := Hd.mk (r6.out.op hb10); clear hb10)
            | (go_at_call 10; refine (hal.out _ (hok.below r10.out.bel) (her.below r10.out.bel)).mono ?_; rintro e w11 ⟨rfl, hb11⟩; have r11 := Hd.mk (r10.out.op hb11); clear hb11; refine SR.cellK r11.out hW.out ?_; intro j0 j1 jz jy jl)
            | (go_at_call 15; refine (ht0.out _ _ r11.out.v0).mono ?_; rintro e w12 ⟨rfl, hb12⟩; have r12 := Hd.mk (r11.out.op hb12); clear hb12))
          go_ret
          exact ⟨by simp, r12.out.bel⟩
  · go_upto_region 8 with fail
    go_cut [12] (fun t12 wx => ∃ bw b A m c, t12 = .pointer (some ⟨bw, 0, none⟩) ∧ ∃ C, Hd (SR w wx C [(.agg #[.bool b, .slice A m c], z0), (.agg #[.bool b2, .slice A2 n2 c2], x)]) ∧ Hd (C bw = some [.bool b, .slice A m c]) ∧ Hd (C bx = some [.bool b2, .slice A2 n2 c2]) ∧ bw ≠ bx)
    case first =>
      go_region_held3 (fun wx => wx.cell? ⟨bx, 0, none⟩ = some (.bool b2) ∧ wx.cell? ⟨bx, 1, none⟩ = some (.slice A2 n2 c2)) ((first | with_reducible exact ⟨f0, f1⟩ | with_reducible exact ⟨k50, k51⟩ | with_reducible exact ⟨k60, k61⟩ | (constructor <;> (repeat first | with_reducible assumption | rw [World.cell?_drew] | (rw [World.cell?_alloc_lt _ _ _ (by (try simp only [World.size_alloc, World.size_drew, World.size_setCell]); show _ < _; omega)]) | rw [World.cell?_setCell_far _ _ _ _ (by (try simp only [World.size_alloc, World.size_drew, World.size_setCell]); show _ ≠ _; omega)])))) (first
        | (go_at_call 12; refine (hpr.out _).mono ?_; skip; rintro e w5 ⟨b5, A5, m5, c5, rfl, hn5, hb5⟩; have r5 := Hd.mk (p := SR _ _ _ _) (by first | exact (r4.out.drew.op hb5).add hn5 | exact ((r4.out.drew.box _).op hb5).add hn5); have s5 := hb5.size; (try simp only [World.size_alloc, World.size_drew] at s5); (try simp only [World.size_alloc, World.size_drew, World.size_setCell] at r5); clear hb5; (try (refine SR.cellK r5.out (b := bx) (b0 := b2) (A := A2) (m := n2) (c := c2) ?_ ?_; (focus (((try simp only [World.size_alloc, World.size_drew, World.size_setCell]); (repeat first | with_reducible exact updC_same | with_reducible exact hC.out | rw [updC_ne (by (try simp only [World.size_alloc, World.size_drew, World.size_setCell]); omega)])); done)); intro k50 k51 k5z k5y k5l)); (try (refine SR.cellK r5.out (b := w4.heap.size) (b0 := false) (A := none) (m := 0) (c := 0) ?_ ?_; (focus (((try simp only [World.size_alloc, World.size_drew, World.size_setCell]); (repeat first | with_reducible exact updC_same | rw [updC_ne (by (try simp only [World.size_alloc, World.size_drew, World.size_setCell]); omega)])); done)); intro a50 a51 a5z a5y a5l)))
        | (go_at_call 11; refine (hmu.out _ _ _ ?_ ?_).mono ?_; (first | exact r5.out.v1 | exact (r5.out.box _).v1); (first | exact r5.out.v0 | exact (r5.out.box _).v0); rintro e w6 ⟨b6, A6, m6, c6, rfl, hn6, hb6⟩; have r6 := Hd.mk (p := SR _ _ _ _) (by first | exact (r5.out.op hb6).add hn6 | exact ((r5.out.box _).op hb6).add hn6); have s6 := hb6.size; (try simp only [World.size_alloc, World.size_drew] at s6); (try simp only [World.size_alloc, World.size_drew, World.size_setCell] at r6); clear hb6; (try (refine SR.cellK r6.out (b := bx) (b0 := b2) (A := A2) (m := n2) (c := c2) ?_ ?_; (focus (((try simp only [World.size_alloc, World.size_drew, World.size_setCell]); (repeat first | with_reducible exact updC_same | with_reducible exact hC.out | rw [updC_ne (by (try simp only [World.size_alloc, World.size_drew, World.size_setCell]); omega)])); done)); intro k60 k61 k6z k6y k6l)); (try (refine SR.cellK r6.out (b := w4.heap.size) (b0 := false) (A := none) (m := 0) (c := 0) ?_ ?_; (focus (((try simp only [World.size_alloc, World.size_drew, World.size_setCell]); (repeat first | with_reducible exact updC_same | rw [updC_ne (by (try simp only [World.size_alloc, World.size_drew, World.size_setCell]); omega)])); done)); intro a60 a61 a6z a6y a6l)); (try (refine SR.cellK r6.out (b := w5.heap.size) (b0 := false) (A := none) (m := 0) (c := 0) ?_ ?_; (focus (((try simp only [World.size_alloc, World.size_drew, World.size_setCell]); (repeat first | with_reducible exact updC_same | rw [updC_ne (by (try simp only [World.size_alloc, World.size_drew, World.size_setCell]); omega)])); done)); intro e60 e61 e6z e6y e6l))))
      all_goals
        go_wp2_with fail
        go_meet
        refine ⟨_, b6, A6, m6, c6, rfl, ?_⟩
        apply SREx2
        focus
          (repeat first | with_reducible exact r6.out | with_reducible apply SR.box2 | with_reducible apply SR.set | with_reducible exact updC_same | with_reducible exact hC.out | (simp only [World.size_alloc, World.size_drew, World.size_setCell]) | rw [updC_ne (by (try simp only [World.size_alloc, World.size_drew, World.size_setCell]); omega)])
          done
        focus
          exact .head _
        focus
          exact .tail _ (.tail _ (.head _))
        refine ⟨⟨?_⟩, ⟨?_⟩, ?_⟩
        focus
          (focus (((try simp only [World.size_alloc, World.size_drew, World.size_setCell]); (repeat first | with_reducible exact updC_same | with_reducible exact hC.out | rw [updC_ne (by (try simp only [World.size_alloc, World.size_drew, World.size_setCell]); omega)])); done))
        focus
          (focus (((try simp only [World.size_alloc, World.size_drew, World.size_setCell]); (repeat first | with_reducible exact updC_same | with_reducible exact hC.out | rw [updC_ne (by (try simp only [World.size_alloc, World.size_drew, World.size_setCell]); omega)])); done))
        (try simp only [World.size_alloc, World.size_drew, World.size_setCell])
        omega
    case rest =>
      obtain ⟨bw, b, A, m, c, rfl, C6, r6, hW, hX, hne⟩ := hcut
      refine SR.cellK r6.out hX.out ?_
      intro g0 g1 gz gy gl
      by_cases hk9 : k = 1 ∨ k = 3 ∨ k = 5
      · have hmk1 := hmk.out (fun _ => rfl)
        rw [hm1.out k hk9] at hmk1
        replace hmk := Hd.mk hmk1
        clear hmk1
        generalize zT z1 = sz1 at *
        rcases hk9 with rfl | rfl | rfl
        all_goals
          go_upto_region 10 with fail
          go_region_law (first
            | (go_simp; go_at_call 13; refine (hte.out _).mono ?_; rintro e w7 ⟨b7, A7, m7, c7, rfl, hn7, hb7⟩; have r7 := Hd.mk ((r6.out.drew.op hb7).add hn7); clear hb7 hn7; refine SR.cellK r7.out hX.out ?_; intro i0 i1 iz iy il)
            | (go_simp; go_at_call 11; refine (hmt.out _ _ _ r7.out.v2 r7.out.v0).mono ?_; rintro e w8 ⟨b8, A8, m8, c8, rfl, hn8, hb8⟩; have r8 := Hd.mk ((r7.out.op hb8).add hn8); clear hb8 hn8; refine SR.cellK r8.out hW.out ?_; intro q0 q1 qz qy ql))
          all_goals
            have r9 := Hd.mk (r8.out.set (b1 := b8) (A1 := A8) (m1 := m8) (c1 := c8) hW.out)
            have hW9 : Hd (updC C6 bw [.bool b8, .slice A8 m8 c8] bw = some [.bool b8, .slice A8 m8 c8]) := ⟨updC_same⟩
            generalize updC C6 bw [.bool b8, .slice A8 m8 c8] = C9 at *
            generalize (w8.setCell ⟨bw, 0, none⟩ (.bool b8)).setCell ⟨bw, 1, none⟩ (.slice A8 m8 c8) = w9 at *
            go_wp2_with (first
              | (go_at_call 14; refine (hmk.out _ (hok.below r9.out.bel) (her.below r9.out.bel)).mono ?_; rintro e w10 ⟨rfl, hb10⟩; have r10 := Hd.mk (r9.out.op hb10); clear hb10)
              | (go_at_call 10; refine (hal.out _ (hok.below r10.out.bel) (her.below r10.out.bel)).mono ?_; rintro e w11 ⟨rfl, hb11⟩; have r11 := Hd.mk (r10.out.op hb11); clear hb11; refine SR.cellK r11.out hW9.out ?_; intro j0 j1 jz jy jl)
              | (go_at_call 15; refine (ht1.out _ _ r11.out.v0).mono ?_; rintro e w12 ⟨rfl, hb12⟩; have r12 := Hd.mk (r11.out.op hb12); clear hb12))
            go_ret
            exact ⟨by simp, r12.out.bel⟩
      · have hmk1 := hmk.out (fun _ => rfl)
        rw [hm0.out k hk9] at hmk1
        replace hmk := Hd.mk hmk1
        clear hmk1
        generalize zT z0 = sz0 at *
        have e1 : ((k : Int) == 1) = false := by simp; omega
        have e3 : ((k : Int) == 3) = false := by simp; omega
        have e5 : ((k : Int) == 5) = false := by simp; omega
        go_wp2_with (first
          | (go_at_call 14; refine (hmk.out _ (hok.below r6.out.bel) (her.below r6.out.bel)).mono ?_; rintro e w10 ⟨rfl, hb10⟩; have r10 := Hd.mk (r6.out.op hb10); clear hb10)
          | (go_at_call 10; refine (hal.out _ (hok.below r10.out.bel) (her.below r10.out.bel)).mono ?_; rintro e w11 ⟨rfl, hb11⟩; have r11 := Hd.mk (r10.out.op hb11); clear hb11; refine SR.cellK r11.out hW.out ?_; intro j0 j1 jz jy jl)
          | (go_at_call 15; refine (ht0.out _ _ r11.out.v0).mono ?_; rintro e w12 ⟨rfl, hb12⟩; have r12 := Hd.mk (r11.out.op hb12); clear hb12))
        go_ret
        exact ⟨by simp, r12.out.bel⟩
end Go.Proofs.YtpabbnogfflgpaaGreatDoor
