/- FnSumsBoth: the walk. Conditions: those that each theorem states. -/
import Derived.Test.YtdbjdpooggaonaaGreatDoorJoin03
import Derived.Test.YtdbjdpooggaonaaGreatDoorSumsB02
import Derived.Test.YtdbjdpooggaonaaGreatDoorSumsB03
set_option linter.all false

namespace Go.Proofs.YtdbjdpooggaonaaGreatDoor
open Go.RowKit
set_option maxRecDepth 100000
theorem DecDo_ok (k : Nat) (hk : k < 2) (x y z : Int) (w : World) (hok : Ok w) (her : Er w) (hx : inR x = true) (hy : inR y = true) (hr : inR z = true) (hz : doZ k x y = z) :
    Calls Tryz.prog 27 #[.int .i64 (k : Int), .string (zT x), .string (zT y), .bool false] w fun e w' => e = .returned (.tuple #[.string (zT z), .bool true, .bool true]) ∧ Below w.heap.size w w' := by
  subst hz
  match k, hk with
  | 0, _ => exact DecOpKN_ok 0 x y _ (by decide) hx hy hr (opAdd_ok hx hy hr false) w hok her
  | 1, _ => exact DecOpKN_ok 1 x y _ (by decide) hx hy hr (opSub_ok hx hy hr false) w hok her
theorem doZ_whole {k : Nat} (hk : k < 2) (x y : Int) : doZ k (x * E18) (y * E18) = doZ k x y * E18 := by
  match k, hk with
  | 0, _ => exact (Int.add_mul ..).symm
  | 1, _ => exact (Int.sub_mul ..).symm
theorem doZ_tl {k : Nat} (hk : k < 2) {x y : Int} (hx : x.natAbs < 2 ^ 256) (hy : y.natAbs < 2 ^ 256) : T.wlen (doZ k x y).natAbs < 900 := by
  have h : (doZ k x y).natAbs < 10 ^ 200 := by
    have h1 : (2 : Nat) ^ 256 + 2 ^ 256 < 10 ^ 200 := by decide
    match k, hk with
    | 0, _ => show (x + y).natAbs < _; omega
    | 1, _ => show (x - y).natAbs < _; omega
  exact Nat.lt_of_le_of_lt (T.wlen_le (n := 200) h) (by decide)
set_option maxHeartbeats 16000000 in
theorem sumsBoth_walk (a b : ByteArray) (less : Bool) (w : World) (hok : Ok w) (her : Er w) :
    Calls Tryz.prog 6 #[.string a, .string b, .bool less] w fun e w' => e = .returned (.bool true) ∧ Below w.heap.size w w' := by
  by_cases h1 : 2147483647 < a.size
  · have d1 : decide ((2147483647 : Int) < (a.size : Int)) = true := decide_eq_true (by omega)
    go_enter Tryz.func6, Tryz.ntmps6
    go_wp2
    go_ret
    exact ⟨rfl, Below.refl _ _⟩
  have d1 : decide ((2147483647 : Int) < (a.size : Int)) = false := decide_eq_false (by omega)
  by_cases h2 : 2147483647 < b.size
  · have d2 : decide ((2147483647 : Int) < (b.size : Int)) = true := decide_eq_true (by omega)
    go_enter Tryz.func6, Tryz.ntmps6
    go_wp2
    go_ret
    exact ⟨rfl, Below.refl _ _⟩
  have d2 : decide ((2147483647 : Int) < (b.size : Int)) = false := decide_eq_false (by omega)
  have hpa := Hd.mk (sint_any a w (by omega))
  have hpb := Hd.mk fun w1 => sint_any b w1 (by omega)
  have hal := Hd.mk joinAwake_any
  go_enter Tryz.func6, Tryz.ntmps6
  go_upto_region 4 with (go_at_call 8; refine hpa.out.mono ?_; rintro e w2 ⟨b2, A2, n2, c2, ok, rfl, hx, hb2⟩; replace hx := Hd.mk hx; replace hb2 := Hd.mk hb2)
  have r2 := Hd.mk (((SR.start w [] (fun p hp => by cases hp)).op hb2.out).box2 (b0 := b2) (A := A2) (m := n2) (c := c2))
  have hba : Below w2.heap.size w2 (w2.alloc (.cells #[.bool b2, .slice A2 n2 c2] 24)) := (Below.refl _ _).alloc (Nat.le_refl _) _
  have hC : Hd (updC (fun _ => none) w2.heap.size [.bool b2, .slice A2 n2 c2] w2.heap.size = some [.bool b2, .slice A2 n2 c2]) := ⟨updC_same⟩
  have hlt3 : w2.heap.size < (w2.alloc (.cells #[.bool b2, .slice A2 n2 c2] 24)).heap.size := by rw [World.size_alloc]; omega
  generalize updC (fun _ => none) w2.heap.size [.bool b2, .slice A2 n2 c2] = C at *
  have hxb := Hd.mk fun x (h : NumV w2 (.agg #[.bool b2, .slice A2 n2 c2]) x) => h.below hba
  clear hba
  generalize w2.alloc (.cells #[.bool b2, .slice A2 n2 c2] 24) = w3 at *
  refine SR.cellK r2.out hC.out ?_
  intro f0 f1 fz fy fl
  go_upto_region 5 with (go_at_call 8; refine (hpb.out w3).mono ?_; rintro e w4 ⟨b4, A4, n4, c4, ok2, rfl, hy, hb4⟩; replace hy := Hd.mk hy; replace hb4 := Hd.mk hb4)
  have hlt4 : w2.heap.size < w4.heap.size := Nat.lt_of_lt_of_le hlt3 hb4.out.size
  have r4 := Hd.mk ((r2.out.op hb4.out).box2 (b0 := b4) (A := A4) (m := n4) (c := c4))
  have hbb : Below w4.heap.size w4 (w4.alloc (.cells #[.bool b4, .slice A4 n4 c4] 24)) := (Below.refl _ _).alloc (Nat.le_refl _) _
  have hD : Hd (updC C w4.heap.size [.bool b4, .slice A4 n4 c4] w4.heap.size = some [.bool b4, .slice A4 n4 c4]) := ⟨updC_same⟩
  have hC4 : Hd (updC C w4.heap.size [.bool b4, .slice A4 n4 c4] w2.heap.size = some [.bool b2, .slice A2 n2 c2]) := ⟨by rw [updC_off (by omega)]; exact hC.out⟩
  generalize updC C w4.heap.size [.bool b4, .slice A4 n4 c4] = C4 at *
  have hxb4 := Hd.mk fun x (h : NumV w2 (.agg #[.bool b2, .slice A2 n2 c2]) x) => ((hxb.out x h).below hb4.out).below hbb
  have hyb4 := Hd.mk fun y (h : NumV w4 (.agg #[.bool b4, .slice A4 n4 c4]) y) => h.below hbb
  have hlt5 : w4.heap.size < (w4.alloc (.cells #[.bool b4, .slice A4 n4 c4] 24)).heap.size := by rw [World.size_alloc]; omega
  clear hbb hxb r2 hC
  generalize w4.alloc (.cells #[.bool b4, .slice A4 n4 c4] 24) = w5 at *
  refine SR.cellK r4.out hC4.out ?_
  clear f0 f1 fz fy fl
  intro f0 f1 fz fy fl
  refine SR.cellK r4.out hD.out ?_
  intro g0 g1 gz gy gl
  by_cases hoo : ok = true ∧ ok2 = true
  case neg =>
    have h := hoo
    rcases Bool.eq_false_or_eq_true ok with h1 | h1
    · rcases Bool.eq_false_or_eq_true ok2 with h2 | h2
      · exact absurd ⟨h1, h2⟩ h
      · subst h1; subst h2
        clear hoo h
        go_wp2_with (go_at_call 9; refine (hal.out _ (hok.below r4.out.bel) (her.below r4.out.bel)).mono ?_; rintro e w9 ⟨rfl, hb9⟩; have r9 := Hd.mk (r4.out.op hb9); clear hb9)
        go_ret
        exact ⟨rfl, r9.out.bel⟩
    · subst h1
      clear hoo h
      go_wp2_with (go_at_call 9; refine (hal.out _ (hok.below r4.out.bel) (her.below r4.out.bel)).mono ?_; rintro e w9 ⟨rfl, hb9⟩; have r9 := Hd.mk (r4.out.op hb9); clear hb9)
      go_ret
      exact ⟨rfl, r9.out.bel⟩
  obtain ⟨rfl, rfl⟩ := hoo
  obtain ⟨x, hsx, hxm, hnx⟩ := hx.out rfl
  obtain ⟨y, hsy, hym, hny⟩ := hy.out rfl
  subst hsx
  subst hsy
  have r5 := Hd.mk ((r4.out.add (hxb4.out x hnx)).add (hyb4.out y hny))
  have hdx := Hd.mk fun w1 v1 (h : NumV w1 v1 x) => decOf_any v1 x w1 h hxm
  have hdy := Hd.mk fun w1 v1 (h : NumV w1 v1 y) => decOf_any v1 y w1 h hym
  obtain ⟨k, hk, hkl⟩ : ∃ k : Nat, k < 2 ∧ ((less = false ∧ k = 0) ∨ (less = true ∧ k = 1)) := by
    cases less
    · exact ⟨0, by omega, .inl ⟨rfl, rfl⟩⟩
    · exact ⟨1, by omega, .inr ⟨rfl, rfl⟩⟩
  have htl := doZ_tl hk hxm hym
  obtain ⟨z, hz⟩ : ∃ z, doZ k x y = z := ⟨_, rfl⟩
  rw [hz] at htl
  have hsd := Hd.mk fun w1 v1 v2 (h1 : NumV w1 v1 x) (h2 : NumV w1 v2 y) => sdo_any k hk v1 v2 x y z w1 h1 h2 hxm hym hz
  have hft := Hd.mk fun w1 v1 (h : NumV w1 v1 z) => sfits_any v1 z w1 h htl
  by_cases hzm : z.natAbs < 2 ^ 256
  case neg =>
    rw [decide_eq_false hzm] at hft
    replace hzm := Hd.mk hzm
    replace hz := Hd.mk hz
    replace htl := Hd.mk htl
    replace hxm := Hd.mk hxm
    replace hym := Hd.mk hym
    generalize zT x = sx at *
    generalize zT y = sy at *
    rcases hkl with ⟨rfl, rfl⟩ | ⟨rfl, rfl⟩
    all_goals
      go_upto_region 11 with (go_at_call 25; refine (hsd.out _ _ _ r5.out.v1 r5.out.v0).mono ?_; rintro e w6 ⟨b6, A6, m6, c6, rfl, hn6, hb6⟩; have r6 := Hd.mk (((r5.out.op hb6).add hn6).box2 (b0 := b6) (A := A6) (m := m6) (c := c6)); clear hb6 hn6)
      have hE : Hd (updC C4 w6.heap.size [.bool b6, .slice A6 m6 c6] w6.heap.size = some [.bool b6, .slice A6 m6 c6]) := ⟨updC_same⟩
      generalize updC C4 w6.heap.size [.bool b6, .slice A6 m6 c6] = C6 at *
      generalize w6.alloc (.cells #[.bool b6, .slice A6 m6 c6] 24) = w7 at *
      clear f0 f1 fz fy fl g0 g1 gz gy gl
      refine SR.cellK r6.out hE.out ?_
      intro f0 f1 fz fy fl
      go_wp2_with (first
        | (go_at_call 26; refine (hft.out _ _ r6.out.v0).mono ?_; rintro e w8 ⟨rfl, hb8⟩; have r8 := Hd.mk (r6.out.op hb8); clear hb8)
        | (go_at_call 9; refine (hal.out _ (hok.below r8.out.bel) (her.below r8.out.bel)).mono ?_; rintro e w9 ⟨rfl, hb9⟩; have r9 := Hd.mk (r8.out.op hb9); clear hb9))
      go_ret
      exact ⟨rfl, r9.out.bel⟩
  rw [decide_eq_true hzm] at hft
  have hio := Hd.mk fun w1 q1 q2 => IntDo_ok k (by omega) x y z w1 q1 q2 hxm hym hzm hz
  have hdd := Hd.mk fun w1 q1 q2 => DecDo_ok k hk (x * E18) (y * E18) (z * E18) w1 q1 q2 (inR_whole hxm) (inR_whole hym) (inR_whole hzm) (by rw [doZ_whole hk, hz])
  have hdz := Hd.mk fun w1 v1 (h : NumV w1 v1 z) => decOf_any v1 z w1 h hzm
  have htx := Hd.mk fun w1 v1 (h : NumV w1 v1 z) => text_any v1 z w1 h htl
  replace hzm := Hd.mk hzm
  replace hz := Hd.mk hz
  replace htl := Hd.mk htl
  replace hxm := Hd.mk hxm
  replace hym := Hd.mk hym
  replace hx := Hd.mk hx
  replace hy := Hd.mk hy
  replace hnx := Hd.mk hnx
  replace hny := Hd.mk hny
  generalize zT (x * E18) = tx at *
  generalize zT (y * E18) = ty at *
  generalize zT (z * E18) = tz at *
  generalize zT x = sx at *
  generalize zT y = sy at *
  generalize zT z = sz at *
  rcases hkl with ⟨rfl, rfl⟩ | ⟨rfl, rfl⟩
  all_goals
    go_upto_region 11 with (go_at_call 25; refine (hsd.out _ _ _ r5.out.v1 r5.out.v0).mono ?_; rintro e w6 ⟨b6, A6, m6, c6, rfl, hn6, hb6⟩; have s6 := hb6.size; have r6 := Hd.mk (((r5.out.op hb6).add hn6).box2 (b0 := b6) (A := A6) (m := m6) (c := c6)); clear hb6 hn6)
    have hE : Hd (updC C4 w6.heap.size [.bool b6, .slice A6 m6 c6] w6.heap.size = some [.bool b6, .slice A6 m6 c6]) := ⟨updC_same⟩
    have hC6 : Hd (updC C4 w6.heap.size [.bool b6, .slice A6 m6 c6] w2.heap.size = some [.bool b2, .slice A2 n2 c2]) := ⟨by rw [updC_off (by omega)]; exact hC4.out⟩
    have hD6 : Hd (updC C4 w6.heap.size [.bool b6, .slice A6 m6 c6] w4.heap.size = some [.bool b4, .slice A4 n4 c4]) := ⟨by rw [updC_off (by omega)]; exact hD.out⟩
    generalize updC C4 w6.heap.size [.bool b6, .slice A6 m6 c6] = C6 at *
    generalize w6.alloc (.cells #[.bool b6, .slice A6 m6 c6] 24) = w7 at *
    clear f0 f1 fz fy fl g0 g1 gz gy gl
    refine SR.cellK r6.out hE.out ?_
    intro f0 f1 fz fy fl
    go_upto_region 14 with (first
      | (go_at_call 26; refine (hft.out _ _ r6.out.v0).mono ?_; rintro e w8 ⟨rfl, hb8⟩; have r8 := Hd.mk (r6.out.op hb8); clear hb8)
      | (go_at_call 21; refine (hio.out _ (hok.below r8.out.bel) (her.below r8.out.bel)).mono ?_; rintro e w9 ⟨rfl, hb9⟩; have r9 := Hd.mk (r8.out.op hb9); clear hb9; refine SR.cellK r9.out hC6.out ?_; intro i0 i1 iz iy il; refine SR.cellK r9.out hD6.out ?_; intro i2 i3 iv iu ik))
    go_region_law (first
      | (go_simp; go_at_call 12; (with_reducible show Calls _ _ #[Value.agg #[Value.bool b2, Value.slice A2 n2 c2]] _ _); refine (hdx.out _ _ r9.out.drew.v2).mono ?_; rintro e w11 ⟨rfl, hb11⟩; have r11 := Hd.mk (r9.out.drew.op hb11); clear hb11; refine SR.cellK r11.out hC6.out ?_; intro j0 j1 jz jy jl; refine SR.cellK r11.out hD6.out ?_; intro j2 j3 jv ju jk)
      | (go_simp; go_at_call 12; refine (hdy.out _ _ r11.out.v1).mono ?_; rintro e w12 ⟨rfl, hb12⟩; have r12 := Hd.mk (r11.out.op hb12); clear hb12)
      | (go_simp; go_at_call 27; refine (hdd.out _ (hok.below r12.out.bel) (her.below r12.out.bel)).mono ?_; rintro e w13 ⟨rfl, hb13⟩; have r13 := Hd.mk (r12.out.op hb13); clear hb13))
    all_goals
      go_wp2_with (first
        | (go_at_call 9; refine (hal.out _ (hok.below r13.out.bel) (her.below r13.out.bel)).mono ?_; rintro e w14 ⟨rfl, hb14⟩; have r14 := Hd.mk (r13.out.op hb14); clear hb14; refine SR.cellK r14.out hE.out ?_; intro k0 k1 kz ky kl)
        | (go_at_call 19; refine (htx.out _ _ r14.out.v0).mono ?_; rintro e w15 ⟨rfl, hb15⟩; have r15 := Hd.mk (r14.out.op hb15); clear hb15; refine SR.cellK r15.out hE.out ?_; intro m0 m1 mz my ml)
        | (go_at_call 12; refine (hdz.out _ _ r15.out.v0).mono ?_; rintro e w16 ⟨rfl, hb16⟩; have r16 := Hd.mk (r15.out.op hb16); clear hb16))
      go_ret
      exact ⟨by simp, r16.out.bel⟩
end Go.Proofs.YtdbjdpooggaonaaGreatDoor
