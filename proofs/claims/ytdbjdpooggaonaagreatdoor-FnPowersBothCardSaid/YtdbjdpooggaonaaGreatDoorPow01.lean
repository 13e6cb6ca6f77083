/- The reference's whole numbers: powers. Whole numbers of at most 256 bits compared. Numbers from nought on of at most 256 bits. Numbers from nought on: quotients, rests, is it nought. The course of RelativePow: its boxes, and the numbers that they point at. Conditions: those that each theorem states. -/
import Derived.Test.YtdbjdpooggaonaaGreatDoorJoin03
import Derived.Test.YtdbjdpooggaonaaGreatDoorSumsB03
import Derived.Test.YtdbjdpooggaonaaGreatDoorBase19
import Derived.Test.YtdbjdpooggaonaaGreatDoorBase29
import Derived.Test.YtdbjdpooggaonaaGreatDoorJoin01
import Derived.Test.YtdbjdpooggaonaaGreatDoorBase11
set_option linter.all false

section
namespace Go.Proofs.YtdbjdpooggaonaaGreatDoor
open Go.RowKit
set_option maxRecDepth 100000
theorem SR.twoW {w wr : World} {C : Nat → Option (List Value)} {N : List (Value × Int)} {u v : Value} {x y : Int} (h : SR w wr C N) (hu : NumV wr u y) (hv : NumV wr v x) : SR w wr C [(u, y), (v, x)] :=
  ⟨h.bel, h.blk, fun p hp => by
    rcases List.mem_cons.1 hp with e | e
    · subst e; exact hu
    · cases List.mem_singleton.1 e; exact hv⟩
theorem pw16 {k n : Nat} (hk : k < 2 ^ 16) (hn : n < 16) : k ^ n < 2 ^ 240 := by
  rcases Nat.eq_zero_or_pos k with h | h
  · subst h
    exact Nat.lt_of_le_of_lt (Nat.pow_le_pow_left (by omega) n (m := 1)) (by rw [Nat.one_pow]; decide)
  · calc k ^ n ≤ k ^ 15 := Nat.pow_le_pow_right h (by omega)
      _ < (2 ^ 16) ^ 15 := Nat.pow_lt_pow_left hk (by decide)
      _ = 2 ^ 240 := by rw [← Nat.pow_mul]
theorem pw_next {a k j N : Nat} (h : a * k ^ (j + 1) = N) : a * k * k ^ j = N := by rw [Nat.mul_assoc, ← Nat.pow_succ']; exact h
theorem pw_bd {a k j N : Nat} (h : a * k * k ^ j = N) (hN : N < 2 ^ 240) : a * k < 2 ^ 256 := by
  rcases Nat.eq_zero_or_pos k with h1 | h1
  · subst h1; rw [Nat.mul_zero]; decide
  · have := Nat.le_mul_of_pos_right (a * k) (Nat.pow_pos (n := j) h1)
    rw [h] at this
    exact Nat.lt_of_le_of_lt this (Nat.lt_trans hN (by decide))
set_option maxHeartbeats 4000000 in
theorem npow_any (k n N : Nat) (hN : k ^ n = N) (hk : k < 2 ^ 16) (hn : n < 16) (v : Value) (w : World) (hv : NumV w v (k : Int)) :
    Calls Tryz.prog 14 #[v, .int .i64 (n : Int)] w fun e w' => ∃ b A m c, e = .returned (.agg #[.bool b, .slice A m c]) ∧ NumV w' (.agg #[.bool b, .slice A m c]) (N : Int) ∧ Below w.heap.size w w' := by
  have hN240 := pw16 hk hn
  rw [hN] at hN240
  have hof := Hd.mk fun w1 => nv (of_nat 1 w1 (by decide))
  have hmu := Hd.mk fun (a : Nat) (ha : a < 2 ^ 256) w1 v1 v2 (h1 : NumV w1 v1 (a : Int)) (h2 : NumV w1 v2 (k : Int)) => nv (ntimes_any v1 v2 _ _ w1 h1 h2 (by have := i256_wl (x := (a : Int)) (by rw [Int.natAbs_natCast]; exact ha); omega) (by have := i256_wl (x := (k : Int)) (by rw [Int.natAbs_natCast]; exact Nat.lt_trans hk (by decide)); omega))
  obtain ⟨A, ca, rfl, hd⟩ := hv.open
  generalize T.wlen ((k : Int)).natAbs = mx at *
  generalize decide ((k : Int) < 0) = nb at *
  have r1 := Hd.mk ((((SR.start w [(.agg #[.bool nb, .slice A mx ca], (k : Int))] (fun p hp => by cases List.mem_singleton.1 hp; exact hv)).box2 (b0 := nb) (A := A) (m := mx) (c := ca)).box2 (b0 := false) (A := none) (m := 0) (c := 0)))
  simp only [World.size_alloc] at r1
  have hC0 : Hd (updC (updC (fun _ => none) w.heap.size [.bool nb, .slice A mx ca]) (w.heap.size + 1) [.bool false, .slice none 0 0] w.heap.size = some [.bool nb, .slice A mx ca]) := ⟨by rw [updC_off (by omega)]; exact updC_same⟩
  have hC1 : Hd (updC (updC (fun _ => none) w.heap.size [.bool nb, .slice A mx ca]) (w.heap.size + 1) [.bool false, .slice none 0 0] (w.heap.size + 1) = some [.bool false, .slice none 0 0]) := ⟨updC_same⟩
  generalize updC (updC (fun _ => none) w.heap.size [.bool nb, .slice A mx ca]) (w.heap.size + 1) [.bool false, .slice none 0 0] = C1 at *
  have s1 : ((w.alloc (.cells #[.bool nb, .slice A mx ca] 24)).alloc (.cells #[.bool false, .slice none 0 0] 24)).heap.size = w.heap.size + 2 := by simp only [World.size_alloc]
  replace hd := Hd.mk hd
  replace hv := Hd.mk hv
  replace hN := Hd.mk hN
  replace hN240 := Hd.mk hN240
  go_enter Tryz.func14, Tryz.ntmps14
  go_upto_region 1 with fail
  generalize (w.alloc (.cells #[.bool nb, .slice A mx ca] 24)).alloc (.cells #[.bool false, .slice none 0 0] 24) = w1 at *
  go_wp2_with (go_at_call 13; refine (hof.out _).mono ?_; rintro e w2 ⟨b2, A2, m2, c2, rfl, hn2, hb2⟩; have r2 := Hd.mk ((SR.twoW (r1.out.op hb2) hn2 (r1.out.op hb2).v0)); have s2 := hb2.size; clear hb2 hn2)
  have r3 := Hd.mk (r2.out.box2 (b0 := b2) (A := A2) (m := m2) (c := c2))
  have hD0 : Hd ((updC C1 w2.heap.size [.bool b2, .slice A2 m2 c2]) w.heap.size = some [.bool nb, .slice A mx ca]) := ⟨by rw [updC_off (by omega)]; exact hC0.out⟩
  have hD1 : Hd ((updC C1 w2.heap.size [.bool b2, .slice A2 m2 c2]) (w.heap.size + 1) = some [.bool false, .slice none 0 0]) := ⟨by rw [updC_off (by omega)]; exact hC1.out⟩
  have hD2 : Hd ((updC C1 w2.heap.size [.bool b2, .slice A2 m2 c2]) w2.heap.size = some [.bool b2, .slice A2 m2 c2]) := ⟨updC_same⟩
  generalize updC C1 w2.heap.size [.bool b2, .slice A2 m2 c2] = C3 at *
  generalize w2.alloc (.cells #[.bool b2, .slice A2 m2 c2] 24) = w3 at *
  have hbo : w.heap.size + 2 ≤ w2.heap.size := by omega
  generalize w2.heap.size = bo at *
  clear hC0 hC1 r1 r2 s1 s2 hof
  go_loopw [1] (fun i wr => ∃ (m a : Nat), ∃ b' A' m' c', i = .int .i64 (m : Int) ∧ m ≤ n ∧ Hd (a * k ^ m = N) ∧ Hd (a < 2 ^ 256) ∧ ∃ C, Hd (SR w wr C [(.agg #[.bool b', .slice A' m' c'], (a : Int)), (.agg #[.bool nb, .slice A mx ca], (k : Int))]) ∧ Hd (C w.heap.size = some [.bool nb, .slice A mx ca]) ∧ Hd (C (w.heap.size + 1) = some [.bool false, .slice none 0 0]) ∧ Hd (C bo = some [.bool b', .slice A' m' c'])) (fun i _ => (intOf i).toNat)
  case atStart => exact ⟨n, 1, _, _, _, _, rfl, Nat.le_refl _, ⟨by rw [Nat.one_mul]; exact hN.out⟩, ⟨by decide⟩, C3, r3, hD0, hD1, hD2⟩
  case round =>
    obtain ⟨m, a, b', A', m', c', rfl, hmn, hpw, ha, C, hr, hE0, hE1, hE2⟩ := hrel
    refine SR.cellK hr.out hE0.out ?_
    intro f0 f1 fz fy fl
    refine SR.cellK hr.out hE2.out ?_
    intro g0 g1 gz gy gl
    by_cases hm : 0 < m
    · obtain ⟨j, rfl⟩ : ∃ j, m = j + 1 := ⟨m - 1, by omega⟩
      have h5 : ((j + 1 : Nat) : Int) - 1 = (j : Int) := by omega
      have d1 : decide ((0 : Int) < ((j + 1 : Nat) : Int)) = true := decide_eq_true (by omega)
      have hpw2 := pw_next hpw.out
      have ha2 := Hd.mk (pw_bd hpw2 hN240.out)
      replace hpw2 := Hd.mk hpw2
      have hc := Hd.mk (hmu.out a ha.out _ _ _ hr.out.v0 hr.out.v1)
      go_wp2_with (go_at_call 29; refine hc.out.mono ?_; rintro e w5 ⟨b5, A5, m5, c5, rfl, hn5, hb5⟩; have r5 := Hd.mk (SR.twoW (hr.out.op hb5) hn5 (hr.out.op hb5).v1); clear hb5 hn5; refine SR.cellK r5.out hE2.out ?_; intro h0 h1 hz hy hl)
      have r6 := Hd.mk (r5.out.set hE2.out (b1 := b5) (A1 := A5) (m1 := m5) (c1 := c5))
      go_roundw
      case rel =>
        refine ⟨j, a * k, b5, A5, m5, c5, ?_, by omega, hpw2, ha2, _, r6, ⟨by rw [updC_off (by omega)]; exact hE0.out⟩, ⟨by rw [updC_off (by omega)]; exact hE1.out⟩, ⟨updC_same⟩⟩
        first | rfl | (congr 1; omega) | (simp; done)
      case measure => simp [intOf]
    · have hm0 : m = 0 := by omega
      subst hm0
      have haN : a = N := by rw [← hpw.out, Nat.pow_zero, Nat.mul_one]
      refine SR.cellK hr.out hE1.out ?_
      intro q0 q1 qz qy ql
      go_wp2_with fail
      have hf := hr.out.set hE1.out (b1 := b') (A1 := A') (m1 := m') (c1 := c')
      have hf2 := Hd.mk (And.intro hf.v0 hf.bel)
      clear hf
      rw [haN] at hf2
      refine bodyPost_ret (v := .agg #[.bool b', .slice A' m' c']) (by simp [results, Tryz.results14, go_sem, q0, q1, qz, qy]) rfl ⟨_, _, _, _, rfl, hf2.out.1, hf2.out.2⟩
end Go.Proofs.YtdbjdpooggaonaaGreatDoor
end

section
namespace Go.Proofs.YtdbjdpooggaonaaGreatDoor
open Go.RowKit
set_option maxRecDepth 100000
set_option maxHeartbeats 1000000 in
theorem cequal_any (P : Nat → Prop) (bd be : Nat) (x y : Int) (S : Nat → Option Int) (w : World) (hI : Ints P w S) (hx : S bd = some x) (hy : S be = some y) (hw : wlen x.natAbs < 800) :
    Calls Tryz.prog 128 #[ptr bd, ptr be] w fun e w' => e = .returned (.bool (decide (x = y))) ∧ Keep P w w' ∧ Ints P w' S := by
  have r0 := Hd.mk (Run.start hI)
  have hc : (cmpI x y == 0) = (decide (x = y)) := by
    rcases Int.lt_trichotomy x y with h | h | h
    · rw [cmpI_lt h, Bool.eq_iff_iff]; simp <;> omega
    · subst h; rw [cmpI_eq, Bool.eq_iff_iff]; simp <;> omega
    · rw [cmpI_gt h, Bool.eq_iff_iff]; simp <;> omega
  have hm := Hd.mk (ICmp_any _ bd be x y S _ hI hx hy hw)
  clear hI
  generalize cmpI x y = c at *
  replace hc := Hd.mk hc
  replace hx := Hd.mk hx
  replace hy := Hd.mk hy
  go_enter Tryz.func128, Tryz.ntmps128
  go_wp2_with fail
  refine hm.out.mono ?_
  rintro e w3 ⟨rfl, q, rfl⟩
  have r3 := Hd.mk (r0.out.drewN q).fin
  go_wp2
  go_ret
  exact ⟨by rw [← hc.out]; rfl, r3.out.1, r3.out.2⟩
set_option maxHeartbeats 1000000 in
theorem ciEqual_any (P : Nat → Prop) (bd be : Nat) (x y : Int) (S : Nat → Option Int) (w : World) (hI : Ints P w S) (hx : S bd = some x) (hy : S be = some y) (hw : wlen x.natAbs < 800) :
    Calls Tryz.prog 36 #[.agg #[ptr bd], .agg #[ptr be]] w fun e w' => e = .returned (.bool (decide (x = y))) ∧ Keep P w w' ∧ Ints P w' S := by
  have r0 := Hd.mk (Run.start hI)
  clear hI
  have r1 := Hd.mk (r0.out.box #[ptr bd] 65)
  clear r0
  have r2 := Hd.mk (r1.out.box #[ptr be] 65)
  clear r1
  have hm := Hd.mk (cequal_any _ bd be x y S _ r2.out.ints hx hy hw)
  generalize (decide (x = y)) = c at *
  replace hx := Hd.mk hx
  replace hy := Hd.mk hy
  go_enter Tryz.func36, Tryz.ntmps36
  go_wp2_with fail
  refine hm.out.mono ?_
  rintro e w3 ⟨rfl, hk3, hI3⟩
  have r3 := Hd.mk (r2.out.op hk3 hI3).fin
  go_wp2
  go_ret
  exact ⟨rfl, r3.out.1, r3.out.2⟩
set_option maxHeartbeats 1000000 in
theorem cgt_any (P : Nat → Prop) (bd be : Nat) (x y : Int) (S : Nat → Option Int) (w : World) (hI : Ints P w S) (hx : S bd = some x) (hy : S be = some y) (hw : wlen x.natAbs < 800) :
    Calls Tryz.prog 129 #[ptr bd, ptr be] w fun e w' => e = .returned (.bool (decide (y < x))) ∧ Keep P w w' ∧ Ints P w' S := by
  have r0 := Hd.mk (Run.start hI)
  have hc : (cmpI x y == 1) = (decide (y < x)) := by
    rcases Int.lt_trichotomy x y with h | h | h
    · rw [cmpI_lt h, Bool.eq_iff_iff]; simp <;> omega
    · subst h; rw [cmpI_eq, Bool.eq_iff_iff]; simp <;> omega
    · rw [cmpI_gt h, Bool.eq_iff_iff]; simp <;> omega
  have hm := Hd.mk (ICmp_any _ bd be x y S _ hI hx hy hw)
  clear hI
  generalize cmpI x y = c at *
  replace hc := Hd.mk hc
  replace hx := Hd.mk hx
  replace hy := Hd.mk hy
  go_enter Tryz.func129, Tryz.ntmps129
  go_wp2_with fail
  refine hm.out.mono ?_
  rintro e w3 ⟨rfl, q, rfl⟩
  have r3 := Hd.mk (r0.out.drewN q).fin
  go_wp2
  go_ret
  exact ⟨by rw [← hc.out]; rfl, r3.out.1, r3.out.2⟩
set_option maxHeartbeats 1000000 in
theorem ciGT_any (P : Nat → Prop) (bd be : Nat) (x y : Int) (S : Nat → Option Int) (w : World) (hI : Ints P w S) (hx : S bd = some x) (hy : S be = some y) (hw : wlen x.natAbs < 800) :
    Calls Tryz.prog 37 #[.agg #[ptr bd], .agg #[ptr be]] w fun e w' => e = .returned (.bool (decide (y < x))) ∧ Keep P w w' ∧ Ints P w' S := by
  have r0 := Hd.mk (Run.start hI)
  clear hI
  have r1 := Hd.mk (r0.out.box #[ptr bd] 65)
  clear r0
  have r2 := Hd.mk (r1.out.box #[ptr be] 65)
  clear r1
  have hm := Hd.mk (cgt_any _ bd be x y S _ r2.out.ints hx hy hw)
  generalize (decide (y < x)) = c at *
  replace hx := Hd.mk hx
  replace hy := Hd.mk hy
  go_enter Tryz.func37, Tryz.ntmps37
  go_wp2_with fail
  refine hm.out.mono ?_
  rintro e w3 ⟨rfl, hk3, hI3⟩
  have r3 := Hd.mk (r2.out.op hk3 hI3).fin
  go_wp2
  go_ret
  exact ⟨rfl, r3.out.1, r3.out.2⟩
set_option maxHeartbeats 1000000 in
theorem cgte_any (P : Nat → Prop) (bd be : Nat) (x y : Int) (S : Nat → Option Int) (w : World) (hI : Ints P w S) (hx : S bd = some x) (hy : S be = some y) (hw : wlen x.natAbs < 800) :
    Calls Tryz.prog 130 #[ptr bd, ptr be] w fun e w' => e = .returned (.bool (decide (y ≤ x))) ∧ Keep P w w' ∧ Ints P w' S := by
  have r0 := Hd.mk (Run.start hI)
  have hc : (decide (0 ≤ cmpI x y)) = (decide (y ≤ x)) := by
    rcases Int.lt_trichotomy x y with h | h | h
    · rw [cmpI_lt h, Bool.eq_iff_iff]; simp <;> omega
    · subst h; rw [cmpI_eq, Bool.eq_iff_iff]; simp <;> omega
    · rw [cmpI_gt h, Bool.eq_iff_iff]; simp <;> omega
  have hm := Hd.mk (ICmp_any _ bd be x y S _ hI hx hy hw)
  clear hI
  generalize cmpI x y = c at *
  replace hc := Hd.mk hc
  replace hx := Hd.mk hx
  replace hy := Hd.mk hy
  go_enter Tryz.func130, Tryz.ntmps130
  go_wp2_with fail
  refine hm.out.mono ?_
  rintro e w3 ⟨rfl, q, rfl⟩
  have r3 := Hd.mk (r0.out.drewN q).fin
  go_wp2
  go_ret
  exact ⟨by rw [← hc.out]; rfl, r3.out.1, r3.out.2⟩
set_option maxHeartbeats 1000000 in
theorem ciGTE_any (P : Nat → Prop) (bd be : Nat) (x y : Int) (S : Nat → Option Int) (w : World) (hI : Ints P w S) (hx : S bd = some x) (hy : S be = some y) (hw : wlen x.natAbs < 800) :
    Calls Tryz.prog 38 #[.agg #[ptr bd], .agg #[ptr be]] w fun e w' => e = .returned (.bool (decide (y ≤ x))) ∧ Keep P w w' ∧ Ints P w' S := by
  have r0 := Hd.mk (Run.start hI)
  clear hI
  have r1 := Hd.mk (r0.out.box #[ptr bd] 65)
  clear r0
  have r2 := Hd.mk (r1.out.box #[ptr be] 65)
  clear r1
  have hm := Hd.mk (cgte_any _ bd be x y S _ r2.out.ints hx hy hw)
  generalize (decide (y ≤ x)) = c at *
  replace hx := Hd.mk hx
  replace hy := Hd.mk hy
  go_enter Tryz.func38, Tryz.ntmps38
  go_wp2_with fail
  refine hm.out.mono ?_
  rintro e w3 ⟨rfl, hk3, hI3⟩
  have r3 := Hd.mk (r2.out.op hk3 hI3).fin
  go_wp2
  go_ret
  exact ⟨rfl, r3.out.1, r3.out.2⟩
set_option maxHeartbeats 1000000 in
theorem clt_any (P : Nat → Prop) (bd be : Nat) (x y : Int) (S : Nat → Option Int) (w : World) (hI : Ints P w S) (hx : S bd = some x) (hy : S be = some y) (hw : wlen x.natAbs < 800) :
    Calls Tryz.prog 131 #[ptr bd, ptr be] w fun e w' => e = .returned (.bool (decide (x < y))) ∧ Keep P w w' ∧ Ints P w' S := by
  have r0 := Hd.mk (Run.start hI)
  have hc : (cmpI x y == -1) = (decide (x < y)) := by
    rcases Int.lt_trichotomy x y with h | h | h
    · rw [cmpI_lt h, Bool.eq_iff_iff]; simp <;> omega
    · subst h; rw [cmpI_eq, Bool.eq_iff_iff]; simp <;> omega
    · rw [cmpI_gt h, Bool.eq_iff_iff]; simp <;> omega
  have hm := Hd.mk (ICmp_any _ bd be x y S _ hI hx hy hw)
  clear hI
  generalize cmpI x y = c at *
  replace hc := Hd.mk hc
  replace hx := Hd.mk hx
  replace hy := Hd.mk hy
  go_enter Tryz.func131, Tryz.ntmps131
  go_wp2_with fail
  refine hm.out.mono ?_
  rintro e w3 ⟨rfl, q, rfl⟩
  have r3 := Hd.mk (r0.out.drewN q).fin
  go_wp2
  go_ret
  exact ⟨by rw [← hc.out]; rfl, r3.out.1, r3.out.2⟩
set_option maxHeartbeats 1000000 in
theorem ciLT_any (P : Nat → Prop) (bd be : Nat) (x y : Int) (S : Nat → Option Int) (w : World) (hI : Ints P w S) (hx : S bd = some x) (hy : S be = some y) (hw : wlen x.natAbs < 800) :
    Calls Tryz.prog 39 #[.agg #[ptr bd], .agg #[ptr be]] w fun e w' => e = .returned (.bool (decide (x < y))) ∧ Keep P w w' ∧ Ints P w' S := by
  have r0 := Hd.mk (Run.start hI)
  clear hI
  have r1 := Hd.mk (r0.out.box #[ptr bd] 65)
  clear r0
  have r2 := Hd.mk (r1.out.box #[ptr be] 65)
  clear r1
  have hm := Hd.mk (clt_any _ bd be x y S _ r2.out.ints hx hy hw)
  generalize (decide (x < y)) = c at *
  replace hx := Hd.mk hx
  replace hy := Hd.mk hy
  go_enter Tryz.func39, Tryz.ntmps39
  go_wp2_with fail
  refine hm.out.mono ?_
  rintro e w3 ⟨rfl, hk3, hI3⟩
  have r3 := Hd.mk (r2.out.op hk3 hI3).fin
  go_wp2
  go_ret
  exact ⟨rfl, r3.out.1, r3.out.2⟩
set_option maxHeartbeats 1000000 in
theorem clte_any (P : Nat → Prop) (bd be : Nat) (x y : Int) (S : Nat → Option Int) (w : World) (hI : Ints P w S) (hx : S bd = some x) (hy : S be = some y) (hw : wlen x.natAbs < 800) :
    Calls Tryz.prog 132 #[ptr bd, ptr be] w fun e w' => e = .returned (.bool (decide (x ≤ y))) ∧ Keep P w w' ∧ Ints P w' S := by
  have r0 := Hd.mk (Run.start hI)
  have hc : (decide (cmpI x y ≤ 0)) = (decide (x ≤ y)) := by
    rcases Int.lt_trichotomy x y with h | h | h
    · rw [cmpI_lt h, Bool.eq_iff_iff]; simp <;> omega
    · subst h; rw [cmpI_eq, Bool.eq_iff_iff]; simp <;> omega
    · rw [cmpI_gt h, Bool.eq_iff_iff]; simp <;> omega
  have hm := Hd.mk (ICmp_any _ bd be x y S _ hI hx hy hw)
  clear hI
  generalize cmpI x y = c at *
  replace hc := Hd.mk hc
  replace hx := Hd.mk hx
  replace hy := Hd.mk hy
  go_enter Tryz.func132, Tryz.ntmps132
  go_wp2_with fail
  refine hm.out.mono ?_
  rintro e w3 ⟨rfl, q, rfl⟩
  have r3 := Hd.mk (r0.out.drewN q).fin
  go_wp2
  go_ret
  exact ⟨by rw [← hc.out]; rfl, r3.out.1, r3.out.2⟩
set_option maxHeartbeats 1000000 in
theorem ciLTE_any (P : Nat → Prop) (bd be : Nat) (x y : Int) (S : Nat → Option Int) (w : World) (hI : Ints P w S) (hx : S bd = some x) (hy : S be = some y) (hw : wlen x.natAbs < 800) :
    Calls Tryz.prog 40 #[.agg #[ptr bd], .agg #[ptr be]] w fun e w' => e = .returned (.bool (decide (x ≤ y))) ∧ Keep P w w' ∧ Ints P w' S := by
  have r0 := Hd.mk (Run.start hI)
  clear hI
  have r1 := Hd.mk (r0.out.box #[ptr bd] 65)
  clear r0
  have r2 := Hd.mk (r1.out.box #[ptr be] 65)
  clear r1
  have hm := Hd.mk (clte_any _ bd be x y S _ r2.out.ints hx hy hw)
  generalize (decide (x ≤ y)) = c at *
  replace hx := Hd.mk hx
  replace hy := Hd.mk hy
  go_enter Tryz.func40, Tryz.ntmps40
  go_wp2_with fail
  refine hm.out.mono ?_
  rintro e w3 ⟨rfl, hk3, hI3⟩
  have r3 := Hd.mk (r2.out.op hk3 hI3).fin
  go_wp2
  go_ret
  exact ⟨rfl, r3.out.1, r3.out.2⟩
end Go.Proofs.YtdbjdpooggaonaaGreatDoor
end

section
namespace Go.Proofs.YtdbjdpooggaonaaGreatDoor
open Go.RowKit
set_option maxRecDepth 100000
theorem bitLenAux_le : ∀ f x, Lib.bitLenAux f x ≤ f
  | 0, _ => Nat.le_refl _
  | f + 1, x => by
    unfold Lib.bitLenAux
    have := bitLenAux_le f (x / 2)
    split <;> omega
theorem bitLen_64 (x : Nat) : Lib.bitLen x ≤ 64 := bitLenAux_le 64 x
theorem nbl_256 {a : Nat} (h : a < 2 ^ 256) : nbl a ≤ 256 := by
  have h4 : wlen a ≤ 4 := wlen_le (n := 4) (Nat.lt_of_lt_of_le h (by decide))
  unfold nbl
  split
  · omega
  · have hb : Lib.bitLen (dig a (wlen a - 1)) ≤ 64 := bitLen_64 _
    omega
set_option maxHeartbeats 1000000 in
theorem IBitLen_any (P : Nat → Prop) (B : Nat) (z : Int) (S : Nat → Option Int) (w : World) (hI : Ints P w S) (hB : S B = some z) (hz : wlen z.natAbs < 800) :
    Calls Tryz.prog 228 #[ptr B] w fun e w' => e = .returned (.int .i64 (nbl z.natAbs : Nat)) ∧ w = w' := by
  obtain ⟨own, hst⟩ := hI
  obtain ⟨A, cap, hb, hn, g0, g1, h3, h4⟩ := (hst.at_ B z hB).open
  have hbl := Hd.mk (nbitLen_any _ _ _ w hn hz)
  clear hst
  replace hn := Hd.mk hn
  generalize nbl z.natAbs = k at *
  generalize wlen z.natAbs = n at *
  replace hb := Hd.mk hb
  go_enter Tryz.func228, Tryz.ntmps228
  go_wp2_with (go_at_call 256; refine hbl.out.mono ?_; rintro e w2 ⟨rfl, rfl⟩)
  go_ret
  exact ⟨rfl, rfl⟩
set_option maxHeartbeats 1000000 in
theorem uOver_no (P : Nat → Prop) (B : Nat) (z : Int) (S : Nat → Option Int) (w : World) (hI : Ints P w S) (hB : S B = some z) (h0 : 0 ≤ z) (hz : z.natAbs < 2 ^ 256) :
    Calls Tryz.prog 233 #[ptr B] w fun e w' => e = .returned .nilIface ∧ w = w' := by
  have hsg := Hd.mk (Sign_any P B z S w hI hB)
  have hbl := Hd.mk (IBitLen_any P B z S w hI hB (by have := wl256 hz; omega))
  have hk := nbl_256 hz
  have hs : decide (sgn z < 0) = false := by unfold sgn; rw [if_neg (by omega)]; split <;> rfl
  have hd : decide ((256 : Int) < (nbl z.natAbs : Int)) = false := decide_eq_false (by omega)
  clear hI
  replace hz := Hd.mk hz
  generalize nbl z.natAbs = k at *
  generalize sgn z = s at *
  go_enter Tryz.func233, Tryz.ntmps233
  go_wp2_with (first
    | (go_at_call 169; refine hsg.out.mono ?_; rintro e w2 ⟨rfl, rfl⟩)
    | (go_at_call 228; refine hbl.out.mono ?_; rintro e w2 ⟨rfl, rfl⟩))
  go_ret
  exact ⟨rfl, rfl⟩
set_option maxHeartbeats 1000000 in
theorem chkUint_ok (P : Nat → Prop) (bx : Nat) (x : Int) (S : Nat → Option Int) (w : World) (hI : Ints P w S) (hx : S bx = some x) (h0 : 0 ≤ x) (hz : x.natAbs < 2 ^ 256) :
    Calls Tryz.prog 204 #[ptr bx] w fun e w' => ∃ B, e = .returned (.tuple #[.agg #[ptr B], .nilIface]) ∧ w.heap.size ≤ B ∧ Keep P w w' ∧ Ints P w' (upd S B x) := by
  have r0 := Hd.mk (Run.start hI)
  have hlx := hI.lt hx
  have hlo := Hd.mk hI.low
  clear hI
  have r1 := Hd.mk (r0.out.box #[.pointer none] 76)
  clear r0
  have hov := Hd.mk (uOver_no _ bx x _ _ r1.out.ints hx h0 hz)
  have r2 := Hd.mk (r1.out.new_int (NewI.of_new _))
  clear r1
  simp only [World.size_alloc] at r2
  have hm := Hd.mk (ISet_any _ (w.heap.size + 1) bx 0 x _ _ r2.out.ints upd_same (by rw [upd_ne (by omega), hx]) (by have := wl256 hz; omega))
  replace hx := Hd.mk hx
  replace hz := Hd.mk hz
  have hnn := niln_nil
  go_enter Tryz.func204, Tryz.ntmps204
  go_wp2_with (first | (go_at_call 233; refine hov.out.mono ?_; rintro e w2 ⟨rfl, rfl⟩) | (go_at_call 137; refine hm.out.mono ?_; rintro e w3 ⟨rfl, hk3, hI3⟩; have r3 := Hd.mk (r2.out.op hk3 hI3); clear hk3 hI3; obtain ⟨c3, c3z, c3l⟩ := r3.out.cell (b := w.heap.size) updX_same))
  have r5 := r3.out.set1 (b := w.heap.size) (v := .pointer none) (v' := ptr (w.heap.size + 1)) updX_same
  refine bodyPost_ret (v := .tuple #[.agg #[ptr (w.heap.size + 1)], .nilIface]) (by simp [results, Tryz.results204, go_sem, c3, c3z, c3l]) rfl ⟨_, rfl, by omega, r5.fin.1, r5.fin.2.sub fun k z hk => ?_⟩
  rcases upd_cases hk with ⟨rfl, rfl⟩ | ⟨hne, hk⟩
  · repeat first | exact upd_same | rw [upd_ne (by omega)]
  · have hkl := hlo.out.lt hk
    repeat rw [upd_ne (by first | exact hne | ((try simp only [World.size_alloc]); omega))]
    exact hk
set_option maxHeartbeats 1000000 in
theorem NewUintBig_ok (P : Nat → Prop) (bx : Nat) (x : Int) (S : Nat → Option Int) (w : World) (hI : Ints P w S) (hx : S bx = some x) (h0 : 0 ≤ x) (hz : x.natAbs < 2 ^ 256) :
    Calls Tryz.prog 149 #[ptr bx] w fun e w' => ∃ B, e = .returned (.agg #[ptr B]) ∧ w.heap.size ≤ B ∧ Keep P w w' ∧ Ints P w' (upd S B x) := by
  have r0 := Hd.mk (Run.start hI)
  have hlx := hI.lt hx
  have hlo := Hd.mk hI.low
  clear hI
  have r1 := Hd.mk (r0.out.box #[.pointer none] 76)
  clear r0
  have ha := Hd.mk (chkUint_ok _ bx x _ _ r1.out.ints hx h0 hz)
  have hnn := niln_nil
  replace hx := Hd.mk hx
  replace hz := Hd.mk hz
  go_enter Tryz.func149, Tryz.ntmps149
  go_wp2_with (go_at_call 204; refine ha.out.mono ?_; rintro e w4 ⟨B4, rfl, g4, hk4, hI4⟩; have r4 := Hd.mk (r1.out.op hk4 hI4); clear hk4 hI4; (try simp only [World.size_alloc] at g4); obtain ⟨c4, c4z, c4l⟩ := r4.out.cell (b := w.heap.size) updX_same)
  have r7 := (r4.out.set1 (b := w.heap.size) (v := .pointer none) (v' := ptr B4) updX_same).box #[ptr B4] 76
  refine bodyPost_ret (v := .agg #[ptr B4]) (by simp [results, Tryz.results149, go_sem, c4, c4z, c4l]) rfl ⟨_, rfl, by omega, r7.fin.1, r7.fin.2.sub fun k z hk => ?_⟩
  rcases upd_cases hk with ⟨rfl, rfl⟩ | ⟨hne, hk⟩
  · repeat first | exact upd_same | rw [upd_ne (by omega)]
  · have hkl := hlo.out.lt hk
    repeat rw [upd_ne (by first | exact hne | ((try simp only [World.size_alloc]); omega))]
    exact hk
set_option maxHeartbeats 1000000 in
theorem unsigned_ok (x : Int) (w : World) (hok : Ok w) (her : Er w) (h0 : 0 ≤ x) (hx : x.natAbs < 2 ^ 256) : Calls Tryz.prog 56 #[.string (zT x)] w fun e w' => ∃ B, e = .returned (.agg #[ptr B]) ∧ NewI w w' B x := by
  have r0 := Hd.mk hok.run
  have hb1 : Below w.heap.size w (w.alloc (.cells #[.pointer none] 76)) := (Below.refl _ _).alloc (Nat.le_refl _) _
  have her1 := Hd.mk (her.below hb1)
  clear hb1
  have r1 := Hd.mk (r0.out.box #[.pointer none] 76)
  clear r0
  have hnu := Hd.mk fun w1 h1 h2 => number_ok x w1 h1 h2 (Nat.lt_trans hx (by decide))
  have hni := Hd.mk fun (Q : Nat → Prop) B S1 w1 (h : Ints Q w1 S1) (h1 : S1 B = some x) => NewUintBig_ok Q B x S1 w1 h h1 h0 hx
  have hse := Hd.mk fun (Q : Nat → Prop) B C S1 w1 (h : Ints Q w1 S1) (h1 : S1 B = some 0) (h2 : S1 C = some x) => ISet_any Q B C 0 x S1 w1 h h1 h2 (by have := wl256 hx; omega)
  replace hx := Hd.mk hx
  generalize zT x = s at *
  go_enter Tryz.func56, Tryz.ntmps56
  go_wp2_with fail
  refine (hnu.out _ r1.out.ok her1.out).mono ?_
  rintro e w2 ⟨B2, rfl, hn2⟩
  have r2 := Hd.mk (r1.out.new_int hn2)
  have g2 := hn2.ge
  have s2 := hn2.bel.size
  try simp only [World.size_alloc] at g2 s2
  have l2 := r2.out.ilt upd_same
  have q2 := Hd.mk hn2.bel
  clear hn2 r1
  have r3 := Hd.mk (r2.out.new_int (NewI.of_new _))
  have hm := Hd.mk (hse.out _ w2.heap.size B2 _ _ r3.out.ints upd_same (by rw [upd_ne (by omega)]; exact upd_same))
  go_wp2_with (first
    | (go_at_call 137; refine hm.out.mono ?_; rintro e w3 ⟨rfl, hk3, hI3⟩; have r4 := Hd.mk (r3.out.op hk3 hI3); clear hk3 hI3)
    | (go_at_call 149; refine (hni.out _ w2.heap.size _ _ r4.out.ints upd_same).mono ?_; rintro e w5 ⟨B5, rfl, g5, hk5, hI5⟩; have r5 := Hd.mk (r4.out.op hk5 hI5); clear hk5 hI5; obtain ⟨c5, c5z, c5l⟩ := r5.out.cell (b := w.heap.size) updX_same))
  have r6 := r5.out.set1 (b := w.heap.size) (v := .pointer none) (v' := ptr B5) updX_same
  refine bodyPost_ret (v := .agg #[ptr B5]) (by simp [results, Tryz.results56, go_sem, c5, c5z, c5l]) rfl ⟨_, rfl, r6.newI upd_same⟩
set_option maxHeartbeats 1000000 in
theorem ISetUint64_any (P : Nat → Prop) (bz : Nat) (z : Int) (n : Nat) (S : Nat → Option Int) (w : World) (hI : Ints P w S) (hz : S bz = some z) (hn64 : n < BB) :
    Calls Tryz.prog 202 #[ptr bz, .int .u64 (n : Int)] w fun e w' => e = .returned (ptr bz) ∧ Keep P w w' ∧ Ints P w' (upd S bz (n : Int)) := by
  obtain ⟨own, hst⟩ := hI
  obtain ⟨A, cap, hb, hn, g0, g1, h3, h4⟩ := (hst.at_ bz z hz).open
  have hset := sl (Below.refl _ _) (setUint64_any (.slice A (wlen z.natAbs) cap) n (own bz) w hn.recv hn64)
  have hoz : own bz ≠ some bz := fun e => by have := (hst.no bz z bz hz e).2; rw [hz] at this; cases this
  have hlz := hb.lt
  replace hst := Hd.mk hst
  replace hn := Hd.mk hn
  replace hset := Hd.mk hset
  replace hz := Hd.mk hz
  have fz := hb.frozen 1
  have fz0 := hb.frozen 0
  replace hb := Hd.mk hb
  go_enter Tryz.func202, Tryz.ntmps202
  go_wp2_with (go_at_call 216; refine hset.out.mono ?_; rintro e w2 ⟨A2, cap2, rfl, hr⟩; obtain ⟨o2, hn2, hc2, ho2⟩ := hr; obtain ⟨hb2, l0, l1, lz0, lz⟩ := blk_facts hc2 hb.out hoz; replace hr := Hd.mk (show NatR w w2 (own bz) n (.slice A2 (wlen n) cap2) from ⟨o2, hn2, hc2, ho2⟩); clear hn2 hc2 ho2; replace hb2 := Hd.mk hb2)
  go_ret
  have hp := ((Put.refl hb2.out).set 1 (.slice A2 (wlen n) cap2)).set 0 (.bool false)
  obtain ⟨q1, q2⟩ := hst.out.write (z' := (n : Int)) hz.out hr.out (by rw [show decide ((n : Int) < 0) = false from decide_eq_false (by omega)]; exact hp) (Int.natAbs_natCast n)
  exact ⟨rfl, q1, q2⟩
set_option maxHeartbeats 1000000 in
theorem NewUint_ok (n : Nat) (hn : n < BB) (w : World) (hok : Ok w) : Calls Tryz.prog 143 #[.int .u64 (n : Int)] w fun e w' => ∃ B, e = .returned (.agg #[ptr B]) ∧ NewI w w' B (n : Int) := by
  have r0 := Hd.mk hok.run
  have r1 := Hd.mk (r0.out.box #[.pointer none] 76)
  clear r0
  have r2 := Hd.mk (r1.out.new_int (NewI.of_new _))
  simp only [World.size_alloc] at r2
  have hse := Hd.mk (ISetUint64_any _ (w.heap.size + 1) 0 n _ _ r2.out.ints upd_same hn)
  have hni := Hd.mk fun (Q : Nat → Prop) B S1 w1 (h : Ints Q w1 S1) (h1 : S1 B = some (n : Int)) => NewUintBig_ok Q B n S1 w1 h h1 (by omega) (by rw [Int.natAbs_natCast]; exact Nat.lt_trans hn (by unfold BB; decide))
  replace hn := Hd.mk hn
  go_enter Tryz.func143, Tryz.ntmps143
  go_wp2_with (first
    | (go_at_call 202; refine hse.out.mono ?_; rintro e w3 ⟨rfl, hk3, hI3⟩; have r3 := Hd.mk (r2.out.op hk3 hI3); clear hk3 hI3)
    | (go_at_call 149; refine (hni.out _ (w.heap.size + 1) _ _ r3.out.ints upd_same).mono ?_; rintro e w5 ⟨B5, rfl, g5, hk5, hI5⟩; have r5 := Hd.mk (r3.out.op hk5 hI5); clear hk5 hI5; obtain ⟨c5, c5z, c5l⟩ := r5.out.cell (b := w.heap.size) updX_same))
  have r6 := r5.out.set1 (b := w.heap.size) (v := .pointer none) (v' := ptr B5) updX_same
  refine bodyPost_ret (v := .agg #[ptr B5]) (by simp [results, Tryz.results143, go_sem, c5, c5z, c5l]) rfl ⟨_, rfl, r6.newI upd_same⟩
set_option maxHeartbeats 1000000 in
theorem ZeroUint_any (w : World) (hok : Ok w) : Calls Tryz.prog 141 #[] w fun e w' => ∃ B, e = .returned (.agg #[ptr B]) ∧ NewI w w' B 0 := by
  have r0 := Hd.mk hok.run
  have r1 := Hd.mk (r0.out.box #[.pointer none] 76)
  clear r0
  go_enter Tryz.func141, Tryz.ntmps141
  go_wp2_with fail
  refine (NewInt_any 0 _ (by decide) (by decide)).mono ?_
  rintro e w2 ⟨B2, rfl, hn2⟩
  have r2 := Hd.mk (r1.out.new_int hn2)
  have g2 := hn2.ge
  have s2 := hn2.bel.size
  try simp only [World.size_alloc] at g2 s2
  have l2 := r2.out.ilt upd_same
  have q2 := Hd.mk hn2.bel
  clear hn2 r1
  obtain ⟨c2, c2z, c2l⟩ := r2.out.cell (b := w.heap.size) updX_same
  go_wp2
  have r3 := r2.out.set1 (b := w.heap.size) (v := .pointer none) (v' := ptr B2) updX_same
  refine bodyPost_ret (v := .agg #[ptr B2]) (by simp [results, Tryz.results141, go_sem, c2, c2z, c2l]) rfl ⟨_, rfl, r3.newI upd_same⟩
set_option maxHeartbeats 1000000 in
theorem OneUint_any (w : World) (hok : Ok w) : Calls Tryz.prog 140 #[] w fun e w' => ∃ B, e = .returned (.agg #[ptr B]) ∧ NewI w w' B 1 := by
  have r0 := Hd.mk hok.run
  have r1 := Hd.mk (r0.out.box #[.pointer none] 76)
  clear r0
  go_enter Tryz.func140, Tryz.ntmps140
  go_wp2_with fail
  refine (NewInt_any 1 _ (by decide) (by decide)).mono ?_
  rintro e w2 ⟨B2, rfl, hn2⟩
  have r2 := Hd.mk (r1.out.new_int hn2)
  have g2 := hn2.ge
  have s2 := hn2.bel.size
  try simp only [World.size_alloc] at g2 s2
  have l2 := r2.out.ilt upd_same
  have q2 := Hd.mk hn2.bel
  clear hn2 r1
  obtain ⟨c2, c2z, c2l⟩ := r2.out.cell (b := w.heap.size) updX_same
  go_wp2
  have r3 := r2.out.set1 (b := w.heap.size) (v := .pointer none) (v' := ptr B2) updX_same
  refine bodyPost_ret (v := .agg #[ptr B2]) (by simp [results, Tryz.results140, go_sem, c2, c2z, c2l]) rfl ⟨_, rfl, r3.newI upd_same⟩
set_option maxHeartbeats 1000000 in
theorem uEqual_any (P : Nat → Prop) (bd be : Nat) (x y : Int) (S : Nat → Option Int) (w : World) (hI : Ints P w S) (hx : S bd = some x) (hy : S be = some y) (hw : wlen x.natAbs < 800) :
    Calls Tryz.prog 144 #[.agg #[ptr bd], .agg #[ptr be]] w fun e w' => e = .returned (.bool (decide (x = y))) ∧ Keep P w w' ∧ Ints P w' S := by
  have r0 := Hd.mk (Run.start hI)
  clear hI
  have r1 := Hd.mk (r0.out.box #[ptr bd] 76)
  clear r0
  have r2 := Hd.mk (r1.out.box #[ptr be] 76)
  clear r1
  have hm := Hd.mk (cequal_any _ bd be x y S _ r2.out.ints hx hy hw)
  generalize (decide (x = y)) = c at *
  replace hx := Hd.mk hx
  replace hy := Hd.mk hy
  go_enter Tryz.func144, Tryz.ntmps144
  go_wp2_with fail
  refine hm.out.mono ?_
  rintro e w3 ⟨rfl, hk3, hI3⟩
  have r3 := Hd.mk (r2.out.op hk3 hI3).fin
  go_wp2
  go_ret
  exact ⟨rfl, r3.out.1, r3.out.2⟩
set_option maxHeartbeats 1000000 in
theorem uGT_any (P : Nat → Prop) (bd be : Nat) (x y : Int) (S : Nat → Option Int) (w : World) (hI : Ints P w S) (hx : S bd = some x) (hy : S be = some y) (hw : wlen x.natAbs < 800) :
    Calls Tryz.prog 146 #[.agg #[ptr bd], .agg #[ptr be]] w fun e w' => e = .returned (.bool (decide (y < x))) ∧ Keep P w w' ∧ Ints P w' S := by
  have r0 := Hd.mk (Run.start hI)
  clear hI
  have r1 := Hd.mk (r0.out.box #[ptr bd] 76)
  clear r0
  have r2 := Hd.mk (r1.out.box #[ptr be] 76)
  clear r1
  have hm := Hd.mk (cgt_any _ bd be x y S _ r2.out.ints hx hy hw)
  generalize (decide (y < x)) = c at *
  replace hx := Hd.mk hx
  replace hy := Hd.mk hy
  go_enter Tryz.func146, Tryz.ntmps146
  go_wp2_with fail
  refine hm.out.mono ?_
  rintro e w3 ⟨rfl, hk3, hI3⟩
  have r3 := Hd.mk (r2.out.op hk3 hI3).fin
  go_wp2
  go_ret
  exact ⟨rfl, r3.out.1, r3.out.2⟩
set_option maxHeartbeats 2000000 in
theorem uMul_ok (P : Nat → Prop) (bx by_ : Nat) (x y z : Int) (S : Nat → Option Int) (w : World) (hI : Ints P w S) (hx : S bx = some x) (hy : S by_ = some y) (hwx : wlen x.natAbs < 12) (hwy : wlen y.natAbs < 12) (h0 : 0 ≤ z) (hz : z.natAbs < 2 ^ 256) (hzz : x * y = z) :
    Calls Tryz.prog 147 #[.agg #[ptr bx], .agg #[ptr by_]] w fun e w' => ∃ B, e = .returned (.agg #[ptr B]) ∧ w.heap.size ≤ B ∧ Keep P w w' ∧ Ints P w' (upd S B z) := by
  have r0 := Hd.mk (Run.start hI)
  have hlx := hI.lt hx
  have hly := hI.lt hy
  have hlo := Hd.mk hI.low
  clear hI
  have r1 := Hd.mk (r0.out.box #[ptr bx] 76)
  clear r0
  have r2 := Hd.mk (r1.out.box #[ptr by_] 76)
  clear r1
  simp only [World.size_alloc] at r2
  have r3 := Hd.mk (r2.out.box #[.pointer none] 76)
  clear r2
  simp only [World.size_alloc] at r3
  have r4 := Hd.mk (r3.out.new_int (NewI.of_new _))
  simp only [World.size_alloc] at r4
  have ha := IMul_any _ (w.heap.size + 1 + 1 + 1) bx by_ 0 x y _ _ r4.out.ints upd_same (by rw [upd_ne (by omega), hx]) (by rw [upd_ne (by omega), hy]) (by omega) (by omega) (fun _ => hwx)
  rw [hzz] at ha
  replace ha := Hd.mk ha
  have hni := Hd.mk fun (Q : Nat → Prop) B S1 w1 (h : Ints Q w1 S1) (h1 : S1 B = some z) => NewUintBig_ok Q B z S1 w1 h h1 h0 hz
  replace hx := Hd.mk hx
  replace hy := Hd.mk hy
  replace hz := Hd.mk hz
  replace hzz := Hd.mk hzz
  go_enter Tryz.func147, Tryz.ntmps147
  go_wp2_with (first
    | (go_at_call 160; refine ha.out.mono ?_; rintro e w5 ⟨rfl, hk5, hI5⟩; have r5 := Hd.mk (r4.out.op hk5 hI5); clear hk5 hI5)
    | (go_at_call 149; refine (hni.out _ (w.heap.size + 1 + 1 + 1) _ _ r5.out.ints upd_same).mono ?_; rintro e w6 ⟨B6, rfl, g6, hk6, hI6⟩; have s5 := r5.out.ilt upd_same; have r6 := Hd.mk (r5.out.op hk6 hI6); clear hk6 hI6; obtain ⟨c6, c6z, c6l⟩ := r6.out.cell (b := w.heap.size + 1 + 1) updX_same))
  have r7 := r6.out.set1 (b := w.heap.size + 1 + 1) (v := .pointer none) (v' := ptr B6) updX_same
  refine bodyPost_ret (v := .agg #[ptr B6]) (by simp [results, Tryz.results147, go_sem, c6, c6z, c6l]) rfl ⟨_, rfl, by omega, r7.fin.1, r7.fin.2.sub fun k z hk => ?_⟩
  rcases upd_cases hk with ⟨rfl, rfl⟩ | ⟨hne, hk⟩
  · repeat first | exact upd_same | rw [upd_ne (by omega)]
  · have hkl := hlo.out.lt hk
    repeat rw [upd_ne (by first | exact hne | ((try simp only [World.size_alloc]); omega))]
    exact hk
set_option maxHeartbeats 2000000 in
theorem uAdd_ok (P : Nat → Prop) (bx by_ : Nat) (x y z : Int) (S : Nat → Option Int) (w : World) (hI : Ints P w S) (hx : S bx = some x) (hy : S by_ = some y) (hwx : wlen x.natAbs < 12) (hwy : wlen y.natAbs < 12) (h0 : 0 ≤ z) (hz : z.natAbs < 2 ^ 256) (hzz : x + y = z) :
    Calls Tryz.prog 148 #[.agg #[ptr bx], .agg #[ptr by_]] w fun e w' => ∃ B, e = .returned (.agg #[ptr B]) ∧ w.heap.size ≤ B ∧ Keep P w w' ∧ Ints P w' (upd S B z) := by
  have r0 := Hd.mk (Run.start hI)
  have hlx := hI.lt hx
  have hly := hI.lt hy
  have hlo := Hd.mk hI.low
  clear hI
  have r1 := Hd.mk (r0.out.box #[ptr bx] 76)
  clear r0
  have r2 := Hd.mk (r1.out.box #[ptr by_] 76)
  clear r1
  simp only [World.size_alloc] at r2
  have r3 := Hd.mk (r2.out.box #[.pointer none] 76)
  clear r2
  simp only [World.size_alloc] at r3
  have r4 := Hd.mk (r3.out.new_int (NewI.of_new _))
  simp only [World.size_alloc] at r4
  have ha := IAdd_any _ (w.heap.size + 1 + 1 + 1) bx by_ 0 x y _ _ r4.out.ints upd_same (by rw [upd_ne (by omega), hx]) (by rw [upd_ne (by omega), hy]) (by omega) (by omega)
  rw [hzz] at ha
  replace ha := Hd.mk ha
  have hni := Hd.mk fun (Q : Nat → Prop) B S1 w1 (h : Ints Q w1 S1) (h1 : S1 B = some z) => NewUintBig_ok Q B z S1 w1 h h1 h0 hz
  replace hx := Hd.mk hx
  replace hy := Hd.mk hy
  replace hz := Hd.mk hz
  replace hzz := Hd.mk hzz
  go_enter Tryz.func148, Tryz.ntmps148
  go_wp2_with (first
    | (go_at_call 181; refine ha.out.mono ?_; rintro e w5 ⟨rfl, hk5, hI5⟩; have r5 := Hd.mk (r4.out.op hk5 hI5); clear hk5 hI5)
    | (go_at_call 149; refine (hni.out _ (w.heap.size + 1 + 1 + 1) _ _ r5.out.ints upd_same).mono ?_; rintro e w6 ⟨B6, rfl, g6, hk6, hI6⟩; have s5 := r5.out.ilt upd_same; have r6 := Hd.mk (r5.out.op hk6 hI6); clear hk6 hI6; obtain ⟨c6, c6z, c6l⟩ := r6.out.cell (b := w.heap.size + 1 + 1) updX_same))
  have r7 := r6.out.set1 (b := w.heap.size + 1 + 1) (v := .pointer none) (v' := ptr B6) updX_same
  refine bodyPost_ret (v := .agg #[ptr B6]) (by simp [results, Tryz.results148, go_sem, c6, c6z, c6l]) rfl ⟨_, rfl, by omega, r7.fin.1, r7.fin.2.sub fun k z hk => ?_⟩
  rcases upd_cases hk with ⟨rfl, rfl⟩ | ⟨hne, hk⟩
  · repeat first | exact upd_same | rw [upd_ne (by omega)]
  · have hkl := hlo.out.lt hk
    repeat rw [upd_ne (by first | exact hne | ((try simp only [World.size_alloc]); omega))]
    exact hk
end Go.Proofs.YtdbjdpooggaonaaGreatDoor
end

section
namespace Go.Proofs.YtdbjdpooggaonaaGreatDoor
open Go.RowKit
set_option maxRecDepth 100000
theorem Ints.neg0 {P : Nat → Prop} {w : World} {S : Nat → Option Int} {B : Nat} {z : Int} (h : Ints P w S) (hB : S B = some z) : w.cell? ⟨B, 0, none⟩ = some (.bool (decide (z < 0))) ∧ B < w.heap.size := by
  obtain ⟨own, hst⟩ := h
  obtain ⟨A, cap, hb, hn, g0, g1, h3, h4⟩ := (hst.at_ B z hB).open
  exact ⟨hb.cell 0, hb.lt⟩
set_option maxHeartbeats 4000000 in
theorem IMod_pos (P : Nat → Prop) (B bx by_ : Nat) (z x y : Int) (S : Nat → Option Int) (w : World) (hI : Ints P w S) (hB : S B = some z) (hx : S bx = some x) (hy : S by_ = some y) (hne : B ≠ by_) (h0 : 0 ≤ x) (hd : DivOK x.natAbs y.natAbs) :
    Calls Tryz.prog 232 #[ptr B, ptr bx, ptr by_] w fun e w' => e = .returned (ptr B) ∧ Keep P w w' ∧ Ints P w' (upd S B (x.tmod y)) := by
  have hI0 := Hd.mk hI
  have hlo := Hd.mk hI.low
  have lB := hI.lt hB
  have lx := hI.lt hx
  have ly := hI.lt hy
  have r0 := Hd.mk (Run.start hI)
  obtain ⟨own, hst⟩ := hI
  obtain ⟨A, cap, hb, hn, g0, g1, h3, h4⟩ := (hst.at_ B z hB).open
  obtain ⟨D, cy, hby, hny, j0, j1, h7, h8⟩ := (hst.at_ by_ y hy).open
  have hali : ali (own B) (own by_) = false := by
    cases e1 : own B with
    | none => rfl
    | some K =>
      cases e2 : own by_ with
      | none => simp [ali]
      | some K2 =>
        have : K ≠ K2 := fun e => hne (hst.ap B by_ z y K hB hy e1 (e ▸ e2))
        simp [ali, Ne.symm this]
  obtain ⟨A1, c1, q1, hc1, hcap, hrow, _⟩ := hn.open
  cases q1
  obtain ⟨A2, c2, q2, hc2, hcap2, hrow2, _⟩ := hny.open
  cases q2
  have hal := alias_any A D (wlen z.natAbs) cap (wlen y.natAbs) cy _ _ w hrow hrow2 hcap hcap2
  rw [hali] at hal
  have hal3 : Calls Tryz.prog 263 #[.slice A (wlen z.natAbs) cap, .slice D (wlen y.natAbs) cy] w.drew fun e w' => e = .returned (.bool false) ∧ ∃ q, w' = w.drew.drewN q := by
    have h := alias_any A D (wlen z.natAbs) cap (wlen y.natAbs) cy (own B) (own by_) w.drew hrow hrow2 hcap hcap2
    rwa [hali] at h
  replace hal2 := Hd.mk hal3
  have hpe : ∀ n, (binOp .eql 63 (.pointer (some ⟨B, 0, none⟩)) (.pointer (some ⟨by_, 0, none⟩))).run Tryz.prog (w.drewN n) = .ok (.bool false) (w.drewN n) := fun n => ieq_other (a := ⟨B, 0, none⟩) (b := ⟨by_, 0, none⟩) (fun e => hne (by cases e; rfl)) (w.drewN n) ⟨_, _, hb⟩ ⟨_, _, hby⟩
  have hpe2 : (binOp .eql 63 (.pointer (some ⟨B, 0, none⟩)) (.pointer (some ⟨by_, 0, none⟩))).run Tryz.prog w.drew = .ok (.bool false) w.drew := ieq_other (a := ⟨B, 0, none⟩) (b := ⟨by_, 0, none⟩) (fun e => hne (by cases e; rfl)) w.drew ⟨_, _, hb⟩ ⟨_, _, hby⟩
  have hpe1 : (binOp .eql 63 (.pointer (some ⟨B, 0, none⟩)) (.pointer (some ⟨by_, 0, none⟩))).run Tryz.prog w = .ok (.bool false) w := ieq_other (a := ⟨B, 0, none⟩) (b := ⟨by_, 0, none⟩) (fun e => hne (by cases e; rfl)) w ⟨_, _, hb⟩ ⟨_, _, hby⟩
  clear hst hn hny hrow hrow2 hal
  have hqr := Hd.mk fun (Q : Nat → Prop) bq S1 w1 (h : Ints Q w1 S1) (h1 : S1 bq = some 0) (h2 : S1 bx = some x) (h3 : S1 by_ = some y) (h4 : S1 B = some z) (h5 : bq ≠ B) => IQuoRem_any Q bq bx by_ B 0 x y z S1 w1 h h1 h2 h3 h4 h5 hd
  have hpos : decide (x.tmod y < 0) = false := decide_eq_false (by have := Int.tmod_nonneg y h0; omega)
  replace hB := Hd.mk hB
  replace hx := Hd.mk hx
  replace hy := Hd.mk hy
  replace hd := Hd.mk hd
  generalize x.tmod y = m at *
  generalize x.tdiv y = q at *
  replace hb := Hd.mk hb
  replace hby := Hd.mk hby
  go_enter Tryz.func232, Tryz.ntmps232
  go_upto_region 2 with fail
  have hbB := hb.out.lt
  have hbY := hby.out.lt
  go_region_law (go_simp; go_at_call 263; refine hal2.out.mono ?_; rintro e w2 ⟨rfl, q, rfl⟩)
  all_goals
    go_upto_region 5 with fail
    have r1 := Hd.mk ((r0.out.drewN (1 + q)).new_int (NewI.of_new _))
    have hw1 : ((w.drewN (1 + q)).alloc (.cells #[.bool false, .slice none 0 0] 106)).heap.size = w.heap.size + 1 := World.size_alloc _ _
    have hm := Hd.mk (hqr.out _ w.heap.size _ _ r1.out.ints upd_same ((upd_ne (by show bx ≠ w.heap.size; omega)).trans hx.out) ((upd_ne (by show by_ ≠ w.heap.size; omega)).trans hy.out) ((upd_ne (by show B ≠ w.heap.size; omega)).trans hB.out) (by omega))
    go_wp2_with (go_at_call 190; refine hm.out.mono ?_; rintro e w5 ⟨rfl, hk5, hI5⟩; have r5 := Hd.mk (r1.out.op hk5 hI5); have n5 := hI5.neg0 upd_same; rw [hpos] at n5; obtain ⟨n5, l5⟩ := n5; clear hk5 hI5)
    go_ret
    refine ⟨rfl, r5.out.fin.1, r5.out.fin.2.sub fun k v hk => ?_⟩
    rcases upd_cases hk with ⟨rfl, rfl⟩ | ⟨hne', hk⟩
    · exact upd_same
    · have hkl := hlo.out.lt hk
      have e : (w.drewN (1 + q)).heap.size = w.heap.size := rfl
      rw [upd_ne hne', upd_ne (by omega), upd_ne (by omega)]
      exact hk
set_option maxHeartbeats 1000000 in
theorem cdiv_any (P : Nat → Prop) (bx by_ : Nat) (x y : Int) (S : Nat → Option Int) (w : World) (hI : Ints P w S) (hx : S bx = some x) (hy : S by_ = some y) (hd : DivOK x.natAbs y.natAbs) :
    Calls Tryz.prog 203 #[ptr bx, ptr by_] w fun e w' => ∃ B, e = .returned (ptr B) ∧ w.heap.size ≤ B ∧ Keep P w w' ∧ Ints P w' (upd S B (x.tdiv y)) := by
  have r0 := Hd.mk (Run.start hI)
  have hlx := hI.lt hx
  have hly := hI.lt hy
  have hlo := Hd.mk hI.low
  clear hI
  have r1 := Hd.mk (r0.out.new_int (NewI.of_new _))
  clear r0
  have hm := Hd.mk (IQuo_any _ w.heap.size bx by_ 0 x y _ _ r1.out.ints upd_same (by rw [upd_ne (by omega), hx]) (by rw [upd_ne (by omega), hy]) hd)
  generalize x.tdiv y = z at *
  replace hx := Hd.mk hx
  replace hy := Hd.mk hy
  replace hd := Hd.mk hd
  go_enter Tryz.func203, Tryz.ntmps203
  go_wp2_with fail
  refine (hm.out).mono ?_
  rintro e w2 ⟨rfl, hk2, hI2⟩
  have s2 := hk2.size
  try simp only [World.size_alloc] at s2
  have r2 := Hd.mk (r1.out.op hk2 hI2)
  clear hk2 hI2 r1
  go_wp2
  go_ret
  exact ⟨_, rfl, by omega, r2.out.fin.1, r2.out.fin.2.sub fun k z hk => by
    rcases upd_cases hk with ⟨rfl, rfl⟩ | ⟨hne, hk⟩
    · repeat first | exact upd_same | rw [upd_ne (by omega)]
    · have hkl := hlo.out.lt hk
      repeat rw [upd_ne (by first | exact hne | ((try simp only [World.size_alloc]); omega))]
      exact hk
    ⟩
set_option maxHeartbeats 1000000 in
theorem cmod_pos (P : Nat → Prop) (bx by_ : Nat) (x y : Int) (S : Nat → Option Int) (w : World) (hI : Ints P w S) (hx : S bx = some x) (hy : S by_ = some y) (h0 : 0 ≤ x) (hd : DivOK x.natAbs y.natAbs) :
    Calls Tryz.prog 201 #[ptr bx, ptr by_] w fun e w' => ∃ B, e = .returned (ptr B) ∧ w.heap.size ≤ B ∧ Keep P w w' ∧ Ints P w' (upd S B (x.tmod y)) := by
  have r0 := Hd.mk (Run.start hI)
  have hlx := hI.lt hx
  have hly := hI.lt hy
  have hlo := Hd.mk hI.low
  clear hI
  have r1 := Hd.mk (r0.out.new_int (NewI.of_new _))
  clear r0
  have hm := Hd.mk (IMod_pos _ w.heap.size bx by_ 0 x y _ _ r1.out.ints upd_same (by rw [upd_ne (by omega), hx]) (by rw [upd_ne (by omega), hy]) (by omega) h0 hd)
  generalize x.tmod y = z at *
  replace hx := Hd.mk hx
  replace hy := Hd.mk hy
  replace hd := Hd.mk hd
  go_enter Tryz.func201, Tryz.ntmps201
  go_wp2_with fail
  refine (hm.out).mono ?_
  rintro e w2 ⟨rfl, hk2, hI2⟩
  have s2 := hk2.size
  try simp only [World.size_alloc] at s2
  have r2 := Hd.mk (r1.out.op hk2 hI2)
  clear hk2 hI2 r1
  go_wp2
  go_ret
  exact ⟨_, rfl, by omega, r2.out.fin.1, r2.out.fin.2.sub fun k z hk => by
    rcases upd_cases hk with ⟨rfl, rfl⟩ | ⟨hne, hk⟩
    · repeat first | exact upd_same | rw [upd_ne (by omega)]
    · have hkl := hlo.out.lt hk
      repeat rw [upd_ne (by first | exact hne | ((try simp only [World.size_alloc]); omega))]
      exact hk
    ⟩
set_option maxHeartbeats 2000000 in
theorem uIsZero_any (P : Nat → Prop) (bd : Nat) (x : Int) (S : Nat → Option Int) (w : World) (hI : Ints P w S) (hx : S bd = some x) (hw : wlen x.natAbs < 800) :
    Calls Tryz.prog 139 #[.agg #[ptr bd]] w fun e w' => e = .returned (.bool (decide (x = 0))) ∧ Keep P w w' ∧ Ints P w' S := by
  have r0 := Hd.mk (Run.start hI)
  have hl := hI.lt hx
  have hlo := Hd.mk hI.low
  clear hI
  have r1 := Hd.mk (r0.out.box #[ptr bd] 76)
  clear r0
  obtain ⟨c1, c1z, c1l⟩ := r1.out.drew.cell (b := w.heap.size) updX_same
  have hz := Hd.mk (ZeroUint_any _ r1.out.drew.ok)
  have he := Hd.mk fun (Q : Nat → Prop) B S1 w1 (h : Ints Q w1 S1) (h1 : S1 bd = some x) (h2 : S1 B = some 0) => uEqual_any Q bd B x 0 S1 w1 h h1 h2 hw
  generalize decide (x = 0) = c at *
  replace hx := Hd.mk hx
  go_enter Tryz.func139, Tryz.ntmps139
  go_upto_region 1 with fail
  go_region_held3 (fun wx => wx.cell? ⟨w.heap.size, 0, none⟩ = some (ptr bd)) (first | with_reducible exact c1 | with_reducible exact c2 | with_reducible exact c3) (first
    | (go_at_call 141; refine hz.out.mono ?_; rintro e w2 ⟨B2, rfl, hn2⟩; have g2 := hn2.ge; (try simp only [World.size_alloc, World.size_drew] at g2); have r2 := Hd.mk (r1.out.drew.new_int hn2); clear hn2; obtain ⟨c2, c2z, c2l⟩ := r2.out.cell (b := w.heap.size) updX_same)
    | (go_at_call 144; refine (he.out _ B2 _ _ r2.out.ints (by rw [upd_ne (by omega)]; exact hx.out) upd_same).mono ?_; rintro e w3 ⟨rfl, hk3, hI3⟩; have r3 := Hd.mk (r2.out.op hk3 hI3); clear hk3 hI3; obtain ⟨c3, c3z, c3l⟩ := r3.out.cell (b := w.heap.size) updX_same))
  all_goals
    go_wp2
    go_ret
    exact ⟨rfl, r3.out.fin.1, r3.out.fin.2.sub fun k z hk => by
      have hkl := hlo.out.lt hk
      rw [upd_ne (by omega)]
      exact hk⟩
set_option maxHeartbeats 2000000 in
theorem uQuo_ok (P : Nat → Prop) (bx by_ : Nat) (x y z : Int) (S : Nat → Option Int) (w : World) (hI : Ints P w S) (hx : S bx = some x) (hy : S by_ = some y) (hd : DivOK x.natAbs y.natAbs) (h0 : 0 ≤ z) (hz : z.natAbs < 2 ^ 256) (hzz : x.tdiv y = z) :
    Calls Tryz.prog 145 #[.agg #[ptr bx], .agg #[ptr by_]] w fun e w' => ∃ B, e = .returned (.agg #[ptr B]) ∧ w.heap.size ≤ B ∧ Keep P w w' ∧ Ints P w' (upd S B z) := by
  have r0 := Hd.mk (Run.start hI)
  have hlx := hI.lt hx
  have hly := hI.lt hy
  have hlo := Hd.mk hI.low
  clear hI
  have r1 := Hd.mk (r0.out.box #[ptr bx] 76)
  clear r0
  have r2 := Hd.mk (r1.out.box #[ptr by_] 76)
  clear r1
  simp only [World.size_alloc] at r2
  have r3 := Hd.mk (r2.out.box #[.pointer none] 76)
  clear r2
  simp only [World.size_alloc] at r3
  have ha := cdiv_any _ bx by_ x y _ _ r3.out.ints hx hy hd
  rw [hzz] at ha
  replace ha := Hd.mk ha
  have hni := Hd.mk fun (Q : Nat → Prop) B S1 w1 (h : Ints Q w1 S1) (h1 : S1 B = some z) => NewUintBig_ok Q B z S1 w1 h h1 h0 hz
  replace hx := Hd.mk hx
  replace hy := Hd.mk hy
  replace hz := Hd.mk hz
  replace hd := Hd.mk hd
  replace hzz := Hd.mk hzz
  go_enter Tryz.func145, Tryz.ntmps145
  go_wp2_with (first
    | (go_at_call 203; refine ha.out.mono ?_; rintro e w5 ⟨B5, rfl, g5, hk5, hI5⟩; (try simp only [World.size_alloc] at g5); have r5 := Hd.mk (r3.out.op hk5 hI5); clear hk5 hI5)
    | (go_at_call 149; refine (hni.out _ B5 _ _ r5.out.ints upd_same).mono ?_; rintro e w6 ⟨B6, rfl, g6, hk6, hI6⟩; have s5 := r5.out.ilt upd_same; have r6 := Hd.mk (r5.out.op hk6 hI6); clear hk6 hI6; obtain ⟨c6, c6z, c6l⟩ := r6.out.cell (b := w.heap.size + 1 + 1) updX_same))
  have r7 := r6.out.set1 (b := w.heap.size + 1 + 1) (v := .pointer none) (v' := ptr B6) updX_same
  refine bodyPost_ret (v := .agg #[ptr B6]) (by simp [results, Tryz.results145, go_sem, c6, c6z, c6l]) rfl ⟨_, rfl, by omega, r7.fin.1, r7.fin.2.sub fun k z hk => ?_⟩
  rcases upd_cases hk with ⟨rfl, rfl⟩ | ⟨hne, hk⟩
  · repeat first | exact upd_same | rw [upd_ne (by omega)]
  · have hkl := hlo.out.lt hk
    repeat rw [upd_ne (by first | exact hne | ((try simp only [World.size_alloc]); omega))]
    exact hk
set_option maxHeartbeats 2000000 in
theorem uMod_ok (P : Nat → Prop) (bx by_ : Nat) (x y : Int) (S : Nat → Option Int) (w : World) (hI : Ints P w S) (hx : S bx = some x) (hy : S by_ = some y) (h0 : 0 ≤ x) (hy0 : y ≠ 0) (hd : DivOK x.natAbs y.natAbs) (hwy : wlen y.natAbs < 800) :
    Calls Tryz.prog 142 #[.agg #[ptr bx], .agg #[ptr by_]] w fun e w' => ∃ B, e = .returned (.agg #[ptr B]) ∧ w.heap.size ≤ B ∧ Keep P w w' ∧ Ints P w' (upd S B (x.tmod y)) := by
  have r0 := Hd.mk (Run.start hI)
  have hlx := hI.lt hx
  have hly := hI.lt hy
  have hlo := Hd.mk hI.low
  clear hI
  have r1 := Hd.mk (r0.out.box #[ptr bx] 76)
  clear r0
  have r2 := Hd.mk (r1.out.box #[ptr by_] 76)
  clear r1
  simp only [World.size_alloc] at r2
  have r3 := Hd.mk (r2.out.box #[.pointer none] 76)
  clear r2
  simp only [World.size_alloc] at r3
  have hiz := uIsZero_any _ by_ y _ _ r3.out.ints hy hwy
  rw [decide_eq_false hy0] at hiz
  replace hiz := Hd.mk hiz
  have hmo := Hd.mk fun (Q : Nat → Prop) S1 w1 (h : Ints Q w1 S1) (h1 : S1 bx = some x) (h2 : S1 by_ = some y) => cmod_pos Q bx by_ x y S1 w1 h h1 h2 h0 hd
  generalize x.tmod y = z at *
  replace hx := Hd.mk hx
  replace hy := Hd.mk hy
  replace hd := Hd.mk hd
  replace hy0 := Hd.mk hy0
  go_enter Tryz.func142, Tryz.ntmps142
  go_wp2_with (first
    | (go_at_call 139; refine hiz.out.mono ?_; rintro e w5 ⟨rfl, hk5, hI5⟩; have s5 := hk5.size; (try simp only [World.size_alloc] at s5); have r5 := Hd.mk (r3.out.op hk5 hI5); clear hk5 hI5; obtain ⟨a5, a5z, a5l⟩ := r5.out.cell (b := w.heap.size) (by rw [updX_ne (by omega), updX_ne (by omega), updX_same]); obtain ⟨b5, b5z, b5l⟩ := r5.out.cell (b := w.heap.size + 1) (by rw [updX_ne (by omega), updX_same]))
    | (go_at_call 201; refine (hmo.out _ _ _ r5.out.ints hx.out hy.out).mono ?_; rintro e w6 ⟨B6, rfl, g6, hk6, hI6⟩; have r6 := Hd.mk (r5.out.op hk6 hI6); clear hk6 hI6; obtain ⟨c6, c6z, c6l⟩ := r6.out.cell (b := w.heap.size + 1 + 1) updX_same))
  have r7 := r6.out.set1 (b := w.heap.size + 1 + 1) (v := .pointer none) (v' := ptr B6) updX_same
  refine bodyPost_ret (v := .agg #[ptr B6]) (by simp [results, Tryz.results142, go_sem, c6, c6z, c6l]) rfl ⟨_, rfl, by omega, r7.fin.1, r7.fin.2.sub fun k z hk => ?_⟩
  rcases upd_cases hk with ⟨rfl, rfl⟩ | ⟨hne, hk⟩
  · repeat first | exact upd_same | rw [upd_ne (by omega)]
  · have hkl := hlo.out.lt hk
    repeat rw [upd_ne (by first | exact hne | ((try simp only [World.size_alloc]); omega))]
    exact hk
end Go.Proofs.YtdbjdpooggaonaaGreatDoor
end

section
namespace Go.Proofs.YtdbjdpooggaonaaGreatDoor
open Go.RowKit
set_option maxRecDepth 100000
/-- Boxes of Uints (the box, the number's block, the number), and numbers. -/
structure RP (P : Nat → Prop) (w0 w : World) (X : Bxs) (S : Nat → Option Int) (L : List (Nat × Nat × Int)) (M : List (Nat × Int)) : Prop where
  run : Run P w0 w X S
  at_ : ∀ q, q ∈ L → X q.1 = some (76, [ptr q.2.1]) ∧ S q.2.1 = some q.2.2
  num : ∀ q, q ∈ M → S q.1 = some q.2
section
variable {P : Nat → Prop} {w0 w w' : World} {X : Bxs} {S : Nat → Option Int} {L L' : List (Nat × Nat × Int)} {M M' : List (Nat × Int)} {b B : Nat} {v z : Int}
theorem RP.sub (h : RP P w0 w X S L M) (hs : ∀ q, q ∈ L' → q ∈ L) (hm : ∀ q, q ∈ M' → q ∈ M) : RP P w0 w X S L' M' := ⟨h.run, fun q hq => h.at_ q (hs q hq), fun q hq => h.num q (hm q hq)⟩
theorem RP.op (h : RP P w0 w X S L M) (hk : Keep (PB P X) w w') (hI : Ints (PB P X) w' (upd S B z)) (hB : w.heap.size ≤ B) : RP P w0 w' X (upd S B z) L ((B, z) :: M) :=
  ⟨h.run.op hk hI, fun q hq => ⟨(h.at_ q hq).1, by rw [upd_ne (by have := h.run.ilt (h.at_ q hq).2; omega)]; exact (h.at_ q hq).2⟩, fun q hq => by
    rcases List.mem_cons.1 hq with e | e
    · subst e; exact upd_same
    · rw [upd_ne (by have := h.run.ilt (h.num q e); omega)]; exact h.num q e⟩
theorem RP.same (h : RP P w0 w X S L M) (hk : Keep (PB P X) w w') (hI : Ints (PB P X) w' S) : RP P w0 w' X S L M := ⟨h.run.op hk hI, h.at_, h.num⟩
theorem RP.new_int (h : RP P w0 w X S L M) (hn : NewI w w' B z) : RP P w0 w' X (upd S B z) L ((B, z) :: M) :=
  ⟨h.run.new_int hn, fun q hq => ⟨(h.at_ q hq).1, by rw [upd_ne (by have := h.run.ilt (h.at_ q hq).2; have := hn.ge; omega)]; exact (h.at_ q hq).2⟩, fun q hq => by
    rcases List.mem_cons.1 hq with e | e
    · subst e; exact upd_same
    · rw [upd_ne (by have := h.run.ilt (h.num q e); have := hn.ge; omega)]; exact h.num q e⟩
theorem RP.drew (h : RP P w0 w X S L M) : RP P w0 w.drew X S L M := ⟨h.run.drew, h.at_, h.num⟩
theorem RP.box (h : RP P w0 w X S L M) (hB : S B = some v) : RP P w0 (w.alloc (.cells #[ptr B] 76)) (updX X w.heap.size (76, [ptr B])) S ((w.heap.size, B, v) :: L) M :=
  ⟨h.run.box _ _, fun q hq => by
    rcases List.mem_cons.1 hq with e | e
    · subst e; exact ⟨updX_same, hB⟩
    · refine ⟨?_, (h.at_ q e).2⟩
      rw [updX_ne (by have := h.run.lt (h.at_ q e).1; omega)]
      exact (h.at_ q e).1, h.num⟩
theorem RP.nil (h : RP P w0 w X S L M) : RP P w0 (w.alloc (.cells #[.pointer none] 76)) (updX X w.heap.size (76, [.pointer none])) S L M :=
  ⟨h.run.box _ _, fun q hq => by
    refine ⟨?_, (h.at_ q hq).2⟩
    rw [updX_ne (by have := h.run.lt (h.at_ q hq).1; omega)]
    exact (h.at_ q hq).1, h.num⟩
theorem RP.set {p : Value} (h : RP P w0 w X S L M) (hb : X b = some (76, [p])) (hB : S B = some v) (hL : ∀ q, q ∈ L' → q = (b, B, v) ∨ (q ∈ L ∧ q.1 ≠ b)) : RP P w0 (w.setCell ⟨b, 0, none⟩ (ptr B)) (updX X b (76, [ptr B])) S L' M :=
  ⟨h.run.set1 (b := b) (v := p) (v' := ptr B) hb, fun q hq => by
    rcases hL q hq with e | ⟨e, hne⟩
    · subst e; exact ⟨updX_same, hB⟩
    · rw [updX_ne hne]; exact h.at_ q e, h.num⟩
theorem RP.cellK {q : Nat × Nat × Int} {R : Prop} (h : RP P w0 w X S L M) (hq : q ∈ L) (k : w.cell? ⟨q.1, 0, none⟩ = some (ptr q.2.1) → w.frozen? ⟨q.1, 0, none⟩ = false → q.1 < w.heap.size → R) : R :=
  have hc := h.run.cell (h.at_ q hq).1
  k hc.1 hc.2.1 hc.2.2
theorem RP.at1 {q : Nat × Nat × Int} (h : RP P w0 w X S L M) (hq : q ∈ L) : X q.1 = some (76, [ptr q.2.1]) := (h.at_ q hq).1
theorem RP.at2 {q : Nat × Nat × Int} (h : RP P w0 w X S L M) (hq : q ∈ L) : S q.2.1 = some q.2.2 := (h.at_ q hq).2
theorem RPEx {X' : Bxs} {S' : Nat → Option Int} {R : Bxs → (Nat → Option Int) → Prop} (h : RP P w0 w X' S' L M) (k : R X' S') : ∃ X S, Hd (RP P w0 w X S L M) ∧ R X S := ⟨X', S', ⟨h⟩, k⟩
end
/-- The plain law of a round: squares, and products with them, are divided by the factor, and rounded. -/
theorem rp_div (m : Int) (h : 0 ≤ m) : (m * E18 * E18 + 500000000000000000).tdiv E18 = m * E18 := by
  rw [show m * E18 * E18 = m * 1000000000000000000 * 1000000000000000000 from rfl, show m * E18 = m * 1000000000000000000 from rfl, show E18 = 1000000000000000000 from rfl, Int.tdiv_eq_ediv_of_nonneg (by omega)]
  omega
theorem rp_half : (E18 : Int).tdiv 2 = 500000000000000000 := by decide
theorem rp_ok18 {x : Int} (h : wlen x.natAbs < 800) : DivOK x.natAbs (E18 : Int).natAbs := divOK18 h
theorem rp_ok2 {x : Int} (h : wlen x.natAbs < 800) : DivOK x.natAbs (2 : Int).natAbs := ⟨by decide, h, .inl (wlen_one (by decide) (by decide))⟩
/-- The loop: the power that is left. -/
theorem rp_odd (a c n : Nat) (h : n % 2 = 1) : c * (a * a) * ((a * a) * (a * a)) ^ (n / 2) = c * (a * a) ^ n := by
  rw [show (a * a) * (a * a) = (a * a) ^ 2 from (Nat.pow_two _).symm, ← Nat.pow_mul, Nat.mul_assoc, ← Nat.pow_succ', show (2 * (n / 2)).succ = n by omega]
theorem rp_even (a c n : Nat) (h : ¬ n % 2 = 1) : c * ((a * a) * (a * a)) ^ (n / 2) = c * (a * a) ^ n := by
  rw [show (a * a) * (a * a) = (a * a) ^ 2 from (Nat.pow_two _).symm, ← Nat.pow_mul, show 2 * (n / 2) = n by omega]
theorem rp_start (k n : Nat) : (if n % 2 = 1 then k else 1) * (k * k) ^ (n / 2) = k ^ n := by
  rw [← Nat.pow_two, ← Nat.pow_mul]
  split
  · rw [← Nat.pow_succ', show (2 * (n / 2)).succ = n by omega]
  · rw [Nat.one_mul, show 2 * (n / 2) = n by omega]
end Go.Proofs.YtdbjdpooggaonaaGreatDoor
end
