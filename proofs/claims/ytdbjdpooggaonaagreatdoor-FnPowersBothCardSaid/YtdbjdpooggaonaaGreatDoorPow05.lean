/- FnPowersBoth: the walk. Conditions: those that each theorem states. -/
import Derived.Test.YtdbjdpooggaonaaGreatDoorPow01
import Derived.Test.YtdbjdpooggaonaaGreatDoorPow03
import Derived.Test.YtdbjdpooggaonaaGreatDoorJoin02
import Derived.Test.YtdbjdpooggaonaaGreatDoorJoin03
import Derived.Test.YtdbjdpooggaonaaGreatDoorPow04
import Derived.Test.YtdbjdpooggaonaaGreatDoorBase28
set_option linter.all false

namespace Go.Proofs.YtdbjdpooggaonaaGreatDoor
open Go.RowKit
set_option maxRecDepth 100000
/-- The boxes of impl.DecPower. -/
abbrev powV (w : World) (a : ByteArray) (n : Int) (m : Bool) : World := ((((w.alloc (.cells #[.string a] 9)).alloc (.cells #[.int .u64 n] 41)).alloc (.cells #[.bool m] 4)).alloc (.cells #[.string (ByteArray.mk #[])] 9))
theorem powV_size (w : World) (a : ByteArray) (n : Int) (m : Bool) : (powV w a n m).heap.size = w.heap.size + 4 := by simp only [World.size_alloc]
theorem powV_below (w : World) (a : ByteArray) (n : Int) (m : Bool) : Below w.heap.size w (powV w a n m) :=
  (((((Below.refl _ _).alloc (Nat.le_refl _) _).alloc (by simp only [World.size_alloc]; omega) _).alloc (by simp only [World.size_alloc]; omega) _).alloc (by simp only [World.size_alloc]; omega) _)
theorem powV_blk (w : World) (a : ByteArray) (n : Int) (m : Bool) : Blk (powV w a n m) w.heap.size 9 [.string a] ∧ Blk (powV w a n m) (w.heap.size + 1) 41 [.int .u64 n] ∧ Blk (powV w a n m) (w.heap.size + 2) 4 [.bool m] ∧ Blk (powV w a n m) (w.heap.size + 3) 9 [.string (ByteArray.mk #[])] := by
  have h1 := Blk.new w #[.string a] 9
  have h2 := Blk.new (w.alloc (.cells #[.string a] 9)) #[.int .u64 n] 41
  have h3 := Blk.new ((w.alloc (.cells #[.string a] 9)).alloc (.cells #[.int .u64 n] 41)) #[.bool m] 4
  have h4 := Blk.new (((w.alloc (.cells #[.string a] 9)).alloc (.cells #[.int .u64 n] 41)).alloc (.cells #[.bool m] 4)) #[.string (ByteArray.mk #[])] 9
  simp only [World.size_alloc] at h1 h2 h3 h4
  exact ⟨(((h1.alloc _).alloc _).alloc _), ((h2.alloc _).alloc _), (h3.alloc _), h4⟩
set_option maxHeartbeats 2000000 in
theorem powV_ok (a : ByteArray) (n : Int) (m : Bool) (z : ByteArray) (w : World) (hok : Ok w) (her : Er w) (hcl : powCl a n m fun e w' bu => e = .returned (.tuple #[]) ∧ Blk w' bu 9 [.string z]) :
    Calls Tryz.prog 17 #[.string a, .int .u64 n, .bool m] w fun e w' => e = .returned (.tuple #[.string z, .bool true]) ∧ Below w.heap.size w w' := by
  obtain ⟨h1, h2, h3, h4⟩ := powV_blk w a n m
  have hb1 := powV_below w a n m
  have hs1 := powV_size w a n m
  have h100 := hok.2
  generalize hW : powV w a n m = w1 at *
  have hb2 : Below w1.heap.size w1 (okW w1) := (Below.refl _ _).alloc (Nat.le_refl _) _
  have hb3 := hb1.trans (hb2.mono hb1.size)
  have hs2 : (okW w1).heap.size = w1.heap.size + 1 := World.size_alloc _ _
  have hc := hcl w.heap.size (w.heap.size + 1) (w.heap.size + 2) (w.heap.size + 3) (okW w1) (hok.below hb3) (her.below hb3) (h1.alloc _) (h2.alloc _) (h3.alloc _) (h4.alloc _) (by omega) (by omega)
  have hsf := Hd.mk (safe_ok 50 _ w1 (fun w2 => Keep (fun k => k < (okW w1).heap.size ∧ k ≠ (w.heap.size + 3)) (okW w1) w2 ∧ Blk w2 (w.heap.size + 3) 9 [.string z]) (enters Tryz.func50 (by kernel_rfl) (by kernel_rfl)) (hc.mono fun e w2 ⟨q1, q2, q3⟩ => ⟨q2, q1.block _ ⟨by omega, by omega⟩ (by omega), q1, q3⟩))
  have hfin : Hd (∀ w2 w3, Keep (fun k => k < (okW w1).heap.size ∧ k ≠ (w.heap.size + 3)) (okW w1) w2 → Put w2 w3 w1.heap.size 4 [.bool true] → Below w.heap.size w w3) := ⟨fun w2 w3 q1 q2 => q2.bel (hb3.trans ⟨q1.os, q1.tape, q1.output, q1.size, fun k hk => q1.block k ⟨Nat.lt_of_lt_of_le hk hb3.size, by omega⟩ (Nat.lt_of_lt_of_le hk hb3.size)⟩) hb1.size⟩
  have hmf : ∀ (fn : Fn) (first cap : Array Value) (w : World), (Instr.makeFunc fn first cap).run Tryz.prog w = .ok (.func fn first cap) w := fun _ _ _ _ => rfl
  have hne : w.heap.size + 3 ≠ w1.heap.size := by omega
  clear hcl hc h1 h2 h3 h4 hb1 hb2 hb3 hok her
  go_enter Tryz.func17, Tryz.ntmps17
  go_wp2_with fail
  refine hsf.out.mono ?_
  rintro e w3 ⟨rfl, w2, ⟨hc2, hu2⟩, hp3⟩
  have hb3 := Hd.mk (hfin.out w2 w3 hc2 hp3)
  have hu3 := hp3.blk hu2 hne
  have cu : w3.cell? ⟨w.heap.size + 1 + 1 + 1, 0, none⟩ = some (.string z) := hu3.cell 0
  have zu : w3.frozen? ⟨w.heap.size + 1 + 1 + 1, 0, none⟩ = false := hu3.frozen 0
  have lu : w.heap.size + 1 + 1 + 1 < w3.heap.size := hu3.lt
  clear hu3 hu2 hc2 hp3 hsf hfin
  go_wp2
  refine bodyPost_ret (v := .tuple #[.string z, .bool true]) (by simp [results, Tryz.results17, go_sem, cu, zu, lu]) rfl ⟨rfl, ?_⟩
  (repeat first | exact hb3.out | refine Below.setCell ?_ (by dsimp only; omega) _)
theorem DecPowerW_ok (n : Nat) (x z : Int) (w : World) (hok : Ok w) (her : Er w) (hx : inR x = true) (hn : n < 18446744073709551616) (hres : pwD n x = some z) (hz : inR z = true) :
    Calls Tryz.prog 17 #[.string (zT x), .int .u64 (n : Int), .bool false] w fun e w' => e = .returned (.tuple #[.string (zT z), .bool true]) ∧ Below w.heap.size w w' :=
  powV_ok (zT x) (n : Int) false (zT z) w hok her (powK_Power_ok n x hx z hz (powC_new hx hn hres))
theorem u16_lo {n : Int} (h : (Lit.int .u16 n).wf = true) : 0 ≤ n := by
  simp only [Lit.wf, Bool.and_eq_true, decide_eq_true_eq] at h
  exact h.1
theorem u16_hi {n : Int} (h : (Lit.int .u16 n).wf = true) : n < 65536 := by
  simp only [Lit.wf, Bool.and_eq_true, decide_eq_true_eq] at h
  have h2 : n ≤ 65535 := h.2
  omega
theorem cmp_geqN (a M : Nat) : decide (0 ≤ cmpI (a : Int) (M : Int)) = decide (M ≤ a) := by
  unfold cmpI
  split
  · rw [decide_eq_false (by omega), decide_eq_false (by omega)]
  · split
    · rw [decide_eq_true (by omega), decide_eq_true (by omega)]
    · rw [decide_eq_true (by omega), decide_eq_true (by omega)]
theorem SR.drewM {w wr : World} {C : Nat → Option (List Value)} {N : List (Value × Int)} (h : SR w wr C N) (n : Nat) : SR w (wr.drewN n) C N := h.op (below_drewN wr n)
set_option maxHeartbeats 16000000 in
theorem powers_walk (a b : Int) (w : World) (hok : Ok w) (her : Er w) (h0 : 0 ≤ a) (h1 : a < 65536) (h2 : 0 ≤ b) (h3 : b < 256) :
    Calls Tryz.prog 4 #[.int .u16 a, .int .u8 b] w fun e w' => e = .returned (.bool true) ∧ Below w.heap.size w w' := by
  obtain ⟨k, rfl⟩ := Int.eq_ofNat_of_zero_le h0
  obtain ⟨p, rfl⟩ := Int.eq_ofNat_of_zero_le h2
  have hk : k < 2 ^ 16 := by omega
  have hp : p < 256 := by omega
  have hq : p % 16 < 16 := Nat.mod_lt _ (by decide)
  have hN240 := pw16 hk hq
  have hm16 : (p : Int).tmod 16 = ((p % 16 : Nat) : Int) := rfl
  have hof := Hd.mk fun w1 => nv (of_nat k w1 (by omega))
  have hal := Hd.mk joinAwake_any
  have htw := Hd.mk fun w1 => nv (two_any 130 w1 (by omega))
  obtain ⟨N, hN⟩ : ∃ N, k ^ (p % 16) = N := ⟨_, rfl⟩
  rw [hN] at hN240
  have hpo := Hd.mk fun w1 v1 (h : NumV w1 v1 (k : Int)) => npow_any k (p % 16) N hN hk hq v1 w1 h
  have hNa : ((N : Int)).natAbs < 2 ^ 256 := by rw [Int.natAbs_natCast]; exact Nat.lt_trans hN240 (by decide)
  have hwl := pow2_wl (n := 130) (by omega)
  have hcN := Hd.mk fun w1 v1 v2 (h1 : NumV w1 v1 (N : Int)) (h2 : NumV w1 v2 (2 ^ 130)) => ncmpI_any v1 v2 _ _ w1 h1 h2 (by have := i256_wl hNa; omega) (by omega)
  have hgN := cmp_geqN N (2 ^ 130)
  rw [show ((2 ^ 130 : Nat) : Int) = (2 : Int) ^ 130 by rw [Int.natCast_pow]; rfl] at hgN
  generalize cmpI (N : Int) (2 ^ 130) = cn at *
  clear hwl
  replace hNa := Hd.mk hNa
  replace hN := Hd.mk hN
  replace hN240 := Hd.mk hN240
  go_enter Tryz.func4, Tryz.ntmps4
  go_upto_region 2 with (go_at_call 13; refine (hof.out _).mono ?_; rintro e w2 ⟨b2, A2, n2, c2, rfl, hn2, hb2⟩; have r2 := Hd.mk ((((SR.start w [] (fun p hp => by cases hp)).op hb2).add hn2).box2 (b0 := b2) (A := A2) (m := n2) (c := c2)); clear hb2 hn2)
  have hC : Hd (updC (fun _ => none) w2.heap.size [.bool b2, .slice A2 n2 c2] w2.heap.size = some [.bool b2, .slice A2 n2 c2]) := ⟨updC_same⟩
  have hlt3 : w2.heap.size < (w2.alloc (.cells #[.bool b2, .slice A2 n2 c2] 24)).heap.size := by rw [World.size_alloc]; omega
  generalize updC (fun _ => none) w2.heap.size [.bool b2, .slice A2 n2 c2] = C at *
  generalize w2.alloc (.cells #[.bool b2, .slice A2 n2 c2] 24) = w3 at *
  refine SR.cellK r2.out hC.out ?_
  intro f0 f1 fz fy fl
  go_upto_region 3 with (go_at_call 14; refine (hpo.out _ _ r2.out.v0).mono ?_; rintro e w4 ⟨b4, A4, n4, c4, rfl, hn4, hb4⟩; have s4 := hb4.size; have r4 := Hd.mk (((r2.out.op hb4).add hn4).box2 (b0 := b4) (A := A4) (m := n4) (c := c4)); clear hb4 hn4)
  have hD : Hd (updC C w4.heap.size [.bool b4, .slice A4 n4 c4] w4.heap.size = some [.bool b4, .slice A4 n4 c4]) := ⟨updC_same⟩
  have hC4 : Hd (updC C w4.heap.size [.bool b4, .slice A4 n4 c4] w2.heap.size = some [.bool b2, .slice A2 n2 c2]) := ⟨by rw [updC_off (by omega)]; exact hC.out⟩
  generalize updC C w4.heap.size [.bool b4, .slice A4 n4 c4] = C4 at *
  generalize w4.alloc (.cells #[.bool b4, .slice A4 n4 c4] 24) = w5 at *
  clear f0 f1 fz fy fl hC r2
  refine SR.cellK r4.out hC4.out ?_
  intro f0 f1 fz fy fl
  refine SR.cellK r4.out hD.out ?_
  intro g0 g1 gz gy gl
  by_cases hk0 : k = 0
  · have e1 : ((k : Int) == 0) = true := by simp; omega
    go_quiet (fail)
    go_wp2_with (go_at_call 9; refine (hal.out _ (hok.below (r4.out.drewM _).bel) (her.below (r4.out.drewM _).bel)).mono ?_; rintro e w9 ⟨rfl, hb9⟩; have r9 := Hd.mk ((r4.out.drewM _).op hb9); clear hb9)
    go_ret
    exact ⟨rfl, r9.out.bel⟩
  have e1 : ((k : Int) == 0) = false := by simp; omega
  by_cases hk1 : 1000 < k
  · have e2 : decide ((1000 : Int) < (k : Int)) = true := decide_eq_true (by omega)
    go_quiet (fail)
    go_wp2_with (go_at_call 9; refine (hal.out _ (hok.below (r4.out.drewM _).bel) (her.below (r4.out.drewM _).bel)).mono ?_; rintro e w9 ⟨rfl, hb9⟩; have r9 := Hd.mk ((r4.out.drewM _).op hb9); clear hb9)
    go_ret
    exact ⟨rfl, r9.out.bel⟩
  have e2 : decide ((1000 : Int) < (k : Int)) = false := decide_eq_false (by omega)
  by_cases hp1 : 15 < p
  · have e3 : decide ((15 : Int) < (p : Int)) = true := decide_eq_true (by omega)
    go_quiet (fail)
    go_wp2_with (go_at_call 9; refine (hal.out _ (hok.below (r4.out.drewM _).bel) (her.below (r4.out.drewM _).bel)).mono ?_; rintro e w9 ⟨rfl, hb9⟩; have r9 := Hd.mk ((r4.out.drewM _).op hb9); clear hb9)
    go_ret
    exact ⟨rfl, r9.out.bel⟩
  have e3 : decide ((15 : Int) < (p : Int)) = false := decide_eq_false (by omega)
  by_cases hNl : 2 ^ 130 ≤ N
  · rw [decide_eq_true hNl] at hgN
    replace hNl := Hd.mk hNl
    generalize (2 : Int) ^ 130 = L at *
    have s5 : w5.drew.cell? ⟨w4.heap.size, 0, none⟩ = some (.bool b4) ∧ w5.drew.cell? ⟨w4.heap.size, 1, none⟩ = some (.slice A4 n4 c4) := ⟨g0, g1⟩
    go_region_held3 (fun wx => wx.cell? ⟨w4.heap.size, 0, none⟩ = some (.bool b4) ∧ wx.cell? ⟨w4.heap.size, 1, none⟩ = some (.slice A4 n4 c4)) (first | with_reducible exact s5 | with_reducible exact s6 | with_reducible exact s7) (first
      | (go_at_call 16; refine (htw.out _).mono ?_; rintro e w6 ⟨b6, A6, m6, c6, rfl, hn6, hb6⟩; have r6 := Hd.mk ((r4.out.drew.op hb6).add hn6); clear hb6 hn6; have s6 : w6.cell? ⟨w4.heap.size, 0, none⟩ = some (.bool b4) ∧ w6.cell? ⟨w4.heap.size, 1, none⟩ = some (.slice A4 n4 c4) := ⟨(r6.out.blk _ _ hD.out).2.cell 0, (r6.out.blk _ _ hD.out).2.cell 1⟩)
      | (go_at_call 15; refine (hcN.out _ _ _ r6.out.v1 r6.out.v0).mono ?_; rintro e w7 ⟨rfl, hb7⟩; have r7 := Hd.mk (r6.out.op hb7); clear hb7; have s7 : w7.cell? ⟨w4.heap.size, 0, none⟩ = some (.bool b4) ∧ w7.cell? ⟨w4.heap.size, 1, none⟩ = some (.slice A4 n4 c4) := ⟨(r7.out.blk _ _ hD.out).2.cell 0, (r7.out.blk _ _ hD.out).2.cell 1⟩))
    all_goals
      go_wp2_with (go_at_call 9; refine (hal.out _ (hok.below r7.out.bel) (her.below r7.out.bel)).mono ?_; rintro e w9 ⟨rfl, hb9⟩; have r9 := Hd.mk (r7.out.op hb9); clear hb9)
      go_ret
      exact ⟨rfl, r9.out.bel⟩
  · rw [decide_eq_false hNl] at hgN
    have hN130 : N < 2 ^ 130 := Nat.lt_of_not_le hNl
    clear hNl
    have hNp := hN.out
    rw [show p % 16 = p by omega] at hNp
    have hk1' : 1 ≤ k := by omega
    have hka : ((k : Int)).natAbs < 2 ^ 256 := by rw [Int.natAbs_natCast]; exact Nat.lt_trans hk (by decide)
    have hpa : ((p : Int)).natAbs < 2 ^ 256 := by rw [Int.natAbs_natCast]; exact Nat.lt_trans hp (by decide)
    have hdp := Hd.mk fun w1 q1 q2 => DecPowerW_ok p ((k : Int) * E18) ((N : Int) * E18) w1 q1 q2 (inR_whole hka) (by omega) (by rw [pwD_whole p k hk1' (by rw [hNp]; exact Nat.lt_trans hN130 (by decide)), hNp]) (inR_whole hNa.out)
    have hup := Hd.mk fun w1 q1 q2 => UintPow_ok k p N hNp hk1' (by omega) (by unfold BB; omega) hN130 w1 q1 q2
    have hle : ∀ j, j ≤ p → k ^ j < 2 ^ 256 := fun j hj => Nat.lt_of_le_of_lt (Nat.pow_le_pow_right hk1' hj) (by rw [hNp]; exact Nat.lt_trans hN130 (by decide))
    have hio0 := Hd.mk fun j (hj : j < p) w1 q1 q2 => IntDo_ok 2 (by omega) ((k ^ j : Nat) : Int) (k : Int) ((k ^ (j + 1) : Nat) : Int) w1 q1 q2 (by rw [Int.natAbs_natCast]; exact hle j (by omega)) hka (by rw [Int.natAbs_natCast]; exact hle (j + 1) (by omega)) (by rw [Nat.pow_succ, Int.natCast_mul]; rfl)
    have hdx := Hd.mk fun w1 v1 (h : NumV w1 v1 (k : Int)) => decOf_any v1 _ w1 h hka
    have hdN := Hd.mk fun w1 v1 (h : NumV w1 v1 (N : Int)) => decOf_any v1 _ w1 h hNa.out
    have htk := Hd.mk fun w1 v1 (h : NumV w1 v1 (k : Int)) => text_any v1 _ w1 h (by have := i256_wl hka; omega)
    have htp := Hd.mk fun w1 v1 (h : NumV w1 v1 (p : Int)) => text_any v1 _ w1 h (by have := i256_wl hpa; omega)
    have htN := Hd.mk fun w1 v1 (h : NumV w1 v1 (N : Int)) => text_any v1 _ w1 h (by have := i256_wl hNa.out; omega)
    have ht18 := Hd.mk fun w1 v1 (h : NumV w1 v1 E18) => text_any v1 _ w1 h (by have := i256_wl (x := E18) (by decide); omega)
    have hofp := Hd.mk fun w1 => nv (of_nat p w1 (by omega))
    have hte := Hd.mk fun w1 => nv (x := E18) (ten_any 18 w1 (by omega))
    clear hle
    replace hNp := Hd.mk hNp
    replace hN130 := Hd.mk hN130
    replace hka := Hd.mk hka
    obtain ⟨zp, hzp⟩ : ∃ zp : Nat → ByteArray, ∀ j, zT ((k ^ j : Nat) : Int) = zp j := ⟨_, fun _ => rfl⟩
    have hio := Hd.mk fun j (hj : j < p) w1 q1 q2 => (hzp (j + 1)) ▸ (hzp j) ▸ hio0.out j hj w1 q1 q2
    clear hio0
    replace hzp := Hd.mk hzp
    generalize (2 : Int) ^ 130 = L at *
    generalize zT ((k : Int) * E18) = tk at *
    generalize zT ((N : Int) * E18) = tN at *
    generalize hsk : zT (k : Int) = sk at *
    generalize hsN : zT (N : Int) = sN at *
    generalize zT (p : Int) = sp at *
    generalize zT E18 = s18 at *
    replace hsk := Hd.mk hsk
    replace hsN := Hd.mk hsN
    have s5 : w5.drew.cell? ⟨w4.heap.size, 0, none⟩ = some (.bool b4) ∧ w5.drew.cell? ⟨w4.heap.size, 1, none⟩ = some (.slice A4 n4 c4) := ⟨g0, g1⟩
    go_region_held3 (fun wx => wx.cell? ⟨w4.heap.size, 0, none⟩ = some (.bool b4) ∧ wx.cell? ⟨w4.heap.size, 1, none⟩ = some (.slice A4 n4 c4)) (first | with_reducible exact s5 | with_reducible exact s6 | with_reducible exact s7) (first
      | (go_at_call 16; refine (htw.out _).mono ?_; rintro e w6 ⟨b6, A6, m6, c6, rfl, hn6, hb6⟩; have r6 := Hd.mk ((r4.out.drew.op hb6).add hn6); clear hb6 hn6; have s6 : w6.cell? ⟨w4.heap.size, 0, none⟩ = some (.bool b4) ∧ w6.cell? ⟨w4.heap.size, 1, none⟩ = some (.slice A4 n4 c4) := ⟨(r6.out.blk _ _ hD.out).2.cell 0, (r6.out.blk _ _ hD.out).2.cell 1⟩)
      | (go_at_call 15; refine (hcN.out _ _ _ r6.out.v1 r6.out.v0).mono ?_; rintro e w7 ⟨rfl, hb7⟩; have r7 := Hd.mk (r6.out.op hb7); clear hb7; have s7 : w7.cell? ⟨w4.heap.size, 0, none⟩ = some (.bool b4) ∧ w7.cell? ⟨w4.heap.size, 1, none⟩ = some (.slice A4 n4 c4) := ⟨(r7.out.blk _ _ hD.out).2.cell 0, (r7.out.blk _ _ hD.out).2.cell 1⟩))
    all_goals
      have r8 : Hd (SR w w7 C4 [(.agg #[.bool b4, .slice A4 n4 c4], (N : Int)), (.agg #[.bool b2, .slice A2 n2 c2], (k : Int))]) := ⟨⟨r7.out.bel, r7.out.blk, fun q hq => r7.out.num q (.tail _ hq)⟩⟩
      clear r6 r7 s5 s6 s7 f0 f1 fz fy fl g0 g1 gz gy gl
      refine SR.cellK r8.out hC4.out ?_; intro f0 f1 fz fy fl
      go_upto_region 6 with (first
        | (go_at_call 12; refine (hdx.out _ _ r8.out.v1).mono ?_; rintro e w9 ⟨rfl, hb9⟩; have r9 := Hd.mk (r8.out.op hb9); clear hb9)
        | (go_at_call 17; refine (hdp.out _ (hok.below r9.out.bel) (her.below r9.out.bel)).mono ?_; rintro e w10 ⟨rfl, hb10⟩; have r10 := Hd.mk (r9.out.op hb10); clear hb10))
      refine SR.cellK r10.out hC4.out ?_; intro g0 g1 gz gy gl
      go_wp2_with (first
        | (go_at_call 12; refine (hdx.out _ _ r10.out.v1).mono ?_; rintro e w11 ⟨rfl, hb11⟩; have r11 := Hd.mk (r10.out.op hb11); clear hb11)
        | (go_at_call 13; refine (hofp.out _).mono ?_; rintro e w12 ⟨b12, A12, m12, c12, rfl, hn12, hb12⟩; have r12 := Hd.mk ((r11.out.op hb12).add hn12); clear hb12 hn12)
        | (go_at_call 19; (with_reducible show Calls _ _ #[Value.agg #[Value.bool b12, Value.slice A12 m12 c12]] _ _); refine (htp.out _ _ r12.out.v0).mono ?_; rintro e w13 ⟨rfl, hb13⟩; have r13 := Hd.mk (r12.out.op hb13); clear hb13)
        | (go_at_call 20; refine (hte.out _).mono ?_; rintro e w14 ⟨b14, A14, m14, c14, rfl, hn14, hb14⟩; have r14 := Hd.mk ((r13.out.op hb14).add hn14); clear hb14 hn14)
        | (go_at_call 19; (with_reducible show Calls _ _ #[Value.agg #[Value.bool b14, Value.slice A14 m14 c14]] _ _); refine (ht18.out _ _ r14.out.v0).mono ?_; rintro e w15 ⟨rfl, hb15⟩; have r15 := Hd.mk (r14.out.op hb15); clear hb15)
        | (go_at_call 18; refine (hup.out _ (hok.below r15.out.bel) (her.below r15.out.bel)).mono ?_; rintro e w16 ⟨rfl, hb16⟩; have r16 := Hd.mk (r15.out.op hb16); clear hb16))
      have r17 : Hd (SR w w16 C4 [(.agg #[.bool b4, .slice A4 n4 c4], (N : Int)), (.agg #[.bool b2, .slice A2 n2 c2], (k : Int))]) := ⟨⟨r16.out.bel, r16.out.blk, fun q hq => r16.out.num q (.tail _ (.tail _ hq))⟩⟩
      clear r8 r9 r10 r11 r12 r13 r14 r15 r16 f0 f1 fz fy fl g0 g1 gz gy gl
      have hz0 : zp 0 = ByteArray.mk #[49] := by rw [← hzp.out 0, Nat.pow_zero]; exact z1
      have hzq : zp p = sN := by rw [← hzp.out p, hNp.out, hsN.out]
      replace hz0 := Hd.mk hz0
      replace hzq := Hd.mk hzq
      go_loopw [11, 12, 13] (fun s o i wr => ∃ j : Nat, j ≤ p ∧ s = .string (zp j) ∧ o = .bool true ∧ i = .int .i64 (j : Int) ∧ Hd (SR w wr C4 [(.agg #[.bool b4, .slice A4 n4 c4], (N : Int)), (.agg #[.bool b2, .slice A2 n2 c2], (k : Int))])) (fun _ _ i _ => p - (intOf i).toNat)
      case atStart => exact ⟨0, Nat.zero_le _, by rw [hz0.out], rfl, rfl, r17⟩
      case round =>
        clear r17
        obtain ⟨j, hj, rfl, rfl, rfl, r20⟩ := hrel
        by_cases hlt : j < p
        · have d1 : decide ((j : Int) < (p : Int)) = true := decide_eq_true (by omega)
          refine SR.cellK r20.out hC4.out ?_; intro f0 f1 fz fy fl
          go_wp2_with (first
            | (go_at_call 19; refine (htk.out _ _ r20.out.v1).mono ?_; rintro e w21 ⟨rfl, hb21⟩; have r21 := Hd.mk (r20.out.op hb21); clear hb21)
            | (go_at_call 21; refine (hio.out j hlt _ (hok.below r21.out.bel) (her.below r21.out.bel)).mono ?_; rintro e w22 ⟨rfl, hb22⟩; have r22 := Hd.mk (r21.out.op hb22); clear hb22))
          go_roundw
          case rel => exact ⟨j + 1, hlt, rfl, rfl, by first | rfl | (congr 1; omega), r22⟩
          case measure => simp [intOf]; omega
        · have hjp : j = p := by omega
          subst hjp
          have d1 : decide ((j : Int) < (j : Int)) = false := decide_eq_false (by omega)
          rw [hzq.out]
          refine SR.cellK r20.out hD.out ?_; intro f0 f1 fz fy fl
          go_wp2_with (first
            | (go_at_call 9; refine (hal.out _ (hok.below r20.out.bel) (her.below r20.out.bel)).mono ?_; rintro e w23 ⟨rfl, hb23⟩; have r23 := Hd.mk (r20.out.op hb23); clear hb23; refine SR.cellK r23.out hD.out ?_; intro k0 k1 kz ky kl)
            | (go_at_call 12; refine (hdN.out _ _ r23.out.v0).mono ?_; rintro e w25 ⟨rfl, hb25⟩; have r25 := Hd.mk (r23.out.op hb25); clear hb25; refine SR.cellK r25.out hD.out ?_; intro m0 m1 mz my ml)
            | (go_at_call 19; refine (htN.out _ _ r25.out.v0).mono ?_; rintro e w24 ⟨rfl, hb24⟩; have r24 := Hd.mk (r25.out.op hb24); clear hb24))
          go_ret
          exact ⟨by simp, r24.out.bel⟩
end Go.Proofs.YtdbjdpooggaonaaGreatDoor
