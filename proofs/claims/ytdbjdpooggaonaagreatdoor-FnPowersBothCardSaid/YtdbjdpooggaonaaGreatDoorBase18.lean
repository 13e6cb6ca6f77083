/- The reference's numbers: Abs, Cmp, Add, Sub. The reference's numbers: made of words; powers of ten; Sub. The reference's numbers: Sub. Products of digits by columns, and quotients digit by digit: the plain law at base ten. Conditions: those that each theorem states. -/
import Derived.Test.YtdbjdpooggaonaaGreatDoorBase17
import Derived.Test.YtdbjdpooggaonaaGreatDoorBase12
import Derived.Laws.OwnMore
set_option linter.all false

section
namespace Go.Proofs.YtdbjdpooggaonaaGreatDoor
open Go.RowKit
set_option maxRecDepth 100000
theorem nabs_any (v : Value) (x : Int) (w : World) (hx : NumV w v x) : Calls Tryz.prog 28 #[v] w fun e w' => ∃ v, e = .returned v ∧ NumV w' v (x.natAbs : Int) ∧ Below w.heap.size w w' := by
  obtain ⟨A, cap, rfl, hd⟩ := hx.open
  have hfin : Hd (∀ w', Below w.heap.size w w' → NumV w' (.agg #[.bool false, .slice A (T.wlen x.natAbs) cap]) (x.natAbs : Int)) := ⟨fun w' hb => ⟨_, by rw [show decide ((x.natAbs : Int) < 0) = false by simp], by rw [Int.natAbs_natCast]; exact hd.below hb⟩⟩
  generalize T.wlen x.natAbs = m at *
  replace hd := Hd.mk hd
  replace hx := Hd.mk hx
  go_enter Tryz.func28, Tryz.ntmps28
  go_wp2
  refine bodyPost_ret (v := .agg #[.bool false, .slice A m cap]) (by simp [results, Tryz.results28, go_sem]) rfl ⟨_, rfl, hfin.out _ ?_, ?_⟩
  all_goals exact ((Below.refl _ _).alloc (Nat.le_refl _) _).alloc (by rw [World.size_alloc]; omega) _
set_option maxHeartbeats 1000000 in
theorem ncmpI_any (v u : Value) (x y : Int) (w : World) (hx : NumV w v x) (hy : NumV w u y) (hlx : T.wlen x.natAbs < 1000) (hly : T.wlen y.natAbs < 1000) :
    Calls Tryz.prog 15 #[v, u] w fun e w' => e = .returned (.int .i64 (cmpI x y)) ∧ Below w.heap.size w w' := by
  obtain ⟨A, ca, rfl, hd⟩ := hx.open
  obtain ⟨B, cb', rfl, he⟩ := hy.open
  have hb0 : ∀ o o', Below w.heap.size w ((w.alloc o).alloc o') := fun o o' => ((Below.refl _ _).alloc (Nat.le_refl _) _).alloc (by rw [World.size_alloc]; omega) _
  have hc1 := Hd.mk fun w1 (hb : Below w.heap.size w w1) => compare_any _ _ x.natAbs y.natAbs w1 (hd.below hb) (he.below hb) hlx
  have hc2 := Hd.mk fun w1 (hb : Below w.heap.size w w1) => compare_any _ _ y.natAbs x.natAbs w1 (he.below hb) (hd.below hb) hly
  replace hd := Hd.mk hd
  replace he := Hd.mk he
  replace hx := Hd.mk hx
  replace hy := Hd.mk hy
  by_cases h1 : x < 0 <;> by_cases h2 : y < 0
  all_goals
    first | rw [decide_eq_true h1] | rw [decide_eq_false h1]
    first | rw [decide_eq_true h2] | rw [decide_eq_false h2]
  · have hres : cmpI x y = cmpN y.natAbs x.natAbs := by unfold cmpI cmpN; split <;> (split <;> (try split) <;> omega)
    rw [hres]
    generalize cmpN y.natAbs x.natAbs = r at *
    replace hres := Hd.mk hres
    replace hb0 := Hd.mk hb0
    go_enter Tryz.func15, Tryz.ntmps15
    go_wp2_with (go_at_call 49; refine (hc2.out _ (hb0.out _ _)).mono ?_; rintro e w2 ⟨rfl, q, rfl⟩)
    go_ret
    exact ⟨rfl, (hb0.out _ _).trans ((below_drewN _ q).mono (hb0.out _ _).size)⟩
  · rw [cmpI_lt (by omega)]
    replace hb0 := Hd.mk hb0
    go_enter Tryz.func15, Tryz.ntmps15
    go_wp2
    go_ret
    exact ⟨rfl, hb0.out _ _⟩
  · rw [cmpI_gt (by omega)]
    replace hb0 := Hd.mk hb0
    go_enter Tryz.func15, Tryz.ntmps15
    go_wp2
    go_ret
    exact ⟨rfl, hb0.out _ _⟩
  · have hres : cmpI x y = cmpN x.natAbs y.natAbs := by unfold cmpI cmpN; split <;> (split <;> (try split) <;> omega)
    rw [hres]
    generalize cmpN x.natAbs y.natAbs = r at *
    replace hres := Hd.mk hres
    replace hb0 := Hd.mk hb0
    go_enter Tryz.func15, Tryz.ntmps15
    go_wp2_with (go_at_call 49; refine (hc1.out _ (hb0.out _ _)).mono ?_; rintro e w2 ⟨rfl, q, rfl⟩)
    go_ret
    exact ⟨rfl, (hb0.out _ _).trans ((below_drewN _ q).mono (hb0.out _ _).size)⟩
theorem cs2 {w : World} {b o R : Nat} {u0 u1 v : Value} (h : w.cell? ⟨b, o, none⟩ = some v) (hne : b ≠ R) : ((w.setCell ⟨R, 0, none⟩ u0).setCell ⟨R, 1, none⟩ u1).cell? ⟨b, o, none⟩ = some v := by
  rw [World.cell?_setCell_other, World.cell?_setCell_other, h]
  · intro e; cases e; exact hne rfl
  · intro e; cases e; exact hne rfl
/-- Three boxes: two numbers and a result. -/
theorem boxes3 (w : World) (n1 n2 : Bool) (d1 d2 : Value) : let W := ((w.alloc (.cells #[.bool n1, d1] 24)).alloc (.cells #[.bool n2, d2] 24)).alloc (.cells #[.bool false, .slice none 0 0] 24)
    Below w.heap.size w W ∧ W.heap.size = w.heap.size + 1 + 1 + 1 := by
  intro W
  refine ⟨(((Below.refl _ _).alloc (Nat.le_refl _) _).alloc (by rw [World.size_alloc]; omega) _).alloc (by rw [World.size_alloc, World.size_alloc]; omega) _, ?_⟩
  show (((w.alloc _).alloc _).alloc _).heap.size = _
  simp only [World.size_alloc]
set_option maxHeartbeats 4000000 in
theorem nplus_any (v u : Value) (x y : Int) (w : World) (hx : NumV w v x) (hy : NumV w u y) (hlx : T.wlen x.natAbs < 1000) (hly : T.wlen y.natAbs < 1000) :
    Calls Tryz.prog 92 #[v, u] w fun e w' => ∃ v, e = .returned v ∧ NumV w' v (x + y) ∧ Below w.heap.size w w' := by
  obtain ⟨A, ca, rfl, hd⟩ := hx.open
  obtain ⟨B, cb', rfl, he⟩ := hy.open
  generalize hnb : decide (x < 0) = nb
  generalize hnc : decide (y < 0) = nc
  obtain ⟨hbW, hsW⟩ := boxes3 w nb nc (.slice A (T.wlen x.natAbs) ca) (.slice B (T.wlen y.natAbs) cb')
  have hpl := Hd.mk fun w1 (hb : Below w.heap.size w w1) => nvd (Pr := fun n => n < 2000 ∧ T.val n (T.addD (T.dig x.natAbs) (T.dig y.natAbs) 0) = x.natAbs + y.natAbs) ((plus_any _ _ x.natAbs y.natAbs w1 (hd.below hb) (he.below hb) hlx hly).mono fun e w' ⟨v, n, h1, h2, h3, h4, h5⟩ => ⟨v, n, h1, h2, ⟨h3, h4⟩, h5⟩)
  have hle1 := Hd.mk fun w1 (hb : Below w.heap.size w w1) (h : y.natAbs ≤ x.natAbs) => less_any _ _ x.natAbs y.natAbs w1 (hd.below hb) (he.below hb) hlx h
  have hle2 := Hd.mk fun w1 (hb : Below w.heap.size w w1) (h : x.natAbs ≤ y.natAbs) => less_any _ _ y.natAbs x.natAbs w1 (he.below hb) (hd.below hb) hly h
  have hcm := Hd.mk fun w1 (hb : Below w.heap.size w w1) => compare_any _ _ x.natAbs y.natAbs w1 (hd.below hb) (he.below hb) hlx
  have hlW : w.heap.size + 1 + 1 < (((w.alloc (.cells #[.bool nb, .slice A (T.wlen x.natAbs) ca] 24)).alloc (.cells #[.bool nc, .slice B (T.wlen y.natAbs) cb'] 24)).alloc (.cells #[.bool false, .slice none 0 0] 24)).heap.size := by simp only [World.size_alloc]; omega
  have hfD := Hd.mk fun i => T.addD_lt (T.dig x.natAbs) (T.dig y.natAbs) 0 i
  have hwx := Hd.mk hlx
  replace hbW := Hd.mk hbW
  replace hd := Hd.mk hd
  replace he := Hd.mk he
  replace hx := Hd.mk hx
  replace hy := Hd.mk hy
  replace hnb := Hd.mk hnb
  replace hnc := Hd.mk hnc
  by_cases ht : (nb == nc) = true
  · have heq := Hd.mk ht
    go_enter Tryz.func92, Tryz.ntmps92
    go_wp2
    have hbD : Hd (Below w.heap.size w (((w.alloc (.cells #[.bool nb, .slice A (T.wlen x.natAbs) ca] 24)).alloc (.cells #[.bool nc, .slice B (T.wlen y.natAbs) cb'] 24)).alloc (.cells #[.bool false, .slice none 0 0] 24)).drew) := ⟨⟨hbW.out.os, hbW.out.tape, hbW.out.output, hbW.out.size, hbW.out.block⟩⟩
    have c0 : (((w.alloc (.cells #[.bool nb, .slice A (T.wlen x.natAbs) ca] 24)).alloc (.cells #[.bool nc, .slice B (T.wlen y.natAbs) cb'] 24)).alloc (.cells #[.bool false, .slice none 0 0] 24)).drew.cell? ⟨w.heap.size, 0, none⟩ = some (.bool nb) := by go_simp
    have c1 : (((w.alloc (.cells #[.bool nb, .slice A (T.wlen x.natAbs) ca] 24)).alloc (.cells #[.bool nc, .slice B (T.wlen y.natAbs) cb'] 24)).alloc (.cells #[.bool false, .slice none 0 0] 24)).drew.cell? ⟨w.heap.size, 1, none⟩ = some (.slice A (T.wlen x.natAbs) ca) := by go_simp
    have c2 : (((w.alloc (.cells #[.bool nb, .slice A (T.wlen x.natAbs) ca] 24)).alloc (.cells #[.bool nc, .slice B (T.wlen y.natAbs) cb'] 24)).alloc (.cells #[.bool false, .slice none 0 0] 24)).drew.cell? ⟨w.heap.size + 1, 0, none⟩ = some (.bool nc) := by go_simp
    have c3 : (((w.alloc (.cells #[.bool nb, .slice A (T.wlen x.natAbs) ca] 24)).alloc (.cells #[.bool nc, .slice B (T.wlen y.natAbs) cb'] 24)).alloc (.cells #[.bool false, .slice none 0 0] 24)).drew.cell? ⟨w.heap.size + 1, 1, none⟩ = some (.slice B (T.wlen y.natAbs) cb') := by go_simp
    have r0 : (((w.alloc (.cells #[.bool nb, .slice A (T.wlen x.natAbs) ca] 24)).alloc (.cells #[.bool nc, .slice B (T.wlen y.natAbs) cb'] 24)).alloc (.cells #[.bool false, .slice none 0 0] 24)).drew.cell? ⟨w.heap.size + 1 + 1, 0, none⟩ = some (.bool false) := by go_simp
    have r1 : (((w.alloc (.cells #[.bool nb, .slice A (T.wlen x.natAbs) ca] 24)).alloc (.cells #[.bool nc, .slice B (T.wlen y.natAbs) cb'] 24)).alloc (.cells #[.bool false, .slice none 0 0] 24)).drew.cell? ⟨w.heap.size + 1 + 1, 1, none⟩ = some (.slice none 0 0) := by go_simp
    have z0 : (((w.alloc (.cells #[.bool nb, .slice A (T.wlen x.natAbs) ca] 24)).alloc (.cells #[.bool nc, .slice B (T.wlen y.natAbs) cb'] 24)).alloc (.cells #[.bool false, .slice none 0 0] 24)).drew.frozen? ⟨w.heap.size + 1 + 1, 0, none⟩ = false := by go_simp
    have z1 : (((w.alloc (.cells #[.bool nb, .slice A (T.wlen x.natAbs) ca] 24)).alloc (.cells #[.bool nc, .slice B (T.wlen y.natAbs) cb'] 24)).alloc (.cells #[.bool false, .slice none 0 0] 24)).drew.frozen? ⟨w.heap.size + 1 + 1, 1, none⟩ = false := by go_simp
    go_region_held3 (fun wx => wx.cell? ⟨w.heap.size, 0, none⟩ = some (.bool nb) ∧ wx.cell? ⟨w.heap.size, 1, none⟩ = some (.slice A (T.wlen x.natAbs) ca) ∧ wx.cell? ⟨w.heap.size + 1, 0, none⟩ = some (.bool nc) ∧ wx.cell? ⟨w.heap.size + 1, 1, none⟩ = some (.slice B (T.wlen y.natAbs) cb')) (first | exact ⟨c0, c1, c2, c3⟩ | exact ⟨k0, k1, k2, k3⟩ | exact ⟨j0, j1, j2, j3⟩ | exact ⟨cs2 j0 (by omega), cs2 j1 (by omega), cs2 j2 (by omega), cs2 j3 (by omega)⟩) (first | (go_at_call 177; refine (hpl.out _ hbD.out).mono ?_; rintro e w2 ⟨A2, n2, cc2, rfl, hd2, ⟨hn2, hv2⟩, hb2⟩; replace hv2 := Hd.mk hv2; have k0 := cb hb2 c0; have k1 := cb hb2 c1; have k2 := cb hb2 c2; have k3 := cb hb2 c3; have kr0 := cb hb2 r0; have kr1 := cb hb2 r1; have kz0 := fb hb2 r0 z0; have kz1 := fb hb2 r1 z1; have hb3 := Hd.mk (hbD.out.trans (hb2.mono hbD.out.size)); have hl2 : w.heap.size + 1 + 1 < w2.heap.size := Nat.lt_of_lt_of_le hlW hb2.size; clear hb2; replace hd2 := Hd.mk hd2) | (go_at_call 114; refine (nv (signed_any nb _ _ _ w2 hd2.out (fun i _ => hfD.out i) (by omega))).mono ?_; rintro e w3 ⟨b3, A3, m3, c3', rfl, hn3, hb4⟩; have j0 := cb hb4 k0; have j1 := cb hb4 k1; have j2 := cb hb4 k2; have j3 := cb hb4 k3; have jr0 := cb hb4 kr0; have jr1 := cb hb4 kr1; have jz0 := fb hb4 kr0 kz0; have jz1 := fb hb4 kr1 kz1; have hb5 := Hd.mk (hb3.out.trans (hb4.mono hb3.out.size)); have hl3 : w.heap.size + 1 + 1 < w3.heap.size := Nat.lt_of_lt_of_le hl2 hb4.size; clear hb4; replace hn3 := Hd.mk hn3))
    all_goals
      have hfin := ret_num (u0 := .bool b3) (u1 := .slice A3 m3 c3') hb5.out (R := w.heap.size + 1 + 1) (by omega) jr0 jr1 hn3.out
      go_wp2
      refine bodyPost_ret (v := .agg #[.bool b3, .slice A3 m3 c3']) (by simp [results, Tryz.results92, go_sem, jr0, jr1, jz0, jz1, hl3]) rfl ⟨_, rfl, ?_, hfin.2⟩
      have h9 := hfin.1
      rw [hv2.out] at h9
      rwa [show (if nb = true then -((x.natAbs + y.natAbs : Nat) : Int) else ((x.natAbs + y.natAbs : Nat) : Int)) = x + y from by
        have a1 := hnb.out
        have a2 := hnc.out
        have a3 := heq.out
        subst a1 a2
        by_cases h1 : x < 0 <;> by_cases h2 : y < 0 <;> simp [h1, h2] at a3 ⊢ <;> omega] at h9
  · have heq := Hd.mk ht
    have ht2 : (nb == nc) = false := by simpa using ht
    clear ht
    by_cases hle : y.natAbs ≤ x.natAbs
    · have hc9 : decide (0 ≤ cmpN x.natAbs y.natAbs) = true := by
        unfold cmpN; split; (· omega); (· split <;> rfl)
      have hle' := Hd.mk hle
      generalize hcm' : cmpN x.natAbs y.natAbs = cm at *
      replace hcm' := Hd.mk hcm'
      go_enter Tryz.func92, Tryz.ntmps92
      go_wp2_with (go_at_call 49; refine (hcm.out _ hbW.out).mono ?_; rintro e w' ⟨rfl, q, rfl⟩)
      have hbD : Hd (Below w.heap.size w (((((w.alloc (.cells #[.bool nb, .slice A (T.wlen x.natAbs) ca] 24)).alloc (.cells #[.bool nc, .slice B (T.wlen y.natAbs) cb'] 24)).alloc (.cells #[.bool false, .slice none 0 0] 24))).drewN q).drew) := ⟨⟨hbW.out.os, hbW.out.tape, hbW.out.output, hbW.out.size, hbW.out.block⟩⟩
      have c0 : (((((w.alloc (.cells #[.bool nb, .slice A (T.wlen x.natAbs) ca] 24)).alloc (.cells #[.bool nc, .slice B (T.wlen y.natAbs) cb'] 24)).alloc (.cells #[.bool false, .slice none 0 0] 24))).drewN q).drew.cell? ⟨w.heap.size, 0, none⟩ = some (.bool nb) := by go_simp
      have c1 : (((((w.alloc (.cells #[.bool nb, .slice A (T.wlen x.natAbs) ca] 24)).alloc (.cells #[.bool nc, .slice B (T.wlen y.natAbs) cb'] 24)).alloc (.cells #[.bool false, .slice none 0 0] 24))).drewN q).drew.cell? ⟨w.heap.size, 1, none⟩ = some (.slice A (T.wlen x.natAbs) ca) := by go_simp
      have c2 : (((((w.alloc (.cells #[.bool nb, .slice A (T.wlen x.natAbs) ca] 24)).alloc (.cells #[.bool nc, .slice B (T.wlen y.natAbs) cb'] 24)).alloc (.cells #[.bool false, .slice none 0 0] 24))).drewN q).drew.cell? ⟨w.heap.size + 1, 0, none⟩ = some (.bool nc) := by go_simp
      have c3 : (((((w.alloc (.cells #[.bool nb, .slice A (T.wlen x.natAbs) ca] 24)).alloc (.cells #[.bool nc, .slice B (T.wlen y.natAbs) cb'] 24)).alloc (.cells #[.bool false, .slice none 0 0] 24))).drewN q).drew.cell? ⟨w.heap.size + 1, 1, none⟩ = some (.slice B (T.wlen y.natAbs) cb') := by go_simp
      have r0 : (((((w.alloc (.cells #[.bool nb, .slice A (T.wlen x.natAbs) ca] 24)).alloc (.cells #[.bool nc, .slice B (T.wlen y.natAbs) cb'] 24)).alloc (.cells #[.bool false, .slice none 0 0] 24))).drewN q).drew.cell? ⟨w.heap.size + 1 + 1, 0, none⟩ = some (.bool false) := by go_simp
      have r1 : (((((w.alloc (.cells #[.bool nb, .slice A (T.wlen x.natAbs) ca] 24)).alloc (.cells #[.bool nc, .slice B (T.wlen y.natAbs) cb'] 24)).alloc (.cells #[.bool false, .slice none 0 0] 24))).drewN q).drew.cell? ⟨w.heap.size + 1 + 1, 1, none⟩ = some (.slice none 0 0) := by go_simp
      have z0 : (((((w.alloc (.cells #[.bool nb, .slice A (T.wlen x.natAbs) ca] 24)).alloc (.cells #[.bool nc, .slice B (T.wlen y.natAbs) cb'] 24)).alloc (.cells #[.bool false, .slice none 0 0] 24))).drewN q).drew.frozen? ⟨w.heap.size + 1 + 1, 0, none⟩ = false := by go_simp
      have z1 : (((((w.alloc (.cells #[.bool nb, .slice A (T.wlen x.natAbs) ca] 24)).alloc (.cells #[.bool nc, .slice B (T.wlen y.natAbs) cb'] 24)).alloc (.cells #[.bool false, .slice none 0 0] 24))).drewN q).drew.frozen? ⟨w.heap.size + 1 + 1, 1, none⟩ = false := by go_simp
      go_region_held3 (fun wx => wx.cell? ⟨w.heap.size, 0, none⟩ = some (.bool nb) ∧ wx.cell? ⟨w.heap.size, 1, none⟩ = some (.slice A (T.wlen x.natAbs) ca) ∧ wx.cell? ⟨w.heap.size + 1, 0, none⟩ = some (.bool nc) ∧ wx.cell? ⟨w.heap.size + 1, 1, none⟩ = some (.slice B (T.wlen y.natAbs) cb')) (first | exact ⟨c0, c1, c2, c3⟩ | exact ⟨k0, k1, k2, k3⟩ | exact ⟨j0, j1, j2, j3⟩ | exact ⟨cs2 j0 (by omega), cs2 j1 (by omega), cs2 j2 (by omega), cs2 j3 (by omega)⟩) (first | (go_at_call 178; refine (hle1.out _ hbD.out hle'.out).mono ?_; rintro e w2 ⟨v2, rfl0, hd2, hb2⟩; obtain ⟨A2, c2x, hv2, hd2x⟩ := hd2; subst hv2; subst rfl0; have hd2 : DS w2 _ _ _ := ⟨A2, c2x, rfl, hd2x⟩; clear hd2x; have k0 := cb hb2 c0; have k1 := cb hb2 c1; have k2 := cb hb2 c2; have k3 := cb hb2 c3; have kr0 := cb hb2 r0; have kr1 := cb hb2 r1; have kz0 := fb hb2 r0 z0; have kz1 := fb hb2 r1 z1; have hb3 := Hd.mk (hbD.out.trans (hb2.mono hbD.out.size)); have hl2 : w.heap.size + 1 + 1 < w2.heap.size := Nat.lt_of_lt_of_le hlW hb2.size; clear hb2; replace hd2 := Hd.mk hd2) | (go_at_call 114; refine (nv (signed_any nb _ _ _ w2 hd2.out (fun i _ => T.dig_lt _ i) (by have := T.wlen_mono (Nat.sub_le x.natAbs y.natAbs); omega))).mono ?_; rintro e w3 ⟨b3, A3, m3, c3', rfl, hn3, hb4⟩; have j0 := cb hb4 k0; have j1 := cb hb4 k1; have j2 := cb hb4 k2; have j3 := cb hb4 k3; have jr0 := cb hb4 kr0; have jr1 := cb hb4 kr1; have jz0 := fb hb4 kr0 kz0; have jz1 := fb hb4 kr1 kz1; have hb5 := Hd.mk (hb3.out.trans (hb4.mono hb3.out.size)); have hl3 : w.heap.size + 1 + 1 < w3.heap.size := Nat.lt_of_lt_of_le hl2 hb4.size; clear hb4; replace hn3 := Hd.mk hn3))
      all_goals
        have hfin := ret_num (u0 := .bool b3) (u1 := .slice A3 m3 c3') hb5.out (R := w.heap.size + 1 + 1) (by omega) jr0 jr1 hn3.out
        go_wp2
        refine bodyPost_ret (v := .agg #[.bool b3, .slice A3 m3 c3']) (by simp [results, Tryz.results92, go_sem, jr0, jr1, jz0, jz1, hl3]) rfl ⟨_, rfl, ?_, hfin.2⟩
        have h9 := hfin.1
        rw [T.val_wlen] at h9
        rwa [show (if nb = true then -((x.natAbs - y.natAbs : Nat) : Int) else ((x.natAbs - y.natAbs : Nat) : Int)) = x + y from by
          have a1 := hnb.out
          have a2 := hnc.out
          have a3 := heq.out
          have a4 := hle'.out
          subst a1 a2
          by_cases h1 : x < 0 <;> by_cases h2 : y < 0 <;> simp [h1, h2] at a3 ⊢ <;> omega] at h9

    · have hc9 : decide (0 ≤ cmpN x.natAbs y.natAbs) = false := by
        rw [cmpN_lt (by omega)]; rfl
      have hle' := Hd.mk hle
      generalize hcm' : cmpN x.natAbs y.natAbs = cm at *
      replace hcm' := Hd.mk hcm'
      go_enter Tryz.func92, Tryz.ntmps92
      go_wp2_with (go_at_call 49; refine (hcm.out _ hbW.out).mono ?_; rintro e w' ⟨rfl, q, rfl⟩)
      have hbD : Hd (Below w.heap.size w (((((w.alloc (.cells #[.bool nb, .slice A (T.wlen x.natAbs) ca] 24)).alloc (.cells #[.bool nc, .slice B (T.wlen y.natAbs) cb'] 24)).alloc (.cells #[.bool false, .slice none 0 0] 24))).drewN q).drew) := ⟨⟨hbW.out.os, hbW.out.tape, hbW.out.output, hbW.out.size, hbW.out.block⟩⟩
      have c0 : (((((w.alloc (.cells #[.bool nb, .slice A (T.wlen x.natAbs) ca] 24)).alloc (.cells #[.bool nc, .slice B (T.wlen y.natAbs) cb'] 24)).alloc (.cells #[.bool false, .slice none 0 0] 24))).drewN q).drew.cell? ⟨w.heap.size, 0, none⟩ = some (.bool nb) := by go_simp
      have c1 : (((((w.alloc (.cells #[.bool nb, .slice A (T.wlen x.natAbs) ca] 24)).alloc (.cells #[.bool nc, .slice B (T.wlen y.natAbs) cb'] 24)).alloc (.cells #[.bool false, .slice none 0 0] 24))).drewN q).drew.cell? ⟨w.heap.size, 1, none⟩ = some (.slice A (T.wlen x.natAbs) ca) := by go_simp
      have c2 : (((((w.alloc (.cells #[.bool nb, .slice A (T.wlen x.natAbs) ca] 24)).alloc (.cells #[.bool nc, .slice B (T.wlen y.natAbs) cb'] 24)).alloc (.cells #[.bool false, .slice none 0 0] 24))).drewN q).drew.cell? ⟨w.heap.size + 1, 0, none⟩ = some (.bool nc) := by go_simp
      have c3 : (((((w.alloc (.cells #[.bool nb, .slice A (T.wlen x.natAbs) ca] 24)).alloc (.cells #[.bool nc, .slice B (T.wlen y.natAbs) cb'] 24)).alloc (.cells #[.bool false, .slice none 0 0] 24))).drewN q).drew.cell? ⟨w.heap.size + 1, 1, none⟩ = some (.slice B (T.wlen y.natAbs) cb') := by go_simp
      have r0 : (((((w.alloc (.cells #[.bool nb, .slice A (T.wlen x.natAbs) ca] 24)).alloc (.cells #[.bool nc, .slice B (T.wlen y.natAbs) cb'] 24)).alloc (.cells #[.bool false, .slice none 0 0] 24))).drewN q).drew.cell? ⟨w.heap.size + 1 + 1, 0, none⟩ = some (.bool false) := by go_simp
      have r1 : (((((w.alloc (.cells #[.bool nb, .slice A (T.wlen x.natAbs) ca] 24)).alloc (.cells #[.bool nc, .slice B (T.wlen y.natAbs) cb'] 24)).alloc (.cells #[.bool false, .slice none 0 0] 24))).drewN q).drew.cell? ⟨w.heap.size + 1 + 1, 1, none⟩ = some (.slice none 0 0) := by go_simp
      have z0 : (((((w.alloc (.cells #[.bool nb, .slice A (T.wlen x.natAbs) ca] 24)).alloc (.cells #[.bool nc, .slice B (T.wlen y.natAbs) cb'] 24)).alloc (.cells #[.bool false, .slice none 0 0] 24))).drewN q).drew.frozen? ⟨w.heap.size + 1 + 1, 0, none⟩ = false := by go_simp
      have z1 : (((((w.alloc (.cells #[.bool nb, .slice A (T.wlen x.natAbs) ca] 24)).alloc (.cells #[.bool nc, .slice B (T.wlen y.natAbs) cb'] 24)).alloc (.cells #[.bool false, .slice none 0 0] 24))).drewN q).drew.frozen? ⟨w.heap.size + 1 + 1, 1, none⟩ = false := by go_simp
      go_region_held3 (fun wx => wx.cell? ⟨w.heap.size, 0, none⟩ = some (.bool nb) ∧ wx.cell? ⟨w.heap.size, 1, none⟩ = some (.slice A (T.wlen x.natAbs) ca) ∧ wx.cell? ⟨w.heap.size + 1, 0, none⟩ = some (.bool nc) ∧ wx.cell? ⟨w.heap.size + 1, 1, none⟩ = some (.slice B (T.wlen y.natAbs) cb')) (first | exact ⟨c0, c1, c2, c3⟩ | exact ⟨k0, k1, k2, k3⟩ | exact ⟨j0, j1, j2, j3⟩ | exact ⟨cs2 j0 (by omega), cs2 j1 (by omega), cs2 j2 (by omega), cs2 j3 (by omega)⟩) (first | (go_at_call 178; refine (hle2.out _ hbD.out (by have := hle'.out; omega)).mono ?_; rintro e w2 ⟨v2, rfl0, hd2, hb2⟩; obtain ⟨A2, c2x, hv2, hd2x⟩ := hd2; subst hv2; subst rfl0; have hd2 : DS w2 _ _ _ := ⟨A2, c2x, rfl, hd2x⟩; clear hd2x; have k0 := cb hb2 c0; have k1 := cb hb2 c1; have k2 := cb hb2 c2; have k3 := cb hb2 c3; have kr0 := cb hb2 r0; have kr1 := cb hb2 r1; have kz0 := fb hb2 r0 z0; have kz1 := fb hb2 r1 z1; have hb3 := Hd.mk (hbD.out.trans (hb2.mono hbD.out.size)); have hl2 : w.heap.size + 1 + 1 < w2.heap.size := Nat.lt_of_lt_of_le hlW hb2.size; clear hb2; replace hd2 := Hd.mk hd2) | (go_at_call 114; refine (nv (signed_any nc _ _ _ w2 hd2.out (fun i _ => T.dig_lt _ i) (by have := T.wlen_mono (Nat.sub_le y.natAbs x.natAbs); omega))).mono ?_; rintro e w3 ⟨b3, A3, m3, c3', rfl, hn3, hb4⟩; have j0 := cb hb4 k0; have j1 := cb hb4 k1; have j2 := cb hb4 k2; have j3 := cb hb4 k3; have jr0 := cb hb4 kr0; have jr1 := cb hb4 kr1; have jz0 := fb hb4 kr0 kz0; have jz1 := fb hb4 kr1 kz1; have hb5 := Hd.mk (hb3.out.trans (hb4.mono hb3.out.size)); have hl3 : w.heap.size + 1 + 1 < w3.heap.size := Nat.lt_of_lt_of_le hl2 hb4.size; clear hb4; replace hn3 := Hd.mk hn3))
      all_goals
        have hfin := ret_num (u0 := .bool b3) (u1 := .slice A3 m3 c3') hb5.out (R := w.heap.size + 1 + 1) (by omega) jr0 jr1 hn3.out
        go_wp2
        refine bodyPost_ret (v := .agg #[.bool b3, .slice A3 m3 c3']) (by simp [results, Tryz.results92, go_sem, jr0, jr1, jz0, jz1, hl3]) rfl ⟨_, rfl, ?_, hfin.2⟩
        have h9 := hfin.1
        rw [T.val_wlen] at h9
        rwa [show (if nc = true then -((y.natAbs - x.natAbs : Nat) : Int) else ((y.natAbs - x.natAbs : Nat) : Int)) = x + y from by
          have a1 := hnb.out
          have a2 := hnc.out
          have a3 := heq.out
          have a4 := hle'.out
          subst a1 a2
          by_cases h1 : x < 0 <;> by_cases h2 : y < 0 <;> simp [h1, h2] at a3 ⊢ <;> omega] at h9

end Go.Proofs.YtdbjdpooggaonaaGreatDoor
end

section
namespace Go.Proofs.YtdbjdpooggaonaaGreatDoor
open Go.RowKit
set_option maxRecDepth 100000
/-- The result's slot of a function that makes a number, in a later world. -/
structure Slot (w wr : World) (R : Nat) : Prop where
  ge : w.heap.size ≤ R
  lt : R < wr.heap.size
  c0 : wr.cell? ⟨R, 0, none⟩ = some (.bool false)
  c1 : wr.cell? ⟨R, 1, none⟩ = some (.slice none 0 0)
  z0 : wr.frozen? ⟨R, 0, none⟩ = false
  z1 : wr.frozen? ⟨R, 1, none⟩ = false
theorem Slot.start (w : World) : Slot w (w.alloc (.cells #[.bool false, .slice none 0 0] 24)) w.heap.size :=
  have h := Blk.new w #[.bool false, .slice none 0 0] 24
  ⟨Nat.le_refl _, by rw [World.size_alloc]; omega, h.cell 0, h.cell 1, h.frozen 0, h.frozen 1⟩
theorem Slot.below {w wr wx : World} {R : Nat} (h : Slot w wr R) (hb : Below wr.heap.size wr wx) : Slot w wx R := ⟨h.ge, Nat.lt_of_lt_of_le h.lt hb.size, cb hb h.c0, cb hb h.c1, fb hb h.c0 h.z0, fb hb h.c1 h.z1⟩
theorem Slot.num {w wr : World} {R : Nat} {v u0 u1 : Value} {x : Int} (h : Slot w wr R) (hb : Below w.heap.size w wr) (hv : NumV wr v x) :
    NumV ((wr.setCell ⟨R, 0, none⟩ u0).setCell ⟨R, 1, none⟩ u1) v x ∧ Below w.heap.size w ((wr.setCell ⟨R, 0, none⟩ u0).setCell ⟨R, 1, none⟩ u1) := ret_num hb h.ge h.c0 h.c1 hv
set_option maxHeartbeats 1000000 in
theorem ofuint_any (N : Nat) (w : World) (hN : N < BB) : Calls Tryz.prog 48 #[.int .u64 N] w fun e w' => ∃ v, e = .returned v ∧ NumV w' v (N : Int) ∧ Below w.heap.size w w' := by
  have hsl := Hd.mk (Slot.start w)
  have hwl : T.wlen N ≤ 20 := T.wlen_le (Nat.lt_trans hN (by decide))
  generalize hw0 : w.alloc (.cells #[.bool false, .slice none 0 0] 24) = w0 at hsl
  have hb0 : Below w.heap.size w w0 := by subst hw0; exact (Below.refl _ _).alloc (Nat.le_refl _) _
  replace hb0 := Hd.mk hb0
  go_enter Tryz.func48, Tryz.ntmps48
  go_wp2
  replace hw0 := Hd.mk hw0
  go_loopw [0, 3] (fun n d wr => ∃ k : Nat, k ≤ T.wlen N ∧ n = .int .u64 ((N / 10 ^ k : Nat) : Int) ∧ Hd (OwD w0 wr d k (T.dig N))) (fun n _ _ => (intOf n).toNat)
  case atStart => exact ⟨0, Nat.zero_le _, by rw [Nat.pow_zero, Nat.div_one], ⟨OwD.nil _ _⟩⟩
  case round =>
    obtain ⟨k, hk, rfl, how⟩ := hrel
    by_cases h0 : N / 10 ^ k = 0
    · have hkw : T.wlen N ≤ k := T.wlen_le ((Nat.div_eq_zero_iff_lt (Nat.pow_pos (by decide))).1 h0)
      obtain rfl : k = T.wlen N := by omega
      rw [h0]
      obtain ⟨A, c, rfl, hdd⟩ := how.out.ds
      have hsr := hsl.out.below how.out.bel
      have hnum : NumV wr (.agg #[.bool false, .slice A (T.wlen N) c]) (N : Int) := ⟨_, by rw [show decide ((N : Int) < 0) = false by simp], by rw [Int.natAbs_natCast]; exact ⟨A, c, rfl, hdd⟩⟩
      have hfin := Hd.mk (hsr.num (u0 := .bool false) (u1 := .slice A (T.wlen N) c) (hb0.out.trans (how.out.bel.mono hb0.out.size)) hnum)
      obtain ⟨q1, q2, q3, q4, q5, q6⟩ := hsr
      replace hdd := Hd.mk hdd
      replace hnum := Hd.mk hnum
      replace h0 := Hd.mk h0
      go_wp2
      refine bodyPost_ret (v := .agg #[.bool false, .slice A (T.wlen N) c]) (by simp [results, Tryz.results48, go_sem, q2, q3, q4, q5, q6]) rfl ⟨_, rfl, hfin.out.1, hfin.out.2⟩
    · have hd0 : decide (0 < ((N / 10 ^ k : Nat) : Int)) = true := decide_eq_true (Int.natCast_pos.2 (Nat.pos_of_ne_zero h0))
      have hkw : k < T.wlen N := by
        rcases Nat.lt_or_ge k (T.wlen N) with h | h
        · exact h
        · exact absurd (Nat.div_eq_of_lt ((T.wlen_le_iff k N).1 h)) h0
      have hnx : N / 10 ^ (k + 1) = N / 10 ^ k / 10 := by rw [Nat.pow_succ, Nat.div_div_eq_div_mul]
      have hdg : T.dig N k = N / 10 ^ k % 10 := rfl
      have hqB : N / 10 ^ k < BB := Nat.lt_of_le_of_lt (Nat.div_le_self _ _) hN
      generalize N / 10 ^ k = n0 at *
      have hw8 : IntKind.u8.wrap ((n0 : Int) % 10) = (n0 : Int) % 10 := IntWalk.u8_in _ (by omega)
      replace hdg := Hd.mk hdg
      replace hnx := Hd.mk hnx
      unfold BB at hqB
      go_wp2_with (at_builtin; refine wpList_push rfl (.tmp 8) (.tmp 12) rfl _ k (T.dig N) rfl how.out _ ?hc rfl (by omega) ?_; (case hc => (rw [hdg.out]; omega)); intro v' w' how2 hv' hb2 hsz2; obtain ⟨g', cap', rfl⟩ := hv'; replace how2 := Hd.mk how2; replace hb2 := Hd.mk hb2)
      go_roundw
      case rel => exact ⟨k + 1, by omega, by rw [hnx.out]; congr 1, how2⟩
      case measure => simp [intOf]; omega
set_option maxHeartbeats 1000000 in
theorem of_nat (n : Nat) (w : World) (hn : n < 9223372036854775808) : Calls Tryz.prog 13 #[.int .i64 n] w fun e w' => ∃ v, e = .returned v ∧ NumV w' v (n : Int) ∧ Below w.heap.size w w' := by
  have hsl := Hd.mk (Slot.start w)
  have hb0 : Below w.heap.size w (w.alloc (.cells #[.bool false, .slice none 0 0] 24)) := (Below.refl _ _).alloc (Nat.le_refl _) _
  have hou := Hd.mk fun w1 => nv (ofuint_any n w1 (by unfold BB; omega))
  have hd0 : decide ((n : Int) < 0) = false := by simp
  have hw : IntKind.u64.wrap (n : Int) = (n : Int) := IntWalk.u64_in _ (by omega)
  replace hb0 := Hd.mk hb0
  go_enter Tryz.func13, Tryz.ntmps13
  go_wp2_with (go_at_call 48; refine (hou.out _).mono ?_; rintro e w2 ⟨b, A, m, c, rfl, hnv, hb⟩; obtain ⟨q1, q2, q3, q4, q5, q6⟩ := hsl.out.below hb; have hfin := Hd.mk ((hsl.out.below hb).num (u0 := .bool b) (u1 := .slice A m c) (hb0.out.trans (hb.mono hb0.out.size)) hnv); clear hb hnv)
  refine bodyPost_ret (v := .agg #[.bool b, .slice A m c]) (by simp [results, Tryz.results13, go_sem, q2, q3, q4, q5, q6]) rfl ⟨_, rfl, hfin.out.1, hfin.out.2⟩
theorem T_dig_pow (n i : Nat) : T.dig (10 ^ n) i = if i = n then 1 else 0 := by
  show 10 ^ n / 10 ^ i % 10 = _
  by_cases h : i = n
  · subst h; rw [Nat.div_self (Nat.pow_pos (by decide)), if_pos rfl]
  · rw [if_neg h]
    rcases Nat.lt_or_ge i n with h1 | h1
    · obtain ⟨d, hd⟩ : ∃ d, n = i + (d + 1) := ⟨n - i - 1, by omega⟩
      rw [hd, Nat.pow_add, Nat.mul_div_cancel_left _ (Nat.pow_pos (by decide)), Nat.pow_succ]; omega
    · rw [Nat.div_eq_of_lt (Nat.pow_lt_pow_right (by decide) (by omega))]
theorem T_wlen_pow (n : Nat) : T.wlen (10 ^ n) = n + 1 := T.wlen_eq (show 10 ^ n < 10 ^ (n + 1) from Nat.pow_lt_pow_right (by decide) (by omega)) (Nat.le_refl _)
set_option maxHeartbeats 1000000 in
theorem ten_any (n : Nat) (w : World) (hn : n < 1000) : Calls Tryz.prog 20 #[.int .i64 n] w fun e w' => ∃ v, e = .returned v ∧ NumV w' v ((10 ^ n : Nat) : Int) ∧ Below w.heap.size w w' := by
  have hsl := Hd.mk (Slot.start w)
  have hsz : (w.alloc (.cells #[.bool false, .slice none 0 0] 24)).heap.size = w.heap.size + 1 := World.size_alloc _ _
  have hb0 : Below w.heap.size w (w.alloc (.cells #[.bool false, .slice none 0 0] 24)) := (Below.refl _ _).alloc (Nat.le_refl _) _
  generalize hw1 : w.alloc (.cells #[.bool false, .slice none 0 0] 24) = w1 at hsl hsz hb0
  have hmk := run_mkb (n + 1) (by omega) w1
  rw [show ((n + 1 : Nat) : Int) = (n : Int) + 1 by omega] at hmk
  have hb := (Blk.new w1 (madeCells #[.int .u8 0] (n + 1)) 5)
  have hb2 : Below w1.heap.size w1 (w1.alloc (.cells (madeCells #[.int .u8 0] (n + 1)) 5)) := (Below.refl _ _).alloc (Nat.le_refl _) _
  generalize w1.alloc (.cells (madeCells #[.int .u8 0] (n + 1)) 5) = w2 at hmk hb hb2
  have hcell : ∀ i, i < n + 1 → w2.cell? ⟨w1.heap.size, i, none⟩ = some (.int .u8 0) := fun i hi => by
    rw [hb.cell, toList_madeCells_one, List.getElem?_replicate, if_pos hi]
  have hcn := hcell n (by omega)
  have hfn := hb.frozen n
  have hbw := hb0.trans (hb2.mono hb0.size)
  have hs3 : Slot w (w2.setCell ⟨w1.heap.size, n, none⟩ (.int .u8 1)) w.heap.size := hsl.out.below (hb2.setCell (p := ⟨w1.heap.size, n, none⟩) (Nat.le_refl _) _)
  have hbw3 : Below w.heap.size w (w2.setCell ⟨w1.heap.size, n, none⟩ (.int .u8 1)) := hbw.setCell (p := ⟨w1.heap.size, n, none⟩) (by show w.heap.size ≤ w1.heap.size; omega) _
  have hnum : NumV (w2.setCell ⟨w1.heap.size, n, none⟩ (.int .u8 1)) (.agg #[.bool false, .slice (some ⟨w1.heap.size, 0, none⟩) (n + 1) (n + 1)]) ((10 ^ n : Nat) : Int) := by
    refine ⟨.slice (some ⟨w1.heap.size, 0, none⟩) (n + 1) (n + 1), ?_, ?_⟩
    · rw [show decide (((10 ^ n : Nat) : Int) < 0) = false from decide_eq_false (Int.not_lt.2 (Int.natCast_nonneg _))]
    · rw [Int.natAbs_natCast, T_wlen_pow]
      refine ⟨_, _, rfl, Nat.le_refl _, by unfold maxLen; omega, fun _ => ⟨_, _, rfl, fun i hi => ?_⟩⟩
      rw [Nat.zero_add, T_dig_pow]
      by_cases h : i = n
      · subst h; rw [if_pos rfl, World.cell?_setCell_same' _ _ _ (by rw [hcn]; rfl)]; rfl
      · rw [if_neg h, World.cell?_setCell_other, hcell i hi]
        · rfl
        · intro e; cases e; exact h rfl
  have hfin := Hd.mk (hs3.num (u0 := .bool false) (u1 := .slice (some ⟨w1.heap.size, 0, none⟩) (n + 1) (n + 1)) hbw3 hnum)
  obtain ⟨q1, q2, q3, q4, q5, q6⟩ := hs3
  have hw3 : IntKind.i64.wrap ((n : Int) + 1) = (n : Int) + 1 := IntWalk.i64_in _ (by omega)
  replace hnum := Hd.mk hnum
  replace hcell := Hd.mk hcell
  replace hb := Hd.mk hb
  replace hb0 := Hd.mk hb0
  replace hb2 := Hd.mk hb2
  replace hbw := Hd.mk hbw
  replace hbw3 := Hd.mk hbw3
  replace hsz := Hd.mk hsz
  generalize hBs : w1.heap.size = B at *
  replace hBs := Hd.mk hBs
  go_enter Tryz.func20, Tryz.ntmps20
  go_wp2
  refine bodyPost_ret (v := .agg #[.bool false, .slice (some ⟨B, 0, none⟩) (n + 1) (n + 1)]) (by simp [results, Tryz.results20, go_sem, q2, q3, q4, q5, q6]) rfl ⟨_, rfl, hfin.out.1, hfin.out.2⟩
end Go.Proofs.YtdbjdpooggaonaaGreatDoor
end

section
namespace Go.Proofs.YtdbjdpooggaonaaGreatDoor
open Go.RowKit
set_option maxRecDepth 100000
set_option maxHeartbeats 4000000 in
theorem ndiff_any (v u : Value) (x y : Int) (w : World) (hx : NumV w v x) (hy : NumV w u y) (hlx : T.wlen x.natAbs < 1000) (hly : T.wlen y.natAbs < 1000) :
    Calls Tryz.prog 93 #[v, u] w fun e w' => ∃ v, e = .returned v ∧ NumV w' v (x - y) ∧ Below w.heap.size w w' := by
  obtain ⟨A, ca, rfl, hd⟩ := hx.open
  obtain ⟨B, cb', rfl, he⟩ := hy.open
  generalize hnb : decide (x < 0) = nb at hx ⊢
  generalize hnc : decide (y < 0) = nc at hy ⊢
  obtain ⟨hbW, hsW⟩ := boxes3 w nb nc (.slice A (T.wlen x.natAbs) ca) (.slice B (T.wlen y.natAbs) cb')
  have hmi := Hd.mk fun w1 (hb : Below w.heap.size w w1) => nv (minus_any _ y w1 (hy.below hb) hly)
  have hpl := Hd.mk fun v2 w1 (hb : Below w.heap.size w w1) (h2 : NumV w1 v2 (-y)) => nv (nplus_any _ v2 x (-y) w1 (hx.below hb) h2 hlx (by rw [Int.natAbs_neg]; exact hly))
  have hlW : w.heap.size + 1 + 1 < (((w.alloc (.cells #[.bool nb, .slice A (T.wlen x.natAbs) ca] 24)).alloc (.cells #[.bool nc, .slice B (T.wlen y.natAbs) cb'] 24)).alloc (.cells #[.bool false, .slice none 0 0] 24)).heap.size := by simp only [World.size_alloc]; omega
  replace hbW := Hd.mk hbW
  replace hd := Hd.mk hd
  replace he := Hd.mk he
  replace hx := Hd.mk hx
  replace hy := Hd.mk hy
  replace hnb := Hd.mk hnb
  replace hnc := Hd.mk hnc
  go_enter Tryz.func93, Tryz.ntmps93
  go_wp2
  have hbD : Hd (Below w.heap.size w (((w.alloc (.cells #[.bool nb, .slice A (T.wlen x.natAbs) ca] 24)).alloc (.cells #[.bool nc, .slice B (T.wlen y.natAbs) cb'] 24)).alloc (.cells #[.bool false, .slice none 0 0] 24)).drew) := ⟨⟨hbW.out.os, hbW.out.tape, hbW.out.output, hbW.out.size, hbW.out.block⟩⟩
  have c0 : (((w.alloc (.cells #[.bool nb, .slice A (T.wlen x.natAbs) ca] 24)).alloc (.cells #[.bool nc, .slice B (T.wlen y.natAbs) cb'] 24)).alloc (.cells #[.bool false, .slice none 0 0] 24)).drew.cell? ⟨w.heap.size, 0, none⟩ = some (.bool nb) := by go_simp
  have c1 : (((w.alloc (.cells #[.bool nb, .slice A (T.wlen x.natAbs) ca] 24)).alloc (.cells #[.bool nc, .slice B (T.wlen y.natAbs) cb'] 24)).alloc (.cells #[.bool false, .slice none 0 0] 24)).drew.cell? ⟨w.heap.size, 1, none⟩ = some (.slice A (T.wlen x.natAbs) ca) := by go_simp
  have c2 : (((w.alloc (.cells #[.bool nb, .slice A (T.wlen x.natAbs) ca] 24)).alloc (.cells #[.bool nc, .slice B (T.wlen y.natAbs) cb'] 24)).alloc (.cells #[.bool false, .slice none 0 0] 24)).drew.cell? ⟨w.heap.size + 1, 0, none⟩ = some (.bool nc) := by go_simp
  have c3 : (((w.alloc (.cells #[.bool nb, .slice A (T.wlen x.natAbs) ca] 24)).alloc (.cells #[.bool nc, .slice B (T.wlen y.natAbs) cb'] 24)).alloc (.cells #[.bool false, .slice none 0 0] 24)).drew.cell? ⟨w.heap.size + 1, 1, none⟩ = some (.slice B (T.wlen y.natAbs) cb') := by go_simp
  have r0 : (((w.alloc (.cells #[.bool nb, .slice A (T.wlen x.natAbs) ca] 24)).alloc (.cells #[.bool nc, .slice B (T.wlen y.natAbs) cb'] 24)).alloc (.cells #[.bool false, .slice none 0 0] 24)).drew.cell? ⟨w.heap.size + 1 + 1, 0, none⟩ = some (.bool false) := by go_simp
  have r1 : (((w.alloc (.cells #[.bool nb, .slice A (T.wlen x.natAbs) ca] 24)).alloc (.cells #[.bool nc, .slice B (T.wlen y.natAbs) cb'] 24)).alloc (.cells #[.bool false, .slice none 0 0] 24)).drew.cell? ⟨w.heap.size + 1 + 1, 1, none⟩ = some (.slice none 0 0) := by go_simp
  have z0 : (((w.alloc (.cells #[.bool nb, .slice A (T.wlen x.natAbs) ca] 24)).alloc (.cells #[.bool nc, .slice B (T.wlen y.natAbs) cb'] 24)).alloc (.cells #[.bool false, .slice none 0 0] 24)).drew.frozen? ⟨w.heap.size + 1 + 1, 0, none⟩ = false := by go_simp
  have z1 : (((w.alloc (.cells #[.bool nb, .slice A (T.wlen x.natAbs) ca] 24)).alloc (.cells #[.bool nc, .slice B (T.wlen y.natAbs) cb'] 24)).alloc (.cells #[.bool false, .slice none 0 0] 24)).drew.frozen? ⟨w.heap.size + 1 + 1, 1, none⟩ = false := by go_simp
  go_region_held3 (fun wx => wx.cell? ⟨w.heap.size, 0, none⟩ = some (.bool nb) ∧ wx.cell? ⟨w.heap.size, 1, none⟩ = some (.slice A (T.wlen x.natAbs) ca) ∧ wx.cell? ⟨w.heap.size + 1, 0, none⟩ = some (.bool nc) ∧ wx.cell? ⟨w.heap.size + 1, 1, none⟩ = some (.slice B (T.wlen y.natAbs) cb')) (first | exact ⟨c0, c1, c2, c3⟩ | exact ⟨k0, k1, k2, k3⟩ | exact ⟨j0, j1, j2, j3⟩ | exact ⟨cs2 j0 (by omega), cs2 j1 (by omega), cs2 j2 (by omega), cs2 j3 (by omega)⟩) (first | (go_at_call 179; refine (hmi.out _ hbD.out).mono ?_; rintro e w2 ⟨b2, A2, m2, cc2, rfl, hn2, hb2⟩; have k0 := cb hb2 c0; have k1 := cb hb2 c1; have k2 := cb hb2 c2; have k3 := cb hb2 c3; have kr0 := cb hb2 r0; have kr1 := cb hb2 r1; have kz0 := fb hb2 r0 z0; have kz1 := fb hb2 r1 z1; have hb3 := Hd.mk (hbD.out.trans (hb2.mono hbD.out.size)); have hl2 : w.heap.size + 1 + 1 < w2.heap.size := Nat.lt_of_lt_of_le hlW hb2.size; clear hb2; replace hn2 := Hd.mk hn2) | (go_at_call 92; refine (hpl.out _ w2 hb3.out hn2.out).mono ?_; rintro e w3 ⟨b3, A3, m3, c3', rfl, hn3, hb4⟩; have j0 := cb hb4 k0; have j1 := cb hb4 k1; have j2 := cb hb4 k2; have j3 := cb hb4 k3; have jr0 := cb hb4 kr0; have jr1 := cb hb4 kr1; have jz0 := fb hb4 kr0 kz0; have jz1 := fb hb4 kr1 kz1; have hb5 := Hd.mk (hb3.out.trans (hb4.mono hb3.out.size)); have hl3 : w.heap.size + 1 + 1 < w3.heap.size := Nat.lt_of_lt_of_le hl2 hb4.size; clear hb4; replace hn3 := Hd.mk hn3))
  all_goals
    have hfin := ret_num (u0 := .bool b3) (u1 := .slice A3 m3 c3') hb5.out (R := w.heap.size + 1 + 1) (by omega) jr0 jr1 hn3.out
    go_wp2
    refine bodyPost_ret (v := .agg #[.bool b3, .slice A3 m3 c3']) (by simp [results, Tryz.results93, go_sem, jr0, jr1, jz0, jz1, hl3]) rfl ⟨_, rfl, ?_, hfin.2⟩
    have h9 := hfin.1
    rwa [show x + -y = x - y by omega] at h9
end Go.Proofs.YtdbjdpooggaonaaGreatDoor
end

section
namespace Go.Proofs.YtdbjdpooggaonaaGreatDoor
namespace T
theorem val_sum (n : Nat) (f g : Nat → Nat) : val n (fun j => f j + g j) = val n f + val n g := by
  induction n with
  | zero => rfl
  | succ n ih => rw [val_succ, val_succ, val_succ, ih, Nat.add_mul]; omega
/-- Row i of the product, its first k columns. -/
def rowv (X Y : Nat → Nat) (i k j : Nat) : Nat := if i ≤ j ∧ j < i + k then X i * Y (j - i) else 0
/-- The columns of the first i rows, each of m columns. -/
def colv (X Y : Nat → Nat) (m : Nat) : Nat → Nat → Nat
  | 0, _ => 0
  | i + 1, j => colv X Y m i j + rowv X Y i m j
theorem rowv_zero (X Y : Nat → Nat) (i j : Nat) : rowv X Y i 0 j = 0 := if_neg (by omega)
theorem rowv_succ (X Y : Nat → Nat) (i k j : Nat) : rowv X Y i (k + 1) j = rowv X Y i k j + if j = i + k then X i * Y k else 0 := by
  unfold rowv
  by_cases h : j = i + k
  · subst h; rw [if_pos (by omega), if_neg (by omega), if_pos rfl, Nat.add_sub_cancel_left]; omega
  · rw [if_neg h]
    by_cases h2 : i ≤ j ∧ j < i + k
    · rw [if_pos (by omega), if_pos h2]; omega
    · rw [if_neg (by omega), if_neg h2]
theorem rowv_le {X Y : Nat → Nat} (hX : ∀ i, X i < 10) (hY : ∀ i, Y i < 10) (i k j : Nat) : rowv X Y i k j ≤ 81 := by
  unfold rowv
  split
  · have h1 := hX i
    have h2 := hY (j - i)
    exact Nat.le_trans (Nat.mul_le_mul (Nat.le_of_lt_succ h1) (Nat.le_of_lt_succ h2)) (by decide)
  · omega
theorem colv_le {X Y : Nat → Nat} (hX : ∀ i, X i < 10) (hY : ∀ i, Y i < 10) (m : Nat) : ∀ i j, colv X Y m i j ≤ 81 * i
  | 0, _ => Nat.le_refl _
  | i + 1, j => by have := colv_le hX hY m i j; have := rowv_le hX hY i m j; rw [colv]; omega
theorem val_single (N p c : Nat) (h : p < N) : val N (fun j => if j = p then c else 0) = c * BB ^ p := by
  induction N with
  | zero => omega
  | succ N ih =>
    rw [val_succ]
    by_cases hp : p = N
    · subst hp
      rw [val_zeros p (fun i hi => if_neg (by omega)), if_pos rfl]; omega
    · rw [ih (by omega), if_neg (by omega)]; omega
theorem val_rowv (X Y : Nat → Nat) (N i : Nat) : ∀ k, i + k ≤ N → val N (rowv X Y i k) = X i * BB ^ i * val k Y
  | 0, _ => by rw [val_zeros N (fun j _ => rowv_zero X Y i j)]; simp [val_zero]
  | k + 1, h => by
    have e : rowv X Y i (k + 1) = fun j => rowv X Y i k j + if j = i + k then X i * Y k else 0 := funext fun j => rowv_succ X Y i k j
    rw [e, val_sum, val_rowv X Y N i k (by omega), val_single N (i + k) _ (by omega), val_succ, Nat.pow_add, Nat.mul_add]
    congr 1
    ac_rfl
theorem val_colv (X Y : Nat → Nat) (N m : Nat) : ∀ i, i + m ≤ N + 1 → (0 < i → i - 1 + m ≤ N) → val N (colv X Y m i) = val i X * val m Y
  | 0, _, _ => by rw [val_zeros N (f := colv X Y m 0) (fun j _ => rfl), val_zero, Nat.zero_mul]
  | i + 1, h, h' => by
    have e : colv X Y m (i + 1) = fun j => colv X Y m i j + rowv X Y i m j := rfl
    rw [e, val_sum, val_colv X Y N m i (by omega) (by omega), val_rowv X Y N i m (by have := h' (by omega); omega), val_succ, Nat.add_mul]
/-- Carries of a row of columns. -/
def nC (F : Nat → Nat) : Nat → Nat
  | 0 => 0
  | j + 1 => (nC F j + F j) / 10
def nD (F : Nat → Nat) (j : Nat) : Nat := (nC F j + F j) % 10
theorem nD_lt (F : Nat → Nat) (j : Nat) : nD F j < 10 := Nat.mod_lt _ (by decide)
theorem n_law (F : Nat → Nat) : ∀ n, val n (nD F) + nC F n * BB ^ n = val n F
  | 0 => by simp [val_zero, nC]
  | n + 1 => by
    have ih := n_law F n
    rw [val_succ, val_succ, ← ih, nC, nD]
    have h := Nat.mod_add_div (nC F n + F n) 10
    have e : (nC F n + F n) % 10 * BB ^ n + (nC F n + F n) / 10 * BB ^ (n + 1) = (nC F n + F n) * BB ^ n := by
      rw [Nat.pow_succ, show (nC F n + F n) / 10 * (BB ^ n * BB) = (10 * ((nC F n + F n) / 10)) * BB ^ n by unfold BB; ac_rfl, ← Nat.add_mul, h]
    rw [Nat.add_mul] at e
    omega
theorem nC_le {F : Nat → Nat} {M : Nat} (h : ∀ j, F j ≤ 9 * M) : ∀ j, nC F j ≤ M
  | 0 => Nat.zero_le _
  | j + 1 => by have h1 := nC_le h j; have h2 := h j; rw [nC]; omega
/-- The product's digits. -/
theorem mul_val {a b na nb : Nat} (ha : na = wlen a) (hb : nb = wlen b) : val (na + nb) (nD (colv (dig a) (dig b) nb na)) = a * b := by
  have h1 := n_law (colv (dig a) (dig b) nb na) (na + nb)
  have h2 : val (na + nb) (colv (dig a) (dig b) nb na) = a * b := by
    rw [val_colv _ _ _ _ _ (by omega) (by omega), ha, hb, val_wlen, val_wlen]
  have h3 : a * b < BB ^ (na + nb) := by
    rw [Nat.pow_add, ha, hb]
    exact Nat.mul_lt_mul_of_lt_of_le (lt_wlen a) (Nat.le_of_lt (lt_wlen b)) (Nat.pow_pos (by unfold BB; decide))
  rw [h2] at h1
  rcases Nat.eq_zero_or_pos (nC (colv (dig a) (dig b) nb na) (na + nb)) with h4 | h4
  · rw [h4, Nat.zero_mul] at h1; omega
  · have h5 : BB ^ (na + nb) ≤ nC (colv (dig a) (dig b) nb na) (na + nb) * BB ^ (na + nb) := Nat.le_mul_of_pos_left _ h4
    omega
end T
end Go.Proofs.YtdbjdpooggaonaaGreatDoor
end
