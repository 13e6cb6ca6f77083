/- The reference's numbers: QuoRem. Conditions: those that each theorem states. -/
import Derived.Test.YtpabbnogfflgpaaGreatDoorBase19
set_option linter.all false

namespace Go.Proofs.YtpabbnogfflgpaaGreatDoor
open Go.RowKit
set_option maxRecDepth 100000
theorem NewS.mono {w w' : World} {v : Value} (h : NewS w' v) (hw : w.heap.size ≤ w'.heap.size) : NewS w v := by
  rcases h with h | ⟨K, n, c, h, hk⟩
  · exact .inl h
  · exact .inr ⟨K, n, c, h, Nat.le_trans hw hk⟩
theorem Chg.below_of {w w' wx : World} {K : Nat} (h : Chg w w' (some K)) (hb : Below wx.heap.size wx w) (hK : wx.heap.size ≤ K) : Below wx.heap.size wx w' :=
  ⟨h.os.trans hb.os, h.tape.trans hb.tape, h.output.trans hb.output, Nat.le_trans hb.size h.size, fun k hk => (h.block k (Nat.lt_of_lt_of_le hk hb.size) (by intro e; cases e; omega)).trans (hb.block k hk)⟩
theorem digs_made (n : Nat) (f : Nat → Nat) (h : ∀ i, i < n → f i = 0) : (madeCells #[.int .u8 0] n).toList = digs n f := by
  rw [toList_madeCells_one]
  apply List.ext_getElem?
  intro j
  by_cases hl : j < n
  · rw [digs_get hl, List.getElem?_replicate, if_pos hl, h j hl]; rfl
  · rw [List.getElem?_eq_none (by simp; omega), List.getElem?_eq_none (by simp [digs]; omega)]
theorem digs_length (n : Nat) (f : Nat → Nat) : (digs n f).length = n := by simp [digs]
theorem digs_set {n p c : Nat} {f g : Nat → Nat} (h : p < n) (hg : ∀ j, j < n → (if j = p then c else f j) = g j) : (digs n f).set p (.int .u8 ((c : Nat) : Int)) = digs n g := by
  apply List.ext_getElem?
  intro j
  rw [List.getElem?_set, digs_length]
  by_cases hj : p = j
  · subst hj; rw [if_pos rfl, if_pos h, digs_get h, ← hg p h, if_pos rfl]
  · rw [if_neg hj]
    by_cases hl : j < n
    · rw [digs_get hl, digs_get hl, ← hg j hl, if_neg (fun e => hj e.symm)]
    · rw [List.getElem?_eq_none (by rw [digs_length]; omega), List.getElem?_eq_none (by rw [digs_length]; omega)]
/-- A row that lies elsewhere stays, when a cell of block K is written. -/
theorem DS.set {w2 w : World} {v : Value} {n K p : Nat} {u : Value} {f : Nat → Nat} (h : DS w v n f) (hn : NewS w2 v) (hK : K < w2.heap.size) : DS (w.setCell ⟨K, p, none⟩ u) v n f := by
  obtain ⟨A, c, rfl, h1, h2, h3⟩ := h
  refine ⟨A, c, rfl, h1, h2, fun h0 => ?_⟩
  obtain ⟨K', o, rfl, h4⟩ := h3 h0
  refine ⟨K', o, rfl, fun i hi => ?_⟩
  rw [World.cell?_setCell_other]
  · exact h4 i hi
  · intro e
    cases e
    rcases hn with e | ⟨K3, n3, c3, e, hk⟩
    · cases e
    · cases e; omega
/-- Four boxes: two numbers and two results. -/
theorem boxes4 (w : World) (n1 n2 : Bool) (d1 d2 : Value) : let W := (((w.alloc (.cells #[.bool n1, d1] 24)).alloc (.cells #[.bool n2, d2] 24)).alloc (.cells #[.bool false, .slice none 0 0] 24)).alloc (.cells #[.bool false, .slice none 0 0] 24)
    Below w.heap.size w W ∧ W.heap.size = w.heap.size + 1 + 1 + 1 + 1 ∧ Blk W w.heap.size 24 [.bool n1, d1] ∧ Blk W (w.heap.size + 1) 24 [.bool n2, d2] ∧ Blk W (w.heap.size + 1 + 1) 24 [.bool false, .slice none 0 0] ∧ Blk W (w.heap.size + 1 + 1 + 1) 24 [.bool false, .slice none 0 0] := by
  intro W
  have s1 := World.size_alloc w (.cells #[.bool n1, d1] 24)
  have s2 := World.size_alloc (w.alloc (.cells #[.bool n1, d1] 24)) (.cells #[.bool n2, d2] 24)
  have s3 := World.size_alloc ((w.alloc (.cells #[.bool n1, d1] 24)).alloc (.cells #[.bool n2, d2] 24)) (.cells #[.bool false, .slice none 0 0] 24)
  have s4 := World.size_alloc (((w.alloc (.cells #[.bool n1, d1] 24)).alloc (.cells #[.bool n2, d2] 24)).alloc (.cells #[.bool false, .slice none 0 0] 24)) (.cells #[.bool false, .slice none 0 0] 24)
  have h1 := Blk.new w #[.bool n1, d1] 24
  have h2 := Blk.new (w.alloc (.cells #[.bool n1, d1] 24)) #[.bool n2, d2] 24
  have h3 := Blk.new ((w.alloc (.cells #[.bool n1, d1] 24)).alloc (.cells #[.bool n2, d2] 24)) #[.bool false, .slice none 0 0] 24
  have h4 := Blk.new (((w.alloc (.cells #[.bool n1, d1] 24)).alloc (.cells #[.bool n2, d2] 24)).alloc (.cells #[.bool false, .slice none 0 0] 24)) #[.bool false, .slice none 0 0] 24
  rw [s1] at h2
  rw [s2, s1] at h3
  rw [s3, s2, s1] at h4
  exact ⟨((((Below.refl _ _).alloc (Nat.le_refl _) _).alloc (by rw [s1]; omega) _).alloc (by rw [s2, s1]; omega) _).alloc (by rw [s3, s2, s1]; omega) _, by rw [s4, s3, s2, s1], ((h1.alloc _).alloc _).alloc _, (h2.alloc _).alloc _, h3.alloc _, h4⟩
set_option maxHeartbeats 8000000 in
theorem nquorem_any (v u : Value) (x y : Int) (w : World) (hx : NumV w v x) (hy : NumV w u y) (hlx : T.wlen x.natAbs < 1000) (hly : T.wlen y.natAbs < 900) (hy0 : y ≠ 0) :
    Calls Tryz.prog 87 #[v, u] w fun e w' => ∃ v1 v2, e = .returned (.tuple #[v1, v2]) ∧ NumV w' v1 (x.tdiv y) ∧ NumV w' v2 (x.tmod y) ∧ Below w.heap.size w w' := by
  obtain ⟨A, ca, rfl, hd⟩ := hx.open
  obtain ⟨B, cb', rfl, he⟩ := hy.open
  generalize hnb : decide (x < 0) = nb
  generalize hnc : decide (y < 0) = nc
  obtain ⟨hbW, hsW, hq1, hq2, hq3, hq4⟩ := boxes4 w nb nc (.slice A (T.wlen x.natAbs) ca) (.slice B (T.wlen y.natAbs) cb')
  generalize hw1 : (((w.alloc (.cells #[.bool nb, .slice A (T.wlen x.natAbs) ca] 24)).alloc (.cells #[.bool nc, .slice B (T.wlen y.natAbs) cb'] 24)).alloc (.cells #[.bool false, .slice none 0 0] 24)).alloc (.cells #[.bool false, .slice none 0 0] 24) = w1 at hbW hsW hq1 hq2 hq3 hq4
  clear hx hy
  have hY0 : 0 < y.natAbs := by omega
  have hqv : ((if (nb != nc) = true then -((x.natAbs / y.natAbs : Nat) : Int) else ((x.natAbs / y.natAbs : Nat) : Int)) = x.tdiv y) ∧ ((if nb = true then -((x.natAbs % y.natAbs : Nat) : Int) else ((x.natAbs % y.natAbs : Nat) : Int)) = x.tmod y) := by
    subst hnb hnc
    exact quo_sign x y
  generalize hX : x.natAbs = X at *
  generalize hY : y.natAbs = Y at *
  have hqt := T.quo_top X (T.wlen X) (Nat.le_refl _)
  have hqs : T.wlen (X / Y) ≤ T.wlen X := T.wlen_mono (Nat.div_le_self _ _)
  generalize hna : T.wlen X = na at *
  generalize hnb' : T.wlen Y = nb' at *
  have hmk := run_mkb na (by omega) w1
  have hb2 := Blk.new w1 (madeCells #[.int .u8 0] na) 5
  rw [digs_made na (T.qf (X / Y) na 0) (fun i hi => T.qf_start _ _ _ hqs)] at hb2
  have hbl2 : Below w1.heap.size w1 (w1.alloc (.cells (madeCells #[.int .u8 0] na) 5)) := (Below.refl _ _).alloc (Nat.le_refl _) _
  have hsz2 : (w1.alloc (.cells (madeCells #[.int .u8 0] na) 5)).heap.size = w1.heap.size + 1 := World.size_alloc _ _
  generalize w1.alloc (.cells (madeCells #[.int .u8 0] na) 5) = w2 at hmk hb2 hbl2 hsz2
  have hc0 : w1.cell? ⟨w.heap.size, 1, none⟩ = some (.slice A na ca) := hq1.cell 1
  have hc0' : w2.cell? ⟨w.heap.size, 1, none⟩ = some (.slice A na ca) := (hq1.of_heap (hbl2.block _ hq1.lt)).cell 1
  replace hq1 := hq1.of_heap (hbl2.block _ hq1.lt)
  replace hq2 := hq2.of_heap (hbl2.block _ hq2.lt)
  replace hq3 := hq3.of_heap (hbl2.block _ hq3.lt)
  replace hq4 := hq4.of_heap (hbl2.block _ hq4.lt)
  have hbw2 := hbW.trans (hbl2.mono hbW.size)
  generalize hB2 : w1.heap.size = B2 at *
  have hkeep : Hd (∀ wr, Chg w2 wr (some B2) → Blk wr w.heap.size 24 [.bool nb, .slice A na ca] ∧ Blk wr (w.heap.size + 1) 24 [.bool nc, .slice B nb' cb'] ∧ Blk wr (w.heap.size + 1 + 1) 24 [.bool false, .slice none 0 0] ∧ Blk wr (w.heap.size + 1 + 1 + 1) 24 [.bool false, .slice none 0 0] ∧ Below w.heap.size w wr) := ⟨fun wr hp => ⟨hq1.of_heap (hp.block _ hq1.lt (by intro e; cases e; omega)), hq2.of_heap (hp.block _ hq2.lt (by intro e; cases e; omega)), hq3.of_heap (hp.block _ hq3.lt (by intro e; cases e; omega)), hq4.of_heap (hp.block _ hq4.lt (by intro e; cases e; omega)), hp.below_of hbw2 (by omega)⟩⟩
  have hB2lt : B2 < w2.heap.size := by omega
  have hchg0 := Chg.refl w2 (some B2)
  obtain ⟨RF, hRF⟩ : ∃ RF : Nat → Nat, ∀ k, RF k = X / 10 ^ k % Y := ⟨fun k => X / 10 ^ k % Y, fun _ => rfl⟩
  have hRst : Hd (∀ k, RF k = (10 * RF (k + 1) + T.dig X k) % Y) := ⟨fun k => by rw [hRF, hRF]; exact T.rem_step X Y k⟩
  have hQdg : Hd (∀ k, T.dig (X / Y) k = (10 * RF (k + 1) + T.dig X k) / Y) := ⟨fun k => by rw [hRF]; exact T.quo_digit X Y k hY0⟩
  have hRlt : Hd (∀ k, RF k < Y) := ⟨fun k => by rw [hRF]; exact Nat.mod_lt _ hY0⟩
  have hR00 : RF 0 = X % Y := by rw [hRF, Nat.pow_zero, Nat.div_one]
  have hRna : RF na = 0 := by rw [hRF, hqt, Nat.zero_mod]
  have hw0 : T.wlen 0 = 0 := Nat.le_zero.1 (T.wlen_le (n := 0) (by decide))
  have hds0 : DS w2 (.slice none 0 0) (T.wlen (RF na)) (T.dig (RF na)) := by
    rw [hRna, hw0]
    exact ⟨none, 0, rfl, Nat.le_refl _, Nat.zero_le _, fun h => by omega⟩
  have hvq : T.val na (T.qf (X / Y) 0 0) = X / Y := by
    rw [T.val_ext (g := T.dig (X / Y)) (fun i _ => by unfold T.qf; rw [if_pos (Nat.zero_le _)])]
    exact T.val_dig_of_lt ((T.wlen_le_iff na (X / Y)).1 hqs)
  have hwY : T.wlen Y = nb' := hnb'
  clear hRF hqt hqs
  generalize X / Y = Q at *
  have hdX := Hd.mk fun k => T.dig_lt X k
  have hwl10 := Hd.mk fun v (h : v < 10 * Y) => T.wlen_mul10 (v := v) (Y := Y) (n := nb') (by omega) h
  have heY := Hd.mk fun w' (hb : Below w.heap.size w w') => (show DS w' (.slice B nb' cb') (T.wlen Y) (T.dig Y) from by rw [hwY]; exact he.below hb)
  replace hvq := Hd.mk hvq
  replace hwY := Hd.mk hwY
  replace hds0 := Hd.mk hds0
  replace hw0 := Hd.mk hw0
  replace hRna := Hd.mk hRna
  replace hR00 := Hd.mk hR00
  replace hqv := Hd.mk hqv
  replace hd := Hd.mk hd
  replace he := Hd.mk he
  replace hb2 := Hd.mk hb2
  replace hbl2 := Hd.mk hbl2
  replace hsz2 := Hd.mk hsz2
  replace hbW := Hd.mk hbW
  replace hbw2 := Hd.mk hbw2
  replace hchg0 := Hd.mk hchg0
  replace hq1 := Hd.mk hq1
  replace hq2 := Hd.mk hq2
  replace hq3 := Hd.mk hq3
  replace hq4 := Hd.mk hq4
  replace hnb := Hd.mk hnb
  replace hnc := Hd.mk hnc
  replace hX := Hd.mk hX
  replace hY := Hd.mk hY
  replace hna := Hd.mk hna
  replace hnb' := Hd.mk hnb'
  replace hB2 := Hd.mk hB2
  replace hsW := Hd.mk hsW
  replace hB2lt := Hd.mk hB2lt
  have hwi : IntKind.i64.wrap ((na : Int) - 1) = (na : Int) - 1 := IntWalk.i64_in _ (by omega)
  go_enter Tryz.func87, Tryz.ntmps87
  go_wp2
  replace hw1 := Hd.mk hw1
  go_loopw [7, 8] (fun r i wr => ∃ k : Nat, k ≤ na ∧ i = .int .i64 ((k : Int) - 1) ∧ Hd (Chg w2 wr (some B2)) ∧ Hd (Blk wr B2 5 (digs na (T.qf Q k 0))) ∧ Hd (NewS w2 r) ∧ Hd (DS wr r (T.wlen (RF k)) (T.dig (RF k)))) (fun _ i _ => (intOf i + 1).toNat)
  case atStart => exact ⟨na, Nat.le_refl _, rfl, hchg0, hb2, ⟨.inl rfl⟩, hds0⟩
  case round =>
    obtain ⟨k, hk, rfl, hch, hbq, hnr, hdr⟩ := hrel
    obtain ⟨r1, r2, r3, r4, rb⟩ := hkeep.out _ hch.out
    have d1 := r1.cell 1
    have d2 := r2.cell 1
    simp only [List.getElem?_cons_succ, List.getElem?_cons_zero] at d1 d2
    rcases Nat.eq_zero_or_pos k with hk0 | hk0
    · subst hk0
      obtain ⟨Ar, cr, hre, hdr'⟩ : ∃ Ar cr, _ = Value.slice Ar (T.wlen (RF 0)) cr ∧ True := by
        obtain ⟨Ar, cr, e, _⟩ := hdr.out
        exact ⟨Ar, cr, e, trivial⟩
      subst hre
      have hqd0 : DS wr (.slice (some ⟨B2, 0, none⟩) na na) na (T.qf Q 0 0) := ⟨_, _, rfl, Nat.le_refl _, by unfold maxLen; omega, fun _ => ⟨B2, 0, rfl, fun i hi => by rw [Nat.zero_add]; exact (hbq.out.cell i).trans (digs_get hi)⟩⟩
      have hs1 := Hd.mk fun w5 (hb : Below wr.heap.size wr w5) => nv (signed_any (nb != nc) _ na (T.qf Q 0 0) w5 (hqd0.below hb) (fun i _ => T.qf_lt (by omega)) (by omega))
      rw [hvq.out, hqv.out.1] at hs1
      have hwR : T.wlen (RF 0) < 1000 := by
        have h1 := T.wlen_mono (Nat.le_of_lt (hRlt.out 0))
        have h2 := hwY.out
        omega
      have hs2 := Hd.mk fun w5 (hb : Below wr.heap.size wr w5) => nv (signed_any nb _ (T.wlen (RF 0)) (T.dig (RF 0)) w5 (hdr.out.below hb) (fun i _ => T.dig_lt _ i) (by omega))
      rw [T.val_wlen, (show (if nb = true then -((RF 0 : Nat) : Int) else ((RF 0 : Nat) : Int)) = x.tmod y by rw [hR00.out]; exact hqv.out.2)] at hs2
      have c0 : wr.drew.cell? ⟨w.heap.size, 0, none⟩ = some (.bool nb) := r1.cell 0
      have c2 : wr.drew.cell? ⟨w.heap.size + 1, 0, none⟩ = some (.bool nc) := r2.cell 0
      have p0 : wr.drew.cell? ⟨w.heap.size + 1 + 1, 0, none⟩ = some (.bool false) := r3.cell 0
      have p1 : wr.drew.cell? ⟨w.heap.size + 1 + 1, 1, none⟩ = some (.slice none 0 0) := r3.cell 1
      have p2 : wr.drew.cell? ⟨w.heap.size + 1 + 1 + 1, 0, none⟩ = some (.bool false) := r4.cell 0
      have p3 : wr.drew.cell? ⟨w.heap.size + 1 + 1 + 1, 1, none⟩ = some (.slice none 0 0) := r4.cell 1
      have z0 : wr.drew.frozen? ⟨w.heap.size + 1 + 1, 0, none⟩ = false := r3.frozen 0
      have z1 : wr.drew.frozen? ⟨w.heap.size + 1 + 1, 1, none⟩ = false := r3.frozen 1
      have z2 : wr.drew.frozen? ⟨w.heap.size + 1 + 1 + 1, 0, none⟩ = false := r4.frozen 0
      have z3 : wr.drew.frozen? ⟨w.heap.size + 1 + 1 + 1, 1, none⟩ = false := r4.frozen 1
      have hbD : Hd (Below wr.heap.size wr wr.drew) := ⟨⟨rfl, rfl, rfl, Nat.le_refl _, fun _ _ => rfl⟩⟩
      replace r1 := Hd.mk r1
      replace r2 := Hd.mk r2
      replace r3 := Hd.mk r3
      replace r4 := Hd.mk r4
      replace rb := Hd.mk rb
      replace hqd0 := Hd.mk hqd0
      clear d1 d2
      have hbf := Hd.mk (rb.out)
      go_wp2
      clear hc0 hc0' hmk hkeep hRst hRlt hQdg hdX hwl10 heY hvq hwY hds0 hw0 hRna hqv hd he hb2 hbl2 hsz2 hbW hbw2 hchg0 hq1 hq2 hq3 hq4 hX hY hna hnb' hB2 hsW hB2lt hw1 hch hbq hnr hdr hqd0 r1 r2 r3 r4 rb hwi hR00 hnb hnc hwR
      go_region_held3 (fun wx => wx.cell? ⟨w.heap.size, 0, none⟩ = some (.bool nb) ∧ wx.cell? ⟨w.heap.size + 1, 0, none⟩ = some (.bool nc)) (first | exact ⟨c0, c2⟩ | exact ⟨k0, k2⟩ | exact ⟨j0, j2⟩ | exact ⟨cs2 j0 (by omega), cs2 j2 (by omega)⟩ | exact ⟨cs2 (cs2 j0 (by omega)) (by omega), cs2 (cs2 j2 (by omega)) (by omega)⟩) (first | (go_at_call 37; refine (hs2.out _ hb6.out).mono ?_; rintro e w6 ⟨b6, A6, m6, cc6, rfl, hn6, hb7⟩; have j0 := cb hb7 k0; have j2 := cb hb7 k2; have jp0 := cb hb7 kp0; have jp1 := cb hb7 kp1; have jp2 := cb hb7 kp2; have jp3 := cb hb7 kp3; have jz0 := Go.Proofs.YtpabbnogfflgpaaGreatDoor.fb hb7 kp0 kz0; have jz1 := Go.Proofs.YtpabbnogfflgpaaGreatDoor.fb hb7 kp1 kz1; have jz2 := Go.Proofs.YtpabbnogfflgpaaGreatDoor.fb hb7 kp2 kz2; have jz3 := Go.Proofs.YtpabbnogfflgpaaGreatDoor.fb hb7 kp3 kz3; have hb8 := Hd.mk (hb6.out.trans (hb7.mono hb6.out.size)); replace hn5 := Hd.mk (hn5.out.below hb7); clear hb7; replace hn6 := Hd.mk hn6) | (go_at_call 37; refine (hs1.out _ hbD.out).mono ?_; rintro e w5 ⟨b5, A5, m5, cc5, rfl, hn5, hb5⟩; have k0 := cb hb5 c0; have k2 := cb hb5 c2; have kp0 := cb hb5 p0; have kp1 := cb hb5 p1; have kp2 := cb hb5 p2; have kp3 := cb hb5 p3; have kz0 := Go.Proofs.YtpabbnogfflgpaaGreatDoor.fb hb5 p0 z0; have kz1 := Go.Proofs.YtpabbnogfflgpaaGreatDoor.fb hb5 p1 z1; have kz2 := Go.Proofs.YtpabbnogfflgpaaGreatDoor.fb hb5 p2 z2; have kz3 := Go.Proofs.YtpabbnogfflgpaaGreatDoor.fb hb5 p3 z3; have hb6 := Hd.mk (hbD.out.trans (hb5.mono hbD.out.size)); clear hb5; replace hn5 := Hd.mk hn5))
      all_goals
        have hbt := hbf.out.trans (hb8.out.mono hbf.out.size)
        have f1 := ret_num (u0 := .bool b5) (u1 := .slice A5 m5 cc5) hbt (R := w.heap.size + 1 + 1) (by omega) jp0 jp1 hn5.out
        have f2 := ret_num (u0 := .bool b5) (u1 := .slice A5 m5 cc5) hbt (R := w.heap.size + 1 + 1) (by omega) jp0 jp1 hn6.out
        have g1 := ret_num (u0 := .bool b6) (u1 := .slice A6 m6 cc6) f1.2 (R := w.heap.size + 1 + 1 + 1) (by omega) (cs2 jp2 (by omega)) (cs2 jp3 (by omega)) f1.1
        have g2 := ret_num (u0 := .bool b6) (u1 := .slice A6 m6 cc6) f1.2 (R := w.heap.size + 1 + 1 + 1) (by omega) (cs2 jp2 (by omega)) (cs2 jp3 (by omega)) f2.1
        have hl6 : w.heap.size + 1 + 1 + 1 < w6.heap.size := World.block_lt_of_cell? w6 _ jp2
        have hl5 : w.heap.size + 1 + 1 < w6.heap.size := World.block_lt_of_cell? w6 _ jp0
        replace hbt := Hd.mk hbt
        replace f1 := Hd.mk f1
        replace f2 := Hd.mk f2
        replace g1 := Hd.mk g1
        replace g2 := Hd.mk g2
        go_wp2
        refine bodyPost_ret (v := .tuple #[.agg #[.bool b5, .slice A5 m5 cc5], .agg #[.bool b6, .slice A6 m6 cc6]]) (by simp [results, Tryz.results87, go_sem, jp0, jp1, jp2, jp3, jz0, jz1, jz2, jz3, hl5, hl6]) rfl ⟨_, _, rfl, g1.out.1, g2.out.1, g1.out.2⟩
    · obtain ⟨k, rfl⟩ : ∃ j, k = j + 1 := ⟨k - 1, by omega⟩
      rw [show ((k + 1 : Nat) : Int) - 1 = (k : Int) by omega]
      obtain ⟨A', ca', e1, hca1, hca2, hc1⟩ := hd.out.below rb
      cases e1
      obtain ⟨KA, oa, hA, hx1⟩ := hc1 (by omega)
      clear hc1
      subst hA
      have hxm := hx1 k (by omega)
      have hRl := hRlt.out (k + 1)
      have hdg10 : T.dig X k < 10 := hdX.out k
      have hst := hRst.out k
      have hqd := hQdg.out k
      have hwr := hwl10.out (RF (k + 1)) (by omega)
      replace hx1 := Hd.mk hx1
      have hszr := hch.out.size
      obtain ⟨Ar, cr, hre, hdr'⟩ : ∃ Ar cr, _ = Value.slice Ar (T.wlen (RF (k + 1))) cr ∧ True := by
        obtain ⟨Ar, cr, e, _⟩ := hdr.out
        exact ⟨Ar, cr, e, trivial⟩
      subst hre
      generalize hv0 : 10 * RF (k + 1) + T.dig X k = v0 at *
      have hv10 : v0 < 10 * Y := by omega
      have hval0 : T.val (T.wlen (RF (k + 1)) + 1) (fun j => if j = 0 then T.dig X k else T.dig (RF (k + 1)) (j - 1)) = v0 := by
        rw [T.val_front, T.val_wlen, ← hv0]; omega
      have hfl0 : ∀ i, i < T.wlen (RF (k + 1)) + 1 → (if i = 0 then T.dig X k else T.dig (RF (k + 1)) (i - 1)) < 10 := fun i _ => by
        split
        · exact hdg10
        · exact T.dig_lt _ _
      have htrim := Hd.mk fun A1 c1 w3 (h : DS w3 (.slice A1 (T.wlen (RF (k + 1)) + 1) c1) (T.wlen (RF (k + 1)) + 1) (fun j => if j = 0 then T.dig X k else T.dig (RF (k + 1)) (j - 1))) => trim_any A1 _ c1 _ w3 h hfl0 (by omega)
      have htd := Hd.mk fun A1 c1 w3 (h : DS w3 (.slice A1 (T.wlen (RF (k + 1)) + 1) c1) (T.wlen (RF (k + 1)) + 1) (fun j => if j = 0 then T.dig X k else T.dig (RF (k + 1)) (j - 1))) => h.trimmed hfl0
      rw [hval0] at htrim htd
      have hwv : T.wlen v0 ≤ T.wlen (RF (k + 1)) + 1 := hval0 ▸ T.wlen_le (T.val_lt hfl0)
      replace r1 := Hd.mk r1
      replace r2 := Hd.mk r2
      replace r3 := Hd.mk r3
      replace r4 := Hd.mk r4
      replace rb := Hd.mk rb
      replace hval0 := Hd.mk hval0
      replace hfl0 := Hd.mk hfl0
      replace hst := Hd.mk hst
      replace hqd := Hd.mk hqd
      replace hv0 := Hd.mk hv0
      generalize hdk : T.dig X k = dk at *
      replace hdk := Hd.mk hdk
      go_wp2_with (first | (at_builtin; refine wpList_front rfl (.tmp 26) (.tmp 27) rfl dk (T.wlen (RF (k + 1))) (T.dig (RF (k + 1))) _ rfl rfl hdr.out hnr.out hszr (by omega) ?_; intro A1 c1 w3 how; have htr3 := htrim.out A1 c1 w3 how.ds; replace htr3 := Hd.mk htr3; replace how := Hd.mk how) | (go_at_call 124; refine htr3.out.mono ?_; rintro e w4 ⟨rfl, rfl⟩))
      have hch3 := Hd.mk (hch.out.step (Chg.of_below how.out.bel none) (fun K e => by cases e))
      have hbq3 := Hd.mk (hbq.out.of_heap (how.out.bel.block _ hbq.out.lt))
      have hnr3 := Hd.mk ((how.out.newS hwv).mono hszr)
      have hdr3 := Hd.mk (htd.out _ _ _ how.out.ds)
      go_loopw [7] (fun r w4 => ∃ t s : Nat, Hd (s = t * Y) ∧ s ≤ v0 ∧ Hd (Chg w2 w4 (some B2)) ∧ Hd (Blk w4 B2 5 (digs na (T.qf Q (k + 1) t))) ∧ Hd (NewS w2 r) ∧ Hd (DS w4 r (T.wlen (v0 - s)) (T.dig (v0 - s)))) (fun _ w4 => 10 - (intOf ((w4.cell? ⟨B2, k, none⟩).getD undef)).toNat)
      case atStart => exact ⟨0, 0, ⟨(Nat.zero_mul _).symm⟩, Nat.zero_le _, hch3, hbq3, hnr3, hdr3⟩
      case round =>
        obtain ⟨t, s, hs, hsv, hch4, hbq4, hnr4, hdr4⟩ := hrel
        obtain ⟨s1, s2, s3, s4, sb⟩ := hkeep.out _ hch4.out
        have d3 := s2.cell 1
        simp only [List.getElem?_cons_succ, List.getElem?_cons_zero] at d3
        have ht10 : t < 10 := Nat.lt_of_mul_lt_mul_right (a := Y) (by rw [← hs.out]; omega)
        obtain ⟨Ar4, cr4, hre, hdr4'⟩ : ∃ Ar cr, _ = Value.slice Ar (T.wlen (v0 - s)) cr ∧ True := by
          obtain ⟨Ar, cr, e, _⟩ := hdr4.out
          exact ⟨Ar, cr, e, trivial⟩
        subst hre
        have hwvs : T.wlen (v0 - s) < 1000 := by
          have := T.wlen_mono (Nat.sub_le v0 s)
          omega
        have hcm := Hd.mk (compare_any _ _ (v0 - s) Y _ hdr4.out (heY.out _ sb) hwvs)
        have hcell4 := (hbq4.out.cell k).trans (digs_get (f := T.qf Q (k + 1) t) (by omega))
        have hqk : T.qf Q (k + 1) t k = t := by unfold T.qf; rw [if_neg (by omega), if_pos rfl]
        rw [hqk] at hcell4
        replace s1 := Hd.mk s1
        replace s2 := Hd.mk s2
        replace s3 := Hd.mk s3
        replace s4 := Hd.mk s4
        by_cases hge : Y ≤ v0 - s
        · have hle := Hd.mk fun w5 (hb : Below _ _ w5) => less_new _ _ (v0 - s) Y w5 (hdr4.out.below hb) (heY.out w5 (sb.trans (hb.mono sb.size))) hwvs hge
          have hc9 : decide (0 ≤ cmpN (v0 - s) Y) = true := by unfold cmpN; split; (· omega); (· split <;> rfl)
          generalize cmpN (v0 - s) Y = cm at *
          have hw8 : IntKind.u8.wrap ((t : Int) + 1) = (t : Int) + 1 := IntWalk.u8_in _ (by omega)
          replace sb := Hd.mk sb
          go_wp2_with (first | (go_at_call 53; refine hcm.out.mono ?_; rintro e w5 ⟨rfl, q, rfl⟩) | (go_at_call 74; refine (hle.out _ (below_drewN _ q)).mono ?_; rintro e w6 ⟨v6, rfl, hd6, hb6, hn6⟩; obtain ⟨A6, c6, hv6, hd6x⟩ := hd6; subst hv6; have hd6 := Hd.mk (show DS w6 _ _ _ from ⟨A6, c6, rfl, hd6x⟩); clear hd6x; have hbq6 := hbq4.out.of_heap (hb6.block _ hbq4.out.lt); have hcell6 := (hbq6.cell k).trans (digs_get (f := T.qf Q (k + 1) t) (by omega)); rw [hqk] at hcell6; have hfr6 := hbq6.frozen k; have hch6 := Hd.mk ((hch4.out.drewN q).step (Chg.of_below hb6 none) (fun K e => by cases e)); replace hbq6 := Hd.mk hbq6; have hn6 := Hd.mk (hn6.mono (w := w2) (hch4.out.drewN q).size); clear hb6))
          go_roundw
          case rel =>
            have hput := (Put.refl hbq6.out).set k (.int .u8 ((t : Int) + 1))
            have hset := digs_set (n := na) (p := k) (c := t + 1) (f := T.qf Q (k + 1) t) (g := T.qf Q (k + 1) (t + 1)) (by omega) (fun j _ => T.qf_set Q k t (t + 1) j)
            rw [show ((t + 1 : Nat) : Int) = (t : Int) + 1 by omega] at hset
            refine ⟨t + 1, s + Y, ⟨by rw [hs.out, Nat.succ_mul]⟩, by omega, ⟨hch6.out.put hput (.inl rfl)⟩, ⟨hset ▸ hput.here⟩, hn6, ⟨?_⟩⟩
            rw [show v0 - (s + Y) = v0 - s - Y by omega]
            exact hd6.out.set hn6.out hB2lt.out
          case measure =>
            rw [World.cell?_setCell_same' _ _ _ (by rw [hcell6]; rfl), hcell4]
            simp [intOf]; omega
        · have hc9 : decide (0 ≤ cmpN (v0 - s) Y) = false := by rw [cmpN_lt (by omega)]; rfl
          generalize cmpN (v0 - s) Y = cm at *
          have ht1 : v0 / Y = t := Nat.div_eq_of_lt_le (by rw [← hs.out]; exact hsv) (by rw [Nat.succ_mul, ← hs.out]; omega)
          have hRk : RF k = v0 - s := by
            have e1 := hst.out
            have e2 := Nat.div_add_mod v0 Y
            rw [ht1, Nat.mul_comm, ← hs.out] at e2
            omega
          have hQk : T.dig Q k = t := by rw [hqd.out, ht1]
          have hwk : IntKind.i64.wrap ((k : Int) - 1) = (k : Int) - 1 := IntWalk.i64_in _ (by omega)
          replace sb := Hd.mk sb
          replace ht1 := Hd.mk ht1
          replace hRk := Hd.mk hRk
          replace hQk := Hd.mk hQk
          replace hqk := Hd.mk hqk
          go_wp2_with (go_at_call 53; refine hcm.out.mono ?_; rintro e w5 ⟨rfl, q, rfl⟩)
          go_roundw
          case rel =>
            refine ⟨k, by omega, rfl, ⟨hch4.out.drewN q⟩, ⟨?_⟩, hnr4, ⟨?_⟩⟩
            · have e := hbq4.out.drewN q
              rw [← hQk.out] at e
              rwa [show digs na (T.qf Q (k + 1) (T.dig Q k)) = digs na (T.qf Q k 0) from by rw [show T.qf Q (k + 1) (T.dig Q k) = T.qf Q k 0 from funext fun j => T.qf_next Q k j]] at e
            · rw [hRk.out]; exact hdr4.out.below (below_drewN _ q)
          case measure => simp [intOf] <;> omega
end Go.Proofs.YtpabbnogfflgpaaGreatDoor
