/- The reference's numbers: Mul. Quotients digit by digit: the plain law at base ten. Conditions: those that each theorem states. -/
import Derived.BigRegion
import Derived.Test.YtdbjdpooggaonaaGreatDoorBase18
set_option linter.all false

section
namespace Go.Proofs.YtdbjdpooggaonaaGreatDoor
open Go.RowKit
set_option maxRecDepth 100000
theorem intInfo1 : (Tryz.prog.info? 3).map (fun i => (i.zero, i.size, i.bytes)) = some (some (.int .i64 0), 1, 8) := by kernel_rfl
theorem run_mki (n : Nat) (hc : n ≤ 400000) (w : World) :
    (Instr.makeSlice 59 (.int .i64 n) (.int .i64 n)).run Tryz.prog w = .ok (.slice (some ⟨w.heap.size, 0, none⟩) n n) (w.alloc (.cells (madeCells #[.int .i64 0] n) 3)) := by
  obtain ⟨j, hj, hz, hs, hb⟩ := info_parts intInfo1
  have := run_makeSlice (w := w) 59 3 j (.int .i64 0) Tryz.underlying59 hj hz .i64 .i64 n n (by omega) (by omega) (by rw [hs]; omega) (by rw [hb]; omega) (by omega)
  rw [hs] at this
  simpa [Value.cells] using this
/-- A row of ints. -/
def ints (n : Nat) (f : Nat → Nat) : List Value := (List.range n).map fun i => .int .i64 ((f i : Nat) : Int)
theorem ints_get {n i : Nat} {f : Nat → Nat} (h : i < n) : (ints n f)[i]? = some (.int .i64 ((f i : Nat) : Int)) := by
  unfold ints; rw [List.getElem?_map, List.getElem?_range h]; rfl
theorem ints_length (n : Nat) (f : Nat → Nat) : (ints n f).length = n := by simp [ints]
theorem ints_congr {n : Nat} {f g : Nat → Nat} (h : ∀ i, i < n → f i = g i) : ints n f = ints n g := by
  unfold ints
  apply List.map_congr_left
  intro i hi
  rw [h i (List.mem_range.1 hi)]
theorem ints_set {n p c : Nat} {f : Nat → Nat} (h : p < n) : (ints n f).set p (.int .i64 ((f p + c : Nat) : Int)) = ints n (fun j => f j + if j = p then c else 0) := by
  apply List.ext_getElem?
  intro j
  rw [List.getElem?_set, ints_length]
  by_cases hj : p = j
  · subst hj; rw [if_pos rfl, if_pos h, ints_get h, if_pos rfl]
  · rw [if_neg hj]
    by_cases hl : j < n
    · rw [ints_get hl, ints_get hl, if_neg (fun e => hj e.symm), Nat.add_zero]
    · rw [List.getElem?_eq_none (by rw [ints_length]; omega), List.getElem?_eq_none (by rw [ints_length]; omega)]
theorem ints_made (n : Nat) : (madeCells #[.int .i64 0] n).toList = ints n (fun _ => 0) := by
  rw [toList_madeCells_one]
  apply List.ext_getElem?
  intro j
  by_cases hl : j < n
  · rw [ints_get hl, List.getElem?_replicate, if_pos hl]; rfl
  · rw [List.getElem?_eq_none (by simp; omega), List.getElem?_eq_none (by rw [ints_length]; omega)]
set_option maxHeartbeats 8000000 in
theorem ntimes_any (v u : Value) (x y : Int) (w : World) (hx : NumV w v x) (hy : NumV w u y) (hlx : T.wlen x.natAbs < 1000) (hly : T.wlen y.natAbs < 1000) :
    Calls Tryz.prog 29 #[v, u] w fun e w' => ∃ v, e = .returned v ∧ NumV w' v (x * y) ∧ Below w.heap.size w w' := by
  obtain ⟨A, ca, rfl, hd⟩ := hx.open
  obtain ⟨B, cb', rfl, he⟩ := hy.open
  generalize hnb : decide (x < 0) = nb
  generalize hnc : decide (y < 0) = nc
  obtain ⟨hbW, hsW⟩ := boxes3 w nb nc (.slice A (T.wlen x.natAbs) ca) (.slice B (T.wlen y.natAbs) cb')
  have hq : (Blk (((w.alloc (.cells #[.bool nb, .slice A (T.wlen x.natAbs) ca] 24)).alloc (.cells #[.bool nc, .slice B (T.wlen y.natAbs) cb'] 24)).alloc (.cells #[.bool false, .slice none 0 0] 24)) w.heap.size 24 [.bool nb, .slice A (T.wlen x.natAbs) ca]) ∧ (Blk (((w.alloc (.cells #[.bool nb, .slice A (T.wlen x.natAbs) ca] 24)).alloc (.cells #[.bool nc, .slice B (T.wlen y.natAbs) cb'] 24)).alloc (.cells #[.bool false, .slice none 0 0] 24)) (w.heap.size + 1) 24 [.bool nc, .slice B (T.wlen y.natAbs) cb']) ∧ (Blk (((w.alloc (.cells #[.bool nb, .slice A (T.wlen x.natAbs) ca] 24)).alloc (.cells #[.bool nc, .slice B (T.wlen y.natAbs) cb'] 24)).alloc (.cells #[.bool false, .slice none 0 0] 24)) (w.heap.size + 1 + 1) 24 [.bool false, .slice none 0 0]) := by
    have h1 := ((Blk.new w #[.bool nb, .slice A (T.wlen x.natAbs) ca] 24).alloc (.cells #[.bool nc, .slice B (T.wlen y.natAbs) cb'] 24)).alloc (.cells #[.bool false, .slice none 0 0] 24)
    have h2 := (Blk.new (w.alloc (.cells #[.bool nb, .slice A (T.wlen x.natAbs) ca] 24)) #[.bool nc, .slice B (T.wlen y.natAbs) cb'] 24).alloc (.cells #[.bool false, .slice none 0 0] 24)
    have h3 := Blk.new ((w.alloc (.cells #[.bool nb, .slice A (T.wlen x.natAbs) ca] 24)).alloc (.cells #[.bool nc, .slice B (T.wlen y.natAbs) cb'] 24)) #[.bool false, .slice none 0 0] 24
    rw [World.size_alloc] at h2
    rw [World.size_alloc, World.size_alloc] at h3
    exact ⟨h1, h2, h3⟩
  generalize hw1 : (((w.alloc (.cells #[.bool nb, .slice A (T.wlen x.natAbs) ca] 24)).alloc (.cells #[.bool nc, .slice B (T.wlen y.natAbs) cb'] 24)).alloc (.cells #[.bool false, .slice none 0 0] 24)) = w1 at hbW hsW hq
  have hfa := Hd.mk fun i => T.dig_lt x.natAbs i
  have hfb := Hd.mk fun i => T.dig_lt y.natAbs i
  have hval : T.val (T.wlen x.natAbs + T.wlen y.natAbs) (T.nD (T.colv (T.dig x.natAbs) (T.dig y.natAbs) (T.wlen y.natAbs) (T.wlen x.natAbs))) = x.natAbs * y.natAbs := T.mul_val rfl rfl
  clear hx hy
  generalize T.dig x.natAbs = fa at *
  generalize T.dig y.natAbs = fb at *
  generalize hna : T.wlen x.natAbs = na at *
  generalize hnb' : T.wlen y.natAbs = nb' at *
  clear hna hnb'
  obtain ⟨N, hN⟩ : ∃ N, N = na + nb' := ⟨_, rfl⟩
  rw [← hN] at hval
  have hNB : N < 2000 := by omega
  have hmk := run_mki N (by omega) w1
  have hb2 := Blk.new w1 (madeCells #[.int .i64 0] N) 3
  rw [ints_made] at hb2
  have hbl2 : Below w1.heap.size w1 (w1.alloc (.cells (madeCells #[.int .i64 0] N) 3)) := (Below.refl _ _).alloc (Nat.le_refl _) _
  have hsz2 : (w1.alloc (.cells (madeCells #[.int .i64 0] N) 3)).heap.size = w1.heap.size + 1 := World.size_alloc _ _
  generalize w1.alloc (.cells (madeCells #[.int .i64 0] N) 3) = w2 at hmk hb2 hbl2 hsz2
  obtain ⟨hq1, hq2, hq3⟩ := hq
  have hc0 : w1.cell? ⟨w.heap.size, 1, none⟩ = some (.slice A na ca) ∧ w1.cell? ⟨w.heap.size + 1, 1, none⟩ = some (.slice B nb' cb') := ⟨hq1.cell 1, hq2.cell 1⟩
  replace hq1 := hq1.of_heap (hbl2.block _ hq1.lt)
  replace hq2 := hq2.of_heap (hbl2.block _ hq2.lt)
  replace hq3 := hq3.of_heap (hbl2.block _ hq3.lt)
  have hbw2 := hbW.trans (hbl2.mono hbW.size)
  generalize hB2 : w1.heap.size = B2 at *
  have hBge : w.heap.size + 1 + 1 + 1 = B2 := hsW.symm
  have hkeep : Hd (∀ wr xs, Put w2 wr B2 3 xs → Blk wr w.heap.size 24 [.bool nb, .slice A na ca] ∧ Blk wr (w.heap.size + 1) 24 [.bool nc, .slice B nb' cb'] ∧ Blk wr (w.heap.size + 1 + 1) 24 [.bool false, .slice none 0 0] ∧ Below w.heap.size w wr) := ⟨fun wr xs hp => ⟨hp.blk hq1 (by omega), hp.blk hq2 (by omega), hp.blk hq3 (by omega), hbw2.trans (hp.below (by omega))⟩⟩
  obtain ⟨c01, c02⟩ := hc0
  have hwN : IntKind.i64.wrap ((na : Int) + (nb' : Int)) = (N : Int) := by rw [IntWalk.i64_in _ (by omega)]; omega
  replace hb2 := Hd.mk hb2
  replace hbl2 := Hd.mk hbl2
  replace hsz2 := Hd.mk hsz2
  replace hbw2 := Hd.mk hbw2
  replace hbW := Hd.mk hbW
  replace hsW := Hd.mk hsW
  replace hB2 := Hd.mk hB2
  replace hBge := Hd.mk hBge
  replace hq1 := Hd.mk hq1
  replace hq2 := Hd.mk hq2
  replace hq3 := Hd.mk hq3
  replace hd := Hd.mk hd
  replace he := Hd.mk he
  replace hval := Hd.mk hval
  replace hnb := Hd.mk hnb
  replace hnc := Hd.mk hnc
  replace hN := Hd.mk hN
  go_enter Tryz.func29, Tryz.ntmps29
  go_wp2
  replace hw1 := Hd.mk hw1
  go_loopw [6] (fun i wr => ∃ m : Nat, m ≤ na ∧ i = .int .i64 m ∧ Hd (Put w2 wr B2 3 (ints N (T.colv fa fb nb' m)))) (fun i _ => na - (intOf i).toNat)
  case atStart => exact ⟨0, Nat.zero_le _, rfl, ⟨Put.refl hb2.out⟩⟩
  case round =>
    obtain ⟨m, hm, rfl, hp⟩ := hrel
    obtain ⟨r1, r2, r3, rb⟩ := hkeep.out _ _ hp.out
    have d1 := r1.cell 1
    have d2 := r2.cell 1
    simp only [List.getElem?_cons_succ, List.getElem?_cons_zero] at d1 d2
    by_cases hlt : m < na
    · replace r1 := Hd.mk r1
      replace r2 := Hd.mk r2
      replace r3 := Hd.mk r3
      replace rb := Hd.mk rb
      go_wp2
      go_loopw [7] (fun k w3 => ∃ j : Nat, j ≤ nb' ∧ k = .int .i64 j ∧ Hd (Put w2 w3 B2 3 (ints N (fun p => T.colv fa fb nb' m p + T.rowv fa fb m j p)))) (fun k _ => nb' - (intOf k).toNat)
      case atStart => exact ⟨0, Nat.zero_le _, rfl, ⟨by rw [show ints N (fun p => T.colv fa fb nb' m p + T.rowv fa fb m 0 p) = ints N (T.colv fa fb nb' m) from ints_congr fun i _ => by rw [T.rowv_zero]; rfl]; exact hp.out⟩⟩
      case round =>
        obtain ⟨j, hj, rfl, hp3⟩ := hrel
        obtain ⟨s1, s2, s3, sb⟩ := hkeep.out _ _ hp3.out
        have d3 := s1.cell 1
        have d4 := s2.cell 1
        simp only [List.getElem?_cons_succ, List.getElem?_cons_zero] at d3 d4
        by_cases hlt2 : j < nb'
        · have hxd := hd.out.below sb
          obtain ⟨A', ca', e1, hca1, hca2, hc1⟩ := hxd
          cases e1
          obtain ⟨KA, oa, hA, hx1⟩ := hc1 (by omega)
          clear hc1
          subst hA
          have hyd := he.out.below sb
          obtain ⟨B', cb1, e1, hcb1, hcb2, hc2⟩ := hyd
          cases e1
          obtain ⟨KB, ob, hB, hx2⟩ := hc2 (by omega)
          clear hc2
          subst hB
          have hxm := hx1 m hlt
          have hyj := hx2 j hlt2
          obtain ⟨p, hpe⟩ : ∃ p, p = m + j := ⟨_, rfl⟩
          obtain ⟨c, hce⟩ : ∃ c, c = T.colv fa fb nb' m p + T.rowv fa fb m j p := ⟨_, rfl⟩
          obtain ⟨P, hPe⟩ : ∃ P, P = fa m * fb j := ⟨_, rfl⟩
          have hpN : p < N := by have := hN.out; omega
          have hP81 : P ≤ 81 := by
            have h1 := hfa.out m
            have h2 := hfb.out j
            rw [hPe]
            exact Nat.le_trans (Nat.mul_le_mul (Nat.le_of_lt_succ h1) (Nat.le_of_lt_succ h2)) (by decide)
          have hcB : c ≤ 100000 := by
            have h1 := T.colv_le hfa.out hfb.out nb' m p
            have h2 := T.rowv_le hfa.out hfb.out m j p
            omega
          have hcell := (hp3.out.here.cell p).trans ((ints_get hpN).trans (show some (Value.int .i64 (((T.colv fa fb nb' m p + T.rowv fa fb m j p : Nat)) : Int)) = some (.int .i64 (c : Int)) by rw [← hce]))
          have hfroz := hp3.out.here.frozen p
          have hwi : IntKind.i64.wrap ((m : Int) + (j : Int)) = (p : Int) := by rw [IntWalk.i64_in _ (by omega)]; omega
          have hmm : ((fa m : Nat) : Int) * ((fb j : Nat) : Int) = ((P : Nat) : Int) := by rw [hPe]; exact (Int.natCast_mul _ _).symm
          have hfam : fa m < 10 := hfa.out m
          have hfbj : fb j < 10 := hfb.out j
          have hnext : Hd (∀ w4, Put w2 w4 B2 3 ((ints N (fun p => T.colv fa fb nb' m p + T.rowv fa fb m j p)).set p (.int .i64 ((c : Int) + (P : Int)))) → Put w2 w4 B2 3 (ints N (fun p => T.colv fa fb nb' m p + T.rowv fa fb m (j + 1) p))) := ⟨fun w4 h4 => by
            have h5 := ints_set (n := N) (p := p) (c := P) (f := fun p => T.colv fa fb nb' m p + T.rowv fa fb m j p) hpN
            rw [show (fun p => T.colv fa fb nb' m p + T.rowv fa fb m j p) p + P = c + P by rw [hce], Int.natCast_add] at h5
            rw [h5] at h4
            rwa [show ints N (fun q => (T.colv fa fb nb' m q + T.rowv fa fb m j q) + if q = p then P else 0) = ints N (fun p => T.colv fa fb nb' m p + T.rowv fa fb m (j + 1) p) from ints_congr fun q _ => by rw [T.rowv_succ, hpe, hPe]; omega] at h4⟩
          have hput := Hd.mk (hp3.out.set p (.int .i64 ((c : Int) + (P : Int))))
          replace hpe := Hd.mk hpe
          replace hce := Hd.mk hce
          replace hPe := Hd.mk hPe
          replace hx1 := Hd.mk hx1
          replace hx2 := Hd.mk hx2
          replace s1 := Hd.mk s1
          replace s2 := Hd.mk s2
          replace s3 := Hd.mk s3
          replace sb := Hd.mk sb
          have hwP : IntKind.i64.wrap (P : Int) = (P : Int) := IntWalk.i64_in _ (by omega)
          have hwc : IntKind.i64.wrap ((c : Int) + (P : Int)) = (c : Int) + (P : Int) := IntWalk.i64_in _ (by omega)
          have hwa : IntKind.i64.wrap ((fa m : Nat) : Int) = ((fa m : Nat) : Int) := IntWalk.i64_in _ (by omega)
          have hwb : IntKind.i64.wrap ((fb j : Nat) : Int) = ((fb j : Nat) : Int) := IntWalk.i64_in _ (by omega)
          go_wp2
          go_region
          go_wp2
          go_roundw
          case rel => exact ⟨j + 1, by omega, by go_num, ⟨hnext.out _ hput.out.drew⟩⟩
          case measure => simp [intOf]; omega
        · obtain rfl : j = nb' := by omega
          replace s1 := Hd.mk s1
          replace s2 := Hd.mk s2
          replace s3 := Hd.mk s3
          replace sb := Hd.mk sb
          go_wp2
          go_roundw
          case rel => exact ⟨m + 1, by omega, by go_num, ⟨hp3.out⟩⟩
          case measure => simp [intOf]; omega
    · obtain rfl : m = na := by omega
      have hFle := T.colv_le hfa.out hfb.out nb' m m
      have hCle := Hd.mk (T.nC_le (F := T.colv fa fb nb' m) (M := 9 * m) fun q => by have := T.colv_le hfa.out hfb.out nb' m q; omega)
      have hFle := Hd.mk (T.colv_le hfa.out hfb.out nb' m m)
      clear hFle
      have hFle := Hd.mk fun q => T.colv_le hfa.out hfb.out nb' m q
      have hk3 := r3.cell 0
      have hk4 := r3.cell 1
      have hk5 := r1.cell 0
      have hk6 := r2.cell 0
      have hz3 := r3.frozen 0
      have hz4 := r3.frozen 1
      simp only [List.getElem?_cons_succ, List.getElem?_cons_zero] at hk3 hk4 hk5 hk6
      have hcell := Hd.mk fun q (hq : q < N) => (hp.out.here.cell q).trans (ints_get hq)
      have hwlt := r3.lt
      replace r1 := Hd.mk r1
      replace r2 := Hd.mk r2
      replace r3 := Hd.mk r3
      replace rb := Hd.mk rb
      replace hp := Hd.mk hp.out
      have hstp : Hd (∀ q, T.nC (T.colv fa fb nb' m) (q + 1) = (T.nC (T.colv fa fb nb' m) q + T.colv fa fb nb' m q) / 10 ∧ T.nD (T.colv fa fb nb' m) q = (T.nC (T.colv fa fb nb' m) q + T.colv fa fb nb' m q) % 10) := ⟨fun q => ⟨rfl, rfl⟩⟩
      have hC0 : T.nC (T.colv fa fb nb' m) 0 = 0 := rfl
      have hDl := Hd.mk fun i => T.nD_lt (T.colv fa fb nb' m) i
      generalize T.nC (T.colv fa fb nb' m) = FC at *
      generalize T.nD (T.colv fa fb nb' m) = FD at *
      generalize T.colv fa fb nb' m = F at *
      go_wp2
      go_loopw [8, 9, 10] (fun d c i w3 => ∃ j : Nat, j ≤ N ∧ c = .int .i64 ((FC j : Nat) : Int) ∧ i = .int .i64 j ∧ Hd (OwD wr w3 d j FD)) (fun _ _ i _ => N - (intOf i).toNat)
      case atStart => exact ⟨0, Nat.zero_le _, by rw [hC0]; rfl, rfl, ⟨OwD.nil _ _⟩⟩
      case round =>
        obtain ⟨j, hj, rfl, rfl, how⟩ := hrel
        by_cases hlt3 : j < N
        · have hcj := cb how.out.bel (hcell.out j hlt3)
          obtain ⟨t1, t2⟩ := hstp.out j
          have t3 := hCle.out j
          have t4 := hFle.out j
          generalize hs1 : FC (j + 1) = c1 at *
          generalize FC j = c0 at *
          generalize F j = o0 at *
          have hws : IntKind.i64.wrap ((c0 : Int) + (o0 : Int)) = (((c0 + o0 : Nat)) : Int) := by rw [IntWalk.i64_in _ (by omega)]; omega
          generalize c0 + o0 = s at *
          have hr1 : ((s : Nat) : Int).tmod 10 = ((s % 10 : Nat) : Int) := by rw [Int.tmod_eq_emod_of_nonneg (by omega)]; omega
          have hr2 : ((s : Nat) : Int).tdiv 10 = ((s / 10 : Nat) : Int) := by rw [Int.tdiv_eq_ediv_of_nonneg (by omega)]; omega
          have t5 : s / 10 ≤ 9 * m := by have := hCle.out (j + 1); rw [hs1, t1] at this; exact this
          have t6 : s % 10 < 10 := Nat.mod_lt _ (by decide)
          generalize s / 10 = sq at *
          generalize s % 10 = sr at *
          have hw8 : IntKind.u8.wrap (sr : Int) = (sr : Int) := IntWalk.u8_in _ (by omega)
          have hw9 : IntKind.i64.wrap (sr : Int) = (sr : Int) := IntWalk.i64_in _ (by omega)
          have hw7 : IntKind.i64.wrap (sq : Int) = (sq : Int) := IntWalk.i64_in _ (by omega)
          replace hs1 := Hd.mk hs1
          replace t1 := Hd.mk t1
          replace t2 := Hd.mk t2
          replace t3 := Hd.mk t3
          replace t4 := Hd.mk t4
          go_wp2_with (at_builtin; refine wpList_push rfl (.tmp 66) (.tmp 70) rfl _ j FD rfl how.out _ ?hc rfl (by omega) ?_; (case hc => (rw [t2.out])); intro v' w' how2 hv' hb3 hsz2'; obtain ⟨g', cap', rfl⟩ := hv'; replace how2 := Hd.mk how2; replace hb3 := Hd.mk hb3; clear hsz2')
          go_roundw
          case rel => exact ⟨j + 1, by omega, by rw [hs1.out, t1.out], by go_num, how2⟩
          case measure => simp [intOf]; omega
        · obtain rfl : j = N := by omega
          obtain ⟨A3, c3, rfl, hdd⟩ := how.out.ds
          have hsg := Hd.mk (nv (signed_any (nb != nc) _ _ FD _ how.out.ds (fun i _ => hDl.out i) (by omega)))
          have g0 := cb how.out.bel hk3
          have g1 := cb how.out.bel hk4
          have g5 := cb how.out.bel hk5
          have g6 := cb how.out.bel hk6
          have f0 := Go.Proofs.YtdbjdpooggaonaaGreatDoor.fb how.out.bel hk3 hz3
          have f1 := Go.Proofs.YtdbjdpooggaonaaGreatDoor.fb how.out.bel hk4 hz4
          have hbf := Hd.mk (rb.out.trans (how.out.bel.mono rb.out.size))
          have hwl2 := Nat.lt_of_lt_of_le hwlt how.out.bel.size
          replace hdd := Hd.mk hdd
          go_wp2_with (go_at_call 114; refine hsg.out.mono ?_; rintro e w5 ⟨b5, A5, m5, c5, rfl, hn5, hb5⟩; have j0 := cb hb5 g0; have j1 := cb hb5 g1; have z0 := Go.Proofs.YtdbjdpooggaonaaGreatDoor.fb hb5 g0 f0; have z1 := Go.Proofs.YtdbjdpooggaonaaGreatDoor.fb hb5 g1 f1; have hl5 := Nat.lt_of_lt_of_le hwl2 hb5.size; have hb6 := Hd.mk (hbf.out.trans (hb5.mono hbf.out.size)); clear hb5; replace hn5 := Hd.mk hn5)
          have hfin := ret_num (u0 := .bool b5) (u1 := .slice A5 m5 c5) hb6.out (R := w.heap.size + 1 + 1) (by omega) j0 j1 hn5.out
          refine bodyPost_ret (v := .agg #[.bool b5, .slice A5 m5 c5]) (by simp [results, Tryz.results29, go_sem, j0, j1, z0, z1, hl5]) rfl ⟨_, rfl, ?_, hfin.2⟩
          have h9 := hfin.1
          rw [hval.out] at h9
          rwa [show (if (nb != nc) = true then -((x.natAbs * y.natAbs : Nat) : Int) else ((x.natAbs * y.natAbs : Nat) : Int)) = x * y from by
            have a1 := hnb.out
            have a2 := hnc.out
            have a3 : ((x.natAbs * y.natAbs : Nat) : Int) = (x.natAbs : Int) * (y.natAbs : Int) := Int.natCast_mul _ _
            subst a1 a2
            rw [a3]
            by_cases h1 : x < 0 <;> by_cases h2 : y < 0 <;> simp [h1, h2]
            · rw [show (x.natAbs : Int) = -x by omega, show (y.natAbs : Int) = -y by omega, Int.neg_mul_neg]
            · rw [show (x.natAbs : Int) = -x by omega, show (y.natAbs : Int) = y by omega, Int.neg_mul, Int.neg_neg]
            · rw [show (x.natAbs : Int) = x by omega, show (y.natAbs : Int) = -y by omega, Int.mul_neg, Int.neg_neg]
            · rw [show (x.natAbs : Int) = x by omega, show (y.natAbs : Int) = y by omega]] at h9
end Go.Proofs.YtdbjdpooggaonaaGreatDoor
end

section
namespace Go.Proofs.YtdbjdpooggaonaaGreatDoor
namespace T
end T
end Go.Proofs.YtdbjdpooggaonaaGreatDoor
end
