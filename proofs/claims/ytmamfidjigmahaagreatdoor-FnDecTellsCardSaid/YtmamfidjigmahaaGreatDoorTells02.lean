/- The reference: what a decimal tells. Conditions: those that each theorem states. -/
import Derived.Test.YtmamfidjigmahaaGreatDoorTells01
import Derived.Test.YtmamfidjigmahaaGreatDoorSums28
set_option linter.all false

namespace Go.Proofs.YtmamfidjigmahaaGreatDoor
open Go.RowKit
set_option maxRecDepth 100000
set_option maxHeartbeats 16000000 in
theorem spectell_any (v : Value) (x : Int) (w : World) (hx : NumV w v x) (hl : x.natAbs < 10 ^ 200) (hin : decide ((x.natAbs : Int) ≤ mostZ) = true) (hr : (chopR x).natAbs < 2 ^ 256) (ht : (x.tdiv E18).natAbs < 2 ^ 256) :
    Calls Tryz.prog 21 #[v] w fun e w' => e = .returned (.agg (tellL x).toArray) ∧ Below w.heap.size w w' := by
  obtain ⟨A, cap, rfl, -⟩ := hx.open
  have h256 : (2 : Nat) ^ 256 < 10 ^ 200 := by decide
  have hwa : T.wlen x.natAbs < 900 := wl200 hl
  have hE : ((10 : Int) ^ 18) = E18 := by decide
  have hrl : (x.tmod E18).natAbs < 10 ^ 200 := by
    unfold E18
    rw [Int.natAbs_tmod]
    exact Nat.lt_trans (Nat.mod_lt _ (by decide)) (by decide)
  have hcw : T.wlen (chopR x).natAbs < 900 := wl200 (Nat.lt_trans hr h256)
  have hrw : T.wlen (x.tmod E18).natAbs < 900 := wl200 hrl
  have hqw : T.wlen (x.tdiv E18).natAbs < 900 := wl200 (Nat.lt_trans ht h256)
  have hpr := Hd.mk fun w1 => nv (prec_any w1)
  have hqr := Hd.mk fun w1 v1 v2 (h1 : NumV w1 v1 x) (h2 : NumV w1 v2 (10 ^ 18)) => nv2 (nquorem_any v1 v2 _ _ w1 h1 h2 (by omega) (by have := wl_10_18; omega) (by decide))
  rw [hE] at hqr hpr
  have gdt := Hd.mk fun w1 v1 (h1 : NumV w1 v1 x) => dectext_any v1 x w1 h1 hl
  have gzr := Hd.mk fun w1 v1 (h1 : NumV w1 v1 (x.tmod E18)) => zero_any v1 _ w1 h1
  have gzx := Hd.mk fun w1 v1 (h1 : NumV w1 v1 x) => zero_any v1 _ w1 h1
  have gsg := Hd.mk fun w1 v1 (h1 : NumV w1 v1 x) => sign_any v1 _ w1 h1
  have gwi := Hd.mk fun w1 v1 (h1 : NumV w1 v1 x) => within_any v1 _ w1 h1 hwa
  have gro := Hd.mk fun w1 v1 (h1 : NumV w1 v1 x) => nv (rounded_any v1 _ w1 h1 hl)
  have gcu := Hd.mk fun w1 v1 (h1 : NumV w1 v1 x) => nv (cut18_any v1 _ w1 h1 hl)
  have htR := Hd.mk fun w1 v1 (h1 : NumV w1 v1 (chopR x)) => text_any v1 _ w1 h1 hcw
  have htC := Hd.mk fun w1 v1 (h1 : NumV w1 v1 (x.tdiv E18)) => text_any v1 _ w1 h1 hqw
  have hsR := Hd.mk fun w1 v1 (h1 : NumV w1 v1 (chopR x)) => small_any v1 _ w1 h1 hcw
  have hsC := Hd.mk fun w1 v1 (h1 : NumV w1 v1 (x.tdiv E18)) => small_any v1 _ w1 h1 hqw
  rw [hin] at gwi
  have hn1 : decide (sgn x < 0) = decide (x < 0) := by
    unfold sgn
    split
    · rename_i h; rw [decide_eq_true h]; rfl
    · rename_i h; rw [decide_eq_false h]; split <;> rfl
  have hp1 : decide (0 < sgn x) = decide (0 < x) := by
    unfold sgn
    split
    · rename_i h; rw [decide_eq_false (p := 0 < x) (by omega)]; rfl
    · split
      · rename_i h; subst h; rfl
      · rw [decide_eq_true (p := 0 < x) (by omega)]; rfl
  have htl : tellL x = abL (mkT (decL x)) (decide (x.tmod E18 = 0)) (decide (x = 0)) (decide (x < 0)) (decide (0 < x)) true (zT (chopR x)) (zT (x.tdiv E18)) (if is64 (chopR x) = true then chopR x else 0) (if is64 (x.tdiv E18) = true then x.tdiv E18 else 0) (is64 (chopR x)) (is64 (x.tdiv E18)) := rfl
  rw [htl]
  clear htl hrl hcw hrw hqw hwa hin hE hl hr ht h256
  generalize mkT (decL x) = sT at *
  generalize decide (x.tmod E18 = 0) = bI at *
  generalize decide (x = 0) = bZ at *
  generalize decide (x < 0) = nb at *
  generalize decide (0 < x) = bP at *
  generalize sgn x = sx at *
  generalize zT (chopR x) = sR at *
  generalize zT (x.tdiv E18) = sC at *
  generalize (if is64 (chopR x) = true then chopR x else 0) = iR at *
  generalize (if is64 (x.tdiv E18) = true then x.tdiv E18 else 0) = iC at *
  generalize is64 (chopR x) = kR at *
  generalize is64 (x.tdiv E18) = kC at *
  generalize T.wlen x.natAbs = m at *
  generalize chopR x = xR at *
  generalize x.tdiv E18 = xQ at *
  generalize x.tmod E18 = xM at *
  generalize E18 = X18 at *
  have hu1 := (Blk.new w #[.bool nb, .slice A m cap] 24).alloc (.cells #[.string (ByteArray.mk #[]), .bool false, .bool false, .bool false, .bool false, .bool false, .string (ByteArray.mk #[]), .string (ByteArray.mk #[]), .int .i64 0, .int .i64 0, .bool false, .bool false] 31)
  have hv1 := Blk.new (w.alloc (.cells #[.bool nb, .slice A m cap] 24)) #[.string (ByteArray.mk #[]), .bool false, .bool false, .bool false, .bool false, .bool false, .string (ByteArray.mk #[]), .string (ByteArray.mk #[]), .int .i64 0, .int .i64 0, .bool false, .bool false] 31
  rw [World.size_alloc] at hv1
  have hb1 : Below w.heap.size w ((w.alloc (.cells #[.bool nb, .slice A m cap] 24)).alloc (.cells #[.string (ByteArray.mk #[]), .bool false, .bool false, .bool false, .bool false, .bool false, .string (ByteArray.mk #[]), .string (ByteArray.mk #[]), .int .i64 0, .int .i64 0, .bool false, .bool false] 31)) := ((Below.refl _ _).alloc (Nat.le_refl _) _).alloc (by rw [World.size_alloc]; omega) _
  have s1 : ((w.alloc (.cells #[.bool nb, .slice A m cap] 24)).alloc (.cells #[.string (ByteArray.mk #[]), .bool false, .bool false, .bool false, .bool false, .bool false, .string (ByteArray.mk #[]), .string (ByteArray.mk #[]), .int .i64 0, .int .i64 0, .bool false, .bool false] 31)).heap.size = w.heap.size + 2 := by rw [World.size_alloc, World.size_alloc]
  have hx1 := hx.below hb1
  change Blk ((w.alloc (.cells #[.bool nb, .slice A m cap] 24)).alloc (.cells #[.string (ByteArray.mk #[]), .bool false, .bool false, .bool false, .bool false, .bool false, .string (ByteArray.mk #[]), .string (ByteArray.mk #[]), .int .i64 0, .int .i64 0, .bool false, .bool false] 31)) (w.heap.size + 1) 31 zeroL at hv1
  have d0 := hu1.cell 0
  have d1 := hu1.cell 1
  simp only [List.getElem?_cons_succ, List.getElem?_cons_zero] at d0 d1
  replace hu1 := Hd.mk hu1
  replace hv1 := Hd.mk hv1
  replace hb1 := Hd.mk hb1
  replace hx := Hd.mk hx
  go_enter Tryz.func21, Tryz.ntmps21
  go_upto_region 1 with fail
  generalize (w.alloc (.cells #[.bool nb, .slice A m cap] 24)).alloc (.cells #[.string (ByteArray.mk #[]), .bool false, .bool false, .bool false, .bool false, .bool false, .string (ByteArray.mk #[]), .string (ByteArray.mk #[]), .int .i64 0, .int .i64 0, .bool false, .bool false] 31) = w1 at *
  have s1' : w.heap.size + 1 < w1.heap.size := by omega
  clear s1
  have r1 := Hd.mk (SR.start w1 [(.agg #[.bool nb, .slice A m cap], x)] (fun p hp => by cases List.mem_singleton.1 hp; exact hx1))
  go_cut [4] (fun t4 wx => ∃ b4 br Ar mr cr, t4 = .pointer (some ⟨b4, 0, none⟩) ∧ ∃ C, Hd (SR w1 wx C [(.agg #[.bool br, .slice Ar mr cr], xM)]) ∧ Hd (C b4 = some [.bool br, .slice Ar mr cr]))
  case first =>
    go_region_held3 (fun wx => wx.cell? ⟨w.heap.size, 0, none⟩ = some (.bool nb) ∧ wx.cell? ⟨w.heap.size, 1, none⟩ = some (.slice A m cap)) ((first | with_reducible exact ⟨d0, d1⟩ | with_reducible exact ⟨k20, k21⟩ | with_reducible exact ⟨k30, k31⟩ | ((repeat' apply And.intro) <;> (repeat first | with_reducible assumption | rw [World.cell?_drew] | (rw [World.cell?_alloc_lt _ _ _ (by (try simp only [World.size_alloc, World.size_drew, World.size_setCell]); show _ < _; omega)]) | rw [World.cell?_setCell_far _ _ _ _ (by (try simp only [World.size_alloc, World.size_drew, World.size_setCell]); show _ ≠ _; omega)])))) (first
      | (go_at_call 25; refine (hpr.out _).mono ?_; skip; rintro e w2 ⟨b2, A2, m2, c2, rfl, hn2, hb2⟩; have r2 := Hd.mk (p := SR _ _ _ _) (by first | exact (r1.out.drew.op hb2).add hn2 | exact ((r1.out.drew.box _).op hb2).add hn2 | exact (((r1.out.drew.box _).box _).op hb2).add hn2); have s2 := hb2.size; (try simp only [World.size_alloc, World.size_drew] at s2); (try simp only [World.size_alloc, World.size_drew, World.size_setCell] at r2); clear hb2; have k20 := cb r2.out.bel d0; have k21 := cb r2.out.bel d1; (try (refine SR.cellK r2.out (b := w1.heap.size) (b0 := false) (A := none) (m := 0) (c := 0) ?_ ?_; (focus (((try simp only [World.size_alloc, World.size_drew, World.size_setCell]); (repeat first | with_reducible exact updC_same | rw [updC_ne (by (try simp only [World.size_alloc, World.size_drew, World.size_setCell]); omega)])); done)); intro a20 a21 a2z a2y a2l)); (try (refine SR.cellK r2.out (b := (w1.heap.size + 1)) (b0 := false) (A := none) (m := 0) (c := 0) ?_ ?_; (focus (((try simp only [World.size_alloc, World.size_drew, World.size_setCell]); (repeat first | with_reducible exact updC_same | rw [updC_ne (by (try simp only [World.size_alloc, World.size_drew, World.size_setCell]); omega)])); done)); intro e20 e21 e2z e2y e2l)))
      | (go_at_call 24; refine (hqr.out _ _ _ ?_ ?_).mono ?_; (first | exact r2.out.v1 | exact (r2.out.box _).v1 | exact ((r2.out.box _).box _).v1); (first | exact r2.out.v0 | exact (r2.out.box _).v0 | exact ((r2.out.box _).box _).v0); rintro e w3 ⟨b3, A3, m3, c3, b4, A4, m4, c4, rfl, hn3, hn4, hb3⟩; have r3 := Hd.mk (p := SR _ _ _ _) (by first | exact ((r2.out.op hb3).add hn3).add hn4 | exact (((r2.out.box _).op hb3).add hn3).add hn4 | exact ((((r2.out.box _).box _).op hb3).add hn3).add hn4); have s3 := hb3.size; (try simp only [World.size_alloc, World.size_drew] at s3); (try simp only [World.size_alloc, World.size_drew, World.size_setCell] at r3); clear hb3; have k30 := cb r3.out.bel d0; have k31 := cb r3.out.bel d1; (try (refine SR.cellK r3.out (b := w1.heap.size) (b0 := false) (A := none) (m := 0) (c := 0) ?_ ?_; (focus (((try simp only [World.size_alloc, World.size_drew, World.size_setCell]); (repeat first | with_reducible exact updC_same | rw [updC_ne (by (try simp only [World.size_alloc, World.size_drew, World.size_setCell]); omega)])); done)); intro a30 a31 a3z a3y a3l)); (try (refine SR.cellK r3.out (b := (w1.heap.size + 1)) (b0 := false) (A := none) (m := 0) (c := 0) ?_ ?_; (focus (((try simp only [World.size_alloc, World.size_drew, World.size_setCell]); (repeat first | with_reducible exact updC_same | rw [updC_ne (by (try simp only [World.size_alloc, World.size_drew, World.size_setCell]); omega)])); done)); intro e30 e31 e3z e3y e3l)); (try (refine SR.cellK r3.out (b := w2.heap.size) (b0 := false) (A := none) (m := 0) (c := 0) ?_ ?_; (focus (((try simp only [World.size_alloc, World.size_drew, World.size_setCell]); (repeat first | with_reducible exact updC_same | rw [updC_ne (by (try simp only [World.size_alloc, World.size_drew, World.size_setCell]); omega)])); done)); intro f30 f31 f3z f3y f3l)); (try (refine SR.cellK r3.out (b := (w2.heap.size + 1)) (b0 := false) (A := none) (m := 0) (c := 0) ?_ ?_; (focus (((try simp only [World.size_alloc, World.size_drew, World.size_setCell]); (repeat first | with_reducible exact updC_same | rw [updC_ne (by (try simp only [World.size_alloc, World.size_drew, World.size_setCell]); omega)])); done)); intro g30 g31 g3z g3y g3l))))
    all_goals
      go_wp2_with fail
      go_meet
      refine ⟨_, b4, A4, m4, c4, rfl, ?_⟩
      apply SREx1
      focus
        (repeat first | with_reducible exact r3.out | with_reducible apply SR.box2 | with_reducible apply SR.set | with_reducible exact updC_same | (simp only [World.size_alloc, World.size_drew, World.size_setCell]) | rw [updC_ne (by (try simp only [World.size_alloc, World.size_drew, World.size_setCell]); omega)])
        done
      focus
        exact .head _
      refine ⟨?_⟩
      focus
        (focus (((try simp only [World.size_alloc, World.size_drew, World.size_setCell]); (repeat first | with_reducible exact updC_same | rw [updC_ne (by (try simp only [World.size_alloc, World.size_drew, World.size_setCell]); omega)])); done))
  case rest =>
  obtain ⟨b4, br, Ar, mr, cr, rfl, C, hr, hC⟩ := hcut
  refine SR.cellK hr.out hC.out ?_
  intro f0 f1 fz fy fl
  have e0 := cb hr.out.bel d0
  have e1 := cb hr.out.bel d1
  have hx2 := hx1.below hr.out.bel
  have hr2 := hr.out.v0
  have hv2 : Hd (Blk wc (w.heap.size + 1) 31 zeroL) := ⟨hv1.out.of_heap (hr.out.bel.block _ s1')⟩
  have hb2 := Hd.mk (hb1.out.trans (hr.out.bel.mono hb1.out.size))
  have s2 : w.heap.size + 1 < wc.heap.size := Nat.lt_of_lt_of_le s1' hr.out.bel.size
  clear r1 d0 d1 hx1 hr hC fz fy hb1 hv1 hu1 s1' hqr hpr
  generalize wc = wx at *
  have hdt := Hd.mk fun w1 (hb : Below wx.heap.size wx w1) => gdt.out w1 _ (hx2.below hb)
  have hzr := Hd.mk fun w1 (hb : Below wx.heap.size wx w1) => gzr.out w1 _ (hr2.below hb)
  have hzx := Hd.mk fun w1 (hb : Below wx.heap.size wx w1) => gzx.out w1 _ (hx2.below hb)
  have hsg := Hd.mk fun w1 (hb : Below wx.heap.size wx w1) => gsg.out w1 _ (hx2.below hb)
  have hwi := Hd.mk fun w1 (hb : Below wx.heap.size wx w1) => gwi.out w1 _ (hx2.below hb)
  have hro := Hd.mk fun w1 (hb : Below wx.heap.size wx w1) => gro.out w1 _ (hx2.below hb)
  have hcu := Hd.mk fun w1 (hb : Below wx.heap.size wx w1) => gcu.out w1 _ (hx2.below hb)
  clear gdt gzr gzx gsg gwi
  have hb := Hd.mk (Below.refl wx.heap.size wx)
  have hbw := hb2
  clear hb2
  replace hx2 := Hd.mk hx2
  replace hr2 := Hd.mk hr2
  go_upto_region 2 with fail
  go_cut [5] (fun t5 wy => ∃ b5, t5 = .pointer (some ⟨b5, 0, none⟩) ∧ Hd (Below wx.heap.size wx wy) ∧ Hd (Blk wy b5 31 (abL sT bI bZ nb bP true sR sC 0 0 false false)) ∧ wx.heap.size ≤ b5)
  case first =>
    go_region_held3 (fun wz => wz.cell? ⟨w.heap.size, 0, none⟩ = some (.bool nb) ∧ wz.cell? ⟨w.heap.size, 1, none⟩ = some (.slice A m cap) ∧ wz.cell? ⟨b4, 0, none⟩ = some (.bool br) ∧ wz.cell? ⟨b4, 1, none⟩ = some (.slice Ar mr cr)) (first | with_reducible exact ⟨e0, e1, f0, f1⟩ | with_reducible exact ⟨k0, k1, k2, k3⟩ | ((repeat' apply And.intro) <;> (repeat first | with_reducible assumption | rw [World.cell?_drew] | (rw [World.cell?_alloc_lt _ _ _ (by (try simp only [World.size_alloc, World.size_drew, World.size_setCell]); show _ < _; omega)]) | rw [World.cell?_setCell_far _ _ _ _ (by (try simp only [World.size_alloc, World.size_drew, World.size_setCell]); show _ ≠ _; omega)]))) (first
        | (go_at_call 16; with_reducible refine (htC.out _ _ ?_).mono ?_; (focus (first | with_reducible exact nC.out | exact nC.out.below ((Below.refl _ _).alloc (Nat.le_refl _) _))); rintro e w2 ⟨rfl, hb2⟩; clear nC; (first | (with_reducible have hbn := Hd.mk (hb.out.trans (hb2.mono hb.out.size))) | (have hbn := Hd.mk ((below_drew' hb.out).trans (hb2.mono (below_drew' hb.out).size))) | (have hbn := Hd.mk ((hb.out.alloc hb.out.size _).trans (hb2.mono (hb.out.alloc hb.out.size _).size))) | (have hbn := Hd.mk ((below_drew' (hb.out.alloc hb.out.size _)).trans (hb2.mono (below_drew' (hb.out.alloc hb.out.size _)).size)))); (first | (have hBn := Hd.mk (hB5.out.of_heap (hb2.block _ hB5.out.lt)); clear hB5; have hB5 := hBn; clear hBn) | (have hB5 := Hd.mk (p := Blk _ _ 31 zeroL) ((Blk.new _ _ _).of_heap (hb2.block _ (by rw [World.size_alloc]; exact Nat.lt_succ_self _))); (try simp only [World.size_drew] at hB5)) | (have hB5 := Hd.mk (p := Blk _ _ 31 zeroL) ((Blk.new _ _ _).drew.of_heap (hb2.block _ (by rw [World.size_drew, World.size_alloc]; exact Nat.lt_succ_self _)))) | skip); clear hb; have hb := hbn; clear hbn hb2; (try clear k0 k1 k2 k3); have k0 := cb hb.out e0; have k1 := cb hb.out e1; have k2 := cb hb.out f0; have k3 := cb hb.out f1; have := hb.out.size; (try (have c0 : World.cell? _ ⟨_, 0, none⟩ = some (.string (ByteArray.mk #[])) := hB5.out.cell 0; have c1 : World.cell? _ ⟨_, 1, none⟩ = some (.bool false) := hB5.out.cell 1; have c2 : World.cell? _ ⟨_, 2, none⟩ = some (.bool false) := hB5.out.cell 2; have c3 : World.cell? _ ⟨_, 3, none⟩ = some (.bool false) := hB5.out.cell 3; have c4 : World.cell? _ ⟨_, 4, none⟩ = some (.bool false) := hB5.out.cell 4; have c5 : World.cell? _ ⟨_, 5, none⟩ = some (.bool false) := hB5.out.cell 5; have c6 : World.cell? _ ⟨_, 6, none⟩ = some (.string (ByteArray.mk #[])) := hB5.out.cell 6; have c7 : World.cell? _ ⟨_, 7, none⟩ = some (.string (ByteArray.mk #[])) := hB5.out.cell 7; have c8 : World.cell? _ ⟨_, 8, none⟩ = some (.int .i64 0) := hB5.out.cell 8; have c9 : World.cell? _ ⟨_, 9, none⟩ = some (.int .i64 0) := hB5.out.cell 9; have c10 : World.cell? _ ⟨_, 10, none⟩ = some (.bool false) := hB5.out.cell 10; have c11 : World.cell? _ ⟨_, 11, none⟩ = some (.bool false) := hB5.out.cell 11; have z0 := hB5.out.frozen 0; have z1 := hB5.out.frozen 1; have z2 := hB5.out.frozen 2; have z3 := hB5.out.frozen 3; have z4 := hB5.out.frozen 4; have z5 := hB5.out.frozen 5; have z6 := hB5.out.frozen 6; have z7 := hB5.out.frozen 7; have z8 := hB5.out.frozen 8; have z9 := hB5.out.frozen 9; have z10 := hB5.out.frozen 10; have z11 := hB5.out.frozen 11; have l5 := hB5.out.lt)))
        | (go_at_call 10; with_reducible refine (hcu.out _ ?_).mono ?_; (focus (first | with_reducible exact hb.out | with_reducible exact below_drew' hb.out | with_reducible exact hb.out.alloc hb.out.size _ | with_reducible exact below_drew' (hb.out.alloc hb.out.size _))); rintro e w2 ⟨bq, Aq, mq, cq, rfl, hnq, hb2⟩; have nC := Hd.mk hnq; clear hnq; (first | (with_reducible have hbn := Hd.mk (hb.out.trans (hb2.mono hb.out.size))) | (have hbn := Hd.mk ((below_drew' hb.out).trans (hb2.mono (below_drew' hb.out).size))) | (have hbn := Hd.mk ((hb.out.alloc hb.out.size _).trans (hb2.mono (hb.out.alloc hb.out.size _).size))) | (have hbn := Hd.mk ((below_drew' (hb.out.alloc hb.out.size _)).trans (hb2.mono (below_drew' (hb.out.alloc hb.out.size _)).size)))); (first | (have hBn := Hd.mk (hB5.out.of_heap (hb2.block _ hB5.out.lt)); clear hB5; have hB5 := hBn; clear hBn) | (have hB5 := Hd.mk (p := Blk _ _ 31 zeroL) ((Blk.new _ _ _).of_heap (hb2.block _ (by rw [World.size_alloc]; exact Nat.lt_succ_self _))); (try simp only [World.size_drew] at hB5)) | (have hB5 := Hd.mk (p := Blk _ _ 31 zeroL) ((Blk.new _ _ _).drew.of_heap (hb2.block _ (by rw [World.size_drew, World.size_alloc]; exact Nat.lt_succ_self _)))) | skip); clear hb; have hb := hbn; clear hbn hb2; (try clear k0 k1 k2 k3); have k0 := cb hb.out e0; have k1 := cb hb.out e1; have k2 := cb hb.out f0; have k3 := cb hb.out f1; have := hb.out.size)
        | (go_at_call 16; with_reducible refine (htR.out _ _ ?_).mono ?_; (focus (first | with_reducible exact nR.out | exact nR.out.below ((Below.refl _ _).alloc (Nat.le_refl _) _))); rintro e w2 ⟨rfl, hb2⟩; clear nR; (first | (with_reducible have hbn := Hd.mk (hb.out.trans (hb2.mono hb.out.size))) | (have hbn := Hd.mk ((below_drew' hb.out).trans (hb2.mono (below_drew' hb.out).size))) | (have hbn := Hd.mk ((hb.out.alloc hb.out.size _).trans (hb2.mono (hb.out.alloc hb.out.size _).size))) | (have hbn := Hd.mk ((below_drew' (hb.out.alloc hb.out.size _)).trans (hb2.mono (below_drew' (hb.out.alloc hb.out.size _)).size)))); (first | (have hBn := Hd.mk (hB5.out.of_heap (hb2.block _ hB5.out.lt)); clear hB5; have hB5 := hBn; clear hBn) | (have hB5 := Hd.mk (p := Blk _ _ 31 zeroL) ((Blk.new _ _ _).of_heap (hb2.block _ (by rw [World.size_alloc]; exact Nat.lt_succ_self _))); (try simp only [World.size_drew] at hB5)) | (have hB5 := Hd.mk (p := Blk _ _ 31 zeroL) ((Blk.new _ _ _).drew.of_heap (hb2.block _ (by rw [World.size_drew, World.size_alloc]; exact Nat.lt_succ_self _)))) | skip); clear hb; have hb := hbn; clear hbn hb2; (try clear k0 k1 k2 k3); have k0 := cb hb.out e0; have k1 := cb hb.out e1; have k2 := cb hb.out f0; have k3 := cb hb.out f1; have := hb.out.size)
        | (go_at_call 8; with_reducible refine (hro.out _ ?_).mono ?_; (focus (first | with_reducible exact hb.out | with_reducible exact below_drew' hb.out | with_reducible exact hb.out.alloc hb.out.size _ | with_reducible exact below_drew' (hb.out.alloc hb.out.size _))); rintro e w2 ⟨bq, Aq, mq, cq, rfl, hnq, hb2⟩; have nR := Hd.mk hnq; clear hnq; (first | (with_reducible have hbn := Hd.mk (hb.out.trans (hb2.mono hb.out.size))) | (have hbn := Hd.mk ((below_drew' hb.out).trans (hb2.mono (below_drew' hb.out).size))) | (have hbn := Hd.mk ((hb.out.alloc hb.out.size _).trans (hb2.mono (hb.out.alloc hb.out.size _).size))) | (have hbn := Hd.mk ((below_drew' (hb.out.alloc hb.out.size _)).trans (hb2.mono (below_drew' (hb.out.alloc hb.out.size _)).size)))); (first | (have hBn := Hd.mk (hB5.out.of_heap (hb2.block _ hB5.out.lt)); clear hB5; have hB5 := hBn; clear hBn) | (have hB5 := Hd.mk (p := Blk _ _ 31 zeroL) ((Blk.new _ _ _).of_heap (hb2.block _ (by rw [World.size_alloc]; exact Nat.lt_succ_self _))); (try simp only [World.size_drew] at hB5)) | (have hB5 := Hd.mk (p := Blk _ _ 31 zeroL) ((Blk.new _ _ _).drew.of_heap (hb2.block _ (by rw [World.size_drew, World.size_alloc]; exact Nat.lt_succ_self _)))) | skip); clear hb; have hb := hbn; clear hbn hb2; (try clear k0 k1 k2 k3); have k0 := cb hb.out e0; have k1 := cb hb.out e1; have k2 := cb hb.out f0; have k3 := cb hb.out f1; have := hb.out.size)
        | (go_at_call 17; with_reducible refine (hwi.out _ ?_).mono ?_; (focus (first | with_reducible exact hb.out | with_reducible exact below_drew' hb.out | with_reducible exact hb.out.alloc hb.out.size _ | with_reducible exact below_drew' (hb.out.alloc hb.out.size _))); rintro e w2 ⟨rfl, hb2⟩; (first | (with_reducible have hbn := Hd.mk (hb.out.trans (hb2.mono hb.out.size))) | (have hbn := Hd.mk ((below_drew' hb.out).trans (hb2.mono (below_drew' hb.out).size))) | (have hbn := Hd.mk ((hb.out.alloc hb.out.size _).trans (hb2.mono (hb.out.alloc hb.out.size _).size))) | (have hbn := Hd.mk ((below_drew' (hb.out.alloc hb.out.size _)).trans (hb2.mono (below_drew' (hb.out.alloc hb.out.size _)).size)))); (first | (have hBn := Hd.mk (hB5.out.of_heap (hb2.block _ hB5.out.lt)); clear hB5; have hB5 := hBn; clear hBn) | (have hB5 := Hd.mk (p := Blk _ _ 31 zeroL) ((Blk.new _ _ _).of_heap (hb2.block _ (by rw [World.size_alloc]; exact Nat.lt_succ_self _))); (try simp only [World.size_drew] at hB5)) | (have hB5 := Hd.mk (p := Blk _ _ 31 zeroL) ((Blk.new _ _ _).drew.of_heap (hb2.block _ (by rw [World.size_drew, World.size_alloc]; exact Nat.lt_succ_self _)))) | skip); clear hb; have hb := hbn; clear hbn hb2; (try clear k0 k1 k2 k3); have k0 := cb hb.out e0; have k1 := cb hb.out e1; have k2 := cb hb.out f0; have k3 := cb hb.out f1; have := hb.out.size)
        | (go_at_call 28; with_reducible refine (hsg.out _ ?_).mono ?_; (focus (first | with_reducible exact hb.out | with_reducible exact below_drew' hb.out | with_reducible exact hb.out.alloc hb.out.size _ | with_reducible exact below_drew' (hb.out.alloc hb.out.size _))); rintro e w2 ⟨rfl, hb2⟩; (first | (with_reducible have hbn := Hd.mk (hb.out.trans (hb2.mono hb.out.size))) | (have hbn := Hd.mk ((below_drew' hb.out).trans (hb2.mono (below_drew' hb.out).size))) | (have hbn := Hd.mk ((hb.out.alloc hb.out.size _).trans (hb2.mono (hb.out.alloc hb.out.size _).size))) | (have hbn := Hd.mk ((below_drew' (hb.out.alloc hb.out.size _)).trans (hb2.mono (below_drew' (hb.out.alloc hb.out.size _)).size)))); (first | (have hBn := Hd.mk (hB5.out.of_heap (hb2.block _ hB5.out.lt)); clear hB5; have hB5 := hBn; clear hBn) | (have hB5 := Hd.mk (p := Blk _ _ 31 zeroL) ((Blk.new _ _ _).of_heap (hb2.block _ (by rw [World.size_alloc]; exact Nat.lt_succ_self _))); (try simp only [World.size_drew] at hB5)) | (have hB5 := Hd.mk (p := Blk _ _ 31 zeroL) ((Blk.new _ _ _).drew.of_heap (hb2.block _ (by rw [World.size_drew, World.size_alloc]; exact Nat.lt_succ_self _)))) | skip); clear hb; have hb := hbn; clear hbn hb2; (try clear k0 k1 k2 k3); have k0 := cb hb.out e0; have k1 := cb hb.out e1; have k2 := cb hb.out f0; have k3 := cb hb.out f1; have := hb.out.size)
        | (go_at_call 30; with_reducible refine (hzx.out _ ?_).mono ?_; (focus (first | with_reducible exact hb.out | with_reducible exact below_drew' hb.out | with_reducible exact hb.out.alloc hb.out.size _ | with_reducible exact below_drew' (hb.out.alloc hb.out.size _))); rintro e w2 ⟨rfl, hb2⟩; (first | (with_reducible have hbn := Hd.mk (hb.out.trans (hb2.mono hb.out.size))) | (have hbn := Hd.mk ((below_drew' hb.out).trans (hb2.mono (below_drew' hb.out).size))) | (have hbn := Hd.mk ((hb.out.alloc hb.out.size _).trans (hb2.mono (hb.out.alloc hb.out.size _).size))) | (have hbn := Hd.mk ((below_drew' (hb.out.alloc hb.out.size _)).trans (hb2.mono (below_drew' (hb.out.alloc hb.out.size _)).size)))); (first | (have hBn := Hd.mk (hB5.out.of_heap (hb2.block _ hB5.out.lt)); clear hB5; have hB5 := hBn; clear hBn) | (have hB5 := Hd.mk (p := Blk _ _ 31 zeroL) ((Blk.new _ _ _).of_heap (hb2.block _ (by rw [World.size_alloc]; exact Nat.lt_succ_self _))); (try simp only [World.size_drew] at hB5)) | (have hB5 := Hd.mk (p := Blk _ _ 31 zeroL) ((Blk.new _ _ _).drew.of_heap (hb2.block _ (by rw [World.size_drew, World.size_alloc]; exact Nat.lt_succ_self _)))) | skip); clear hb; have hb := hbn; clear hbn hb2; (try clear k0 k1 k2 k3); have k0 := cb hb.out e0; have k1 := cb hb.out e1; have k2 := cb hb.out f0; have k3 := cb hb.out f1; have := hb.out.size)
        | (go_at_call 30; with_reducible refine (hzr.out _ ?_).mono ?_; (focus (first | with_reducible exact hb.out | with_reducible exact below_drew' hb.out | with_reducible exact hb.out.alloc hb.out.size _ | with_reducible exact below_drew' (hb.out.alloc hb.out.size _))); rintro e w2 ⟨rfl, hb2⟩; (first | (with_reducible have hbn := Hd.mk (hb.out.trans (hb2.mono hb.out.size))) | (have hbn := Hd.mk ((below_drew' hb.out).trans (hb2.mono (below_drew' hb.out).size))) | (have hbn := Hd.mk ((hb.out.alloc hb.out.size _).trans (hb2.mono (hb.out.alloc hb.out.size _).size))) | (have hbn := Hd.mk ((below_drew' (hb.out.alloc hb.out.size _)).trans (hb2.mono (below_drew' (hb.out.alloc hb.out.size _)).size)))); (first | (have hBn := Hd.mk (hB5.out.of_heap (hb2.block _ hB5.out.lt)); clear hB5; have hB5 := hBn; clear hBn) | (have hB5 := Hd.mk (p := Blk _ _ 31 zeroL) ((Blk.new _ _ _).of_heap (hb2.block _ (by rw [World.size_alloc]; exact Nat.lt_succ_self _))); (try simp only [World.size_drew] at hB5)) | (have hB5 := Hd.mk (p := Blk _ _ 31 zeroL) ((Blk.new _ _ _).drew.of_heap (hb2.block _ (by rw [World.size_drew, World.size_alloc]; exact Nat.lt_succ_self _)))) | skip); clear hb; have hb := hbn; clear hbn hb2; (try clear k0 k1 k2 k3); have k0 := cb hb.out e0; have k1 := cb hb.out e1; have k2 := cb hb.out f0; have k3 := cb hb.out f1; have := hb.out.size)
        | (go_at_call 74; with_reducible refine (hdt.out _ ?_).mono ?_; (focus (first | with_reducible exact hb.out | with_reducible exact below_drew' hb.out | with_reducible exact hb.out.alloc hb.out.size _ | with_reducible exact below_drew' (hb.out.alloc hb.out.size _))); rintro e w2 ⟨rfl, hb2⟩; (first | (with_reducible have hbn := Hd.mk (hb.out.trans (hb2.mono hb.out.size))) | (have hbn := Hd.mk ((below_drew' hb.out).trans (hb2.mono (below_drew' hb.out).size))) | (have hbn := Hd.mk ((hb.out.alloc hb.out.size _).trans (hb2.mono (hb.out.alloc hb.out.size _).size))) | (have hbn := Hd.mk ((below_drew' (hb.out.alloc hb.out.size _)).trans (hb2.mono (below_drew' (hb.out.alloc hb.out.size _)).size)))); (first | (have hBn := Hd.mk (hB5.out.of_heap (hb2.block _ hB5.out.lt)); clear hB5; have hB5 := hBn; clear hBn) | (have hB5 := Hd.mk (p := Blk _ _ 31 zeroL) ((Blk.new _ _ _).of_heap (hb2.block _ (by rw [World.size_alloc]; exact Nat.lt_succ_self _))); (try simp only [World.size_drew] at hB5)) | (have hB5 := Hd.mk (p := Blk _ _ 31 zeroL) ((Blk.new _ _ _).drew.of_heap (hb2.block _ (by rw [World.size_drew, World.size_alloc]; exact Nat.lt_succ_self _)))) | skip); clear hb; have hb := hbn; clear hbn hb2; (try clear k0 k1 k2 k3); have k0 := cb hb.out e0; have k1 := cb hb.out e1; have k2 := cb hb.out f0; have k3 := cb hb.out f1; have := hb.out.size))
    all_goals
      go_wp2_with fail
      go_meet
      refine ⟨_, rfl, ⟨?_⟩, ⟨?_⟩, ?_⟩
      · (repeat first | with_reducible exact hb.out | refine Below.setCell ?_ (by (try simp only [World.size_drew]); show _ ≤ _; omega) _ | refine Below.alloc ?_ (by (try simp only [World.size_drew]); omega) _)
      · first | exact ((((((((((((hB5.out.set 0 (.string sT)).set 1 (.bool bI)).set 2 (.bool bZ)).set 3 (.bool nb)).set 4 (.bool bP)).set 5 (.bool true)).set 6 (.string sR)).set 7 (.string sC)).set 8 (.int .i64 0)).set 9 (.int .i64 0)).set 10 (.bool false)).set 11 (.bool false)) | exact Blk.new _ #[.string sT, .bool bI, .bool bZ, .bool nb, .bool bP, .bool true, .string sR, .string sC, .int .i64 0, .int .i64 0, .bool false, .bool false] _
      · first | omega | (simp only [World.size_drew]; omega)
  case rest =>
  obtain ⟨b5, rfl, hb5, hB5, hge⟩ := hcut
  generalize wc = wy at *
  clear hb hdt hzr hzx hsg hwi hro hcu htR htC
  have hb := hb5
  clear hb5
  have k0 := cb hb.out e0
  have k1 := cb hb.out e1
  go_upto_region 4 with (first
    | (go_at_call 8; refine (gro.out _ _ (hx2.out.below hb.out)).mono ?_; rintro e w3 ⟨bq, Aq, mq, cq, rfl, hnq, hb3⟩; have hn3 := Hd.mk hnq; have hB3 := Hd.mk (hB5.out.of_heap (hb3.block _ hB5.out.lt)); have hbb3 := Hd.mk (hb.out.trans (hb3.mono hb.out.size)); clear hb3 hnq)
    | (go_at_call 75; refine (hsR.out _ _ hn3.out).mono ?_; rintro e w4 ⟨rfl, hb4⟩; have hB4 := Hd.mk (hB3.out.of_heap (hb4.block _ hB3.out.lt)); have hbb4 := Hd.mk (hbb3.out.trans (hb4.mono hbb3.out.size)); clear hb4; have c8 : World.cell? _ ⟨_, 8, none⟩ = some (.int .i64 0) := hB4.out.cell 8; have c10 : World.cell? _ ⟨_, 10, none⟩ = some (.bool false) := hB4.out.cell 10; have z8 := hB4.out.frozen 8; have z10 := hB4.out.frozen 10; have l4 := hB4.out.lt))
  have hB6 : Hd (Blk ((w4.setCell ⟨b5, 8, none⟩ (.int .i64 iR)).setCell ⟨b5, 10, none⟩ (.bool kR)) b5 31 (abL sT bI bZ nb bP true sR sC iR 0 kR false)) := ⟨(hB4.out.set 8 (.int .i64 iR)).set 10 (.bool kR)⟩
  have hb6 := Hd.mk ((hbb4.out.setCell (p := ⟨b5, 8, none⟩) hge (.int .i64 iR)).setCell (p := ⟨b5, 10, none⟩) hge (.bool kR))
  generalize (w4.setCell ⟨b5, 8, none⟩ (.int .i64 iR)).setCell ⟨b5, 10, none⟩ (.bool kR) = w6 at *
  clear k0 k1 c8 c10 z8 z10 l4 hB4 hbb4 hbb3 hB3 hn3 hb hB5
  have k0 := cb hb6.out e0
  have k1 := cb hb6.out e1
  go_upto_region 5 with (first
    | (go_at_call 10; refine (gcu.out _ _ (hx2.out.below hb6.out)).mono ?_; rintro e w7 ⟨bq2, Aq2, mq2, cq2, rfl, hnq, hb3⟩; have hn3 := Hd.mk hnq; have hB3 := Hd.mk (hB6.out.of_heap (hb3.block _ hB6.out.lt)); have hbb3 := Hd.mk (hb6.out.trans (hb3.mono hb6.out.size)); clear hb3 hnq)
    | (go_at_call 75; refine (hsC.out _ _ hn3.out).mono ?_; rintro e w8 ⟨rfl, hb4⟩; have hB4 := Hd.mk (hB3.out.of_heap (hb4.block _ hB3.out.lt)); have hbb4 := Hd.mk (hbb3.out.trans (hb4.mono hbb3.out.size)); clear hb4; have c9 : World.cell? _ ⟨_, 9, none⟩ = some (.int .i64 0) := hB4.out.cell 9; have c11 : World.cell? _ ⟨_, 11, none⟩ = some (.bool false) := hB4.out.cell 11; have z9 := hB4.out.frozen 9; have z11 := hB4.out.frozen 11; have l4 := hB4.out.lt))
  have hB9 : Hd (Blk ((w8.setCell ⟨b5, 9, none⟩ (.int .i64 iC)).setCell ⟨b5, 11, none⟩ (.bool kC)) b5 31 (abL sT bI bZ nb bP true sR sC iR iC kR kC)) := ⟨(hB4.out.set 9 (.int .i64 iC)).set 11 (.bool kC)⟩
  have hb9 := Hd.mk ((hbb4.out.setCell (p := ⟨b5, 9, none⟩) hge (.int .i64 iC)).setCell (p := ⟨b5, 11, none⟩) hge (.bool kC))
  generalize (w8.setCell ⟨b5, 9, none⟩ (.int .i64 iC)).setCell ⟨b5, 11, none⟩ (.bool kC) = w9 at *
  clear k0 k1 c9 c11 z9 z11 l4 hB4 hbb4 hbb3 hB3 hn3
  have hv9 : Hd (Blk w9 (w.heap.size + 1) 31 zeroL) := ⟨hv2.out.of_heap (hb9.out.block _ s2)⟩
  have hbw9 := Hd.mk (hbw.out.trans (hb9.out.mono hbw.out.size))
  have d0 : w9.cell? ⟨b5, 0, none⟩ = some (.string sT) := hB9.out.cell 0
  have d1 : w9.cell? ⟨b5, 1, none⟩ = some (.bool bI) := hB9.out.cell 1
  have d2 : w9.cell? ⟨b5, 2, none⟩ = some (.bool bZ) := hB9.out.cell 2
  have d3 : w9.cell? ⟨b5, 3, none⟩ = some (.bool nb) := hB9.out.cell 3
  have d4 : w9.cell? ⟨b5, 4, none⟩ = some (.bool bP) := hB9.out.cell 4
  have d5 : w9.cell? ⟨b5, 5, none⟩ = some (.bool true) := hB9.out.cell 5
  have d6 : w9.cell? ⟨b5, 6, none⟩ = some (.string sR) := hB9.out.cell 6
  have d7 : w9.cell? ⟨b5, 7, none⟩ = some (.string sC) := hB9.out.cell 7
  have d8 : w9.cell? ⟨b5, 8, none⟩ = some (.int .i64 iR) := hB9.out.cell 8
  have d9 : w9.cell? ⟨b5, 9, none⟩ = some (.int .i64 iC) := hB9.out.cell 9
  have d10 : w9.cell? ⟨b5, 10, none⟩ = some (.bool kR) := hB9.out.cell 10
  have d11 : w9.cell? ⟨b5, 11, none⟩ = some (.bool kC) := hB9.out.cell 11
  have v0 : w9.cell? ⟨w.heap.size + 1, 0, none⟩ = some (.string (ByteArray.mk #[])) := hv9.out.cell 0
  have y0 := hv9.out.frozen 0
  have v1 : w9.cell? ⟨w.heap.size + 1, 1, none⟩ = some (.bool false) := hv9.out.cell 1
  have y1 := hv9.out.frozen 1
  have v2 : w9.cell? ⟨w.heap.size + 1, 2, none⟩ = some (.bool false) := hv9.out.cell 2
  have y2 := hv9.out.frozen 2
  have v3 : w9.cell? ⟨w.heap.size + 1, 3, none⟩ = some (.bool false) := hv9.out.cell 3
  have y3 := hv9.out.frozen 3
  have v4 : w9.cell? ⟨w.heap.size + 1, 4, none⟩ = some (.bool false) := hv9.out.cell 4
  have y4 := hv9.out.frozen 4
  have v5 : w9.cell? ⟨w.heap.size + 1, 5, none⟩ = some (.bool false) := hv9.out.cell 5
  have y5 := hv9.out.frozen 5
  have v6 : w9.cell? ⟨w.heap.size + 1, 6, none⟩ = some (.string (ByteArray.mk #[])) := hv9.out.cell 6
  have y6 := hv9.out.frozen 6
  have v7 : w9.cell? ⟨w.heap.size + 1, 7, none⟩ = some (.string (ByteArray.mk #[])) := hv9.out.cell 7
  have y7 := hv9.out.frozen 7
  have v8 : w9.cell? ⟨w.heap.size + 1, 8, none⟩ = some (.int .i64 0) := hv9.out.cell 8
  have y8 := hv9.out.frozen 8
  have v9 : w9.cell? ⟨w.heap.size + 1, 9, none⟩ = some (.int .i64 0) := hv9.out.cell 9
  have y9 := hv9.out.frozen 9
  have v10 : w9.cell? ⟨w.heap.size + 1, 10, none⟩ = some (.bool false) := hv9.out.cell 10
  have y10 := hv9.out.frozen 10
  have v11 : w9.cell? ⟨w.heap.size + 1, 11, none⟩ = some (.bool false) := hv9.out.cell 11
  have y11 := hv9.out.frozen 11
  have l9 := hv9.out.lt
  have l9b := hB9.out.lt
  go_wp2_with fail
  have hbf : Blk (((((((((((((w9).setCell ⟨w.heap.size + 1, 0, none⟩ (.string sT)).setCell ⟨w.heap.size + 1, 1, none⟩ (.bool bI)).setCell ⟨w.heap.size + 1, 2, none⟩ (.bool bZ)).setCell ⟨w.heap.size + 1, 3, none⟩ (.bool nb)).setCell ⟨w.heap.size + 1, 4, none⟩ (.bool bP)).setCell ⟨w.heap.size + 1, 5, none⟩ (.bool true)).setCell ⟨w.heap.size + 1, 6, none⟩ (.string sR)).setCell ⟨w.heap.size + 1, 7, none⟩ (.string sC)).setCell ⟨w.heap.size + 1, 8, none⟩ (.int .i64 iR)).setCell ⟨w.heap.size + 1, 9, none⟩ (.int .i64 iC)).setCell ⟨w.heap.size + 1, 10, none⟩ (.bool kR)).setCell ⟨w.heap.size + 1, 11, none⟩ (.bool kC)) (w.heap.size + 1) 31 (abL sT bI bZ nb bP true sR sC iR iC kR kC) := ((((((((((((hv9.out).set 0 (.string sT)).set 1 (.bool bI)).set 2 (.bool bZ)).set 3 (.bool nb)).set 4 (.bool bP)).set 5 (.bool true)).set 6 (.string sR)).set 7 (.string sC)).set 8 (.int .i64 iR)).set 9 (.int .i64 iC)).set 10 (.bool kR)).set 11 (.bool kC)
  have hbel : Below w.heap.size w (((((((((((((w9).setCell ⟨w.heap.size + 1, 0, none⟩ (.string sT)).setCell ⟨w.heap.size + 1, 1, none⟩ (.bool bI)).setCell ⟨w.heap.size + 1, 2, none⟩ (.bool bZ)).setCell ⟨w.heap.size + 1, 3, none⟩ (.bool nb)).setCell ⟨w.heap.size + 1, 4, none⟩ (.bool bP)).setCell ⟨w.heap.size + 1, 5, none⟩ (.bool true)).setCell ⟨w.heap.size + 1, 6, none⟩ (.string sR)).setCell ⟨w.heap.size + 1, 7, none⟩ (.string sC)).setCell ⟨w.heap.size + 1, 8, none⟩ (.int .i64 iR)).setCell ⟨w.heap.size + 1, 9, none⟩ (.int .i64 iC)).setCell ⟨w.heap.size + 1, 10, none⟩ (.bool kR)).setCell ⟨w.heap.size + 1, 11, none⟩ (.bool kC)) := ((((((((((((hbw9.out).setCell (p := ⟨w.heap.size + 1, 0, none⟩) (Nat.le_succ _) (.string sT)).setCell (p := ⟨w.heap.size + 1, 1, none⟩) (Nat.le_succ _) (.bool bI)).setCell (p := ⟨w.heap.size + 1, 2, none⟩) (Nat.le_succ _) (.bool bZ)).setCell (p := ⟨w.heap.size + 1, 3, none⟩) (Nat.le_succ _) (.bool nb)).setCell (p := ⟨w.heap.size + 1, 4, none⟩) (Nat.le_succ _) (.bool bP)).setCell (p := ⟨w.heap.size + 1, 5, none⟩) (Nat.le_succ _) (.bool true)).setCell (p := ⟨w.heap.size + 1, 6, none⟩) (Nat.le_succ _) (.string sR)).setCell (p := ⟨w.heap.size + 1, 7, none⟩) (Nat.le_succ _) (.string sC)).setCell (p := ⟨w.heap.size + 1, 8, none⟩) (Nat.le_succ _) (.int .i64 iR)).setCell (p := ⟨w.heap.size + 1, 9, none⟩) (Nat.le_succ _) (.int .i64 iC)).setCell (p := ⟨w.heap.size + 1, 10, none⟩) (Nat.le_succ _) (.bool kR)).setCell (p := ⟨w.heap.size + 1, 11, none⟩) (Nat.le_succ _) (.bool kC)
  generalize ((((((((((((w9).setCell ⟨w.heap.size + 1, 0, none⟩ (.string sT)).setCell ⟨w.heap.size + 1, 1, none⟩ (.bool bI)).setCell ⟨w.heap.size + 1, 2, none⟩ (.bool bZ)).setCell ⟨w.heap.size + 1, 3, none⟩ (.bool nb)).setCell ⟨w.heap.size + 1, 4, none⟩ (.bool bP)).setCell ⟨w.heap.size + 1, 5, none⟩ (.bool true)).setCell ⟨w.heap.size + 1, 6, none⟩ (.string sR)).setCell ⟨w.heap.size + 1, 7, none⟩ (.string sC)).setCell ⟨w.heap.size + 1, 8, none⟩ (.int .i64 iR)).setCell ⟨w.heap.size + 1, 9, none⟩ (.int .i64 iC)).setCell ⟨w.heap.size + 1, 10, none⟩ (.bool kR)).setCell ⟨w.heap.size + 1, 11, none⟩ (.bool kC) = w10 at *
  have x0 : w10.cell? ⟨w.heap.size + 1, 0, none⟩ = some (.string sT) := hbf.cell 0
  have x1 : w10.cell? ⟨w.heap.size + 1, 1, none⟩ = some (.bool bI) := hbf.cell 1
  have x2 : w10.cell? ⟨w.heap.size + 1, 2, none⟩ = some (.bool bZ) := hbf.cell 2
  have x3 : w10.cell? ⟨w.heap.size + 1, 3, none⟩ = some (.bool nb) := hbf.cell 3
  have x4 : w10.cell? ⟨w.heap.size + 1, 4, none⟩ = some (.bool bP) := hbf.cell 4
  have x5 : w10.cell? ⟨w.heap.size + 1, 5, none⟩ = some (.bool true) := hbf.cell 5
  have x6 : w10.cell? ⟨w.heap.size + 1, 6, none⟩ = some (.string sR) := hbf.cell 6
  have x7 : w10.cell? ⟨w.heap.size + 1, 7, none⟩ = some (.string sC) := hbf.cell 7
  have x8 : w10.cell? ⟨w.heap.size + 1, 8, none⟩ = some (.int .i64 iR) := hbf.cell 8
  have x9 : w10.cell? ⟨w.heap.size + 1, 9, none⟩ = some (.int .i64 iC) := hbf.cell 9
  have x10 : w10.cell? ⟨w.heap.size + 1, 10, none⟩ = some (.bool kR) := hbf.cell 10
  have x11 : w10.cell? ⟨w.heap.size + 1, 11, none⟩ = some (.bool kC) := hbf.cell 11
  have l10 := hbf.lt
  replace hbf := Hd.mk hbf
  replace hbel := Hd.mk hbel
  clear d0 v0 y0 d1 v1 y1 d2 v2 y2 d3 v3 y3 d4 v4 y4 d5 v5 y5 d6 v6 y6 d7 v7 y7 d8 v8 y8 d9 v9 y9 d10 v10 y10 d11 v11 y11
  refine bodyPost_ret (v := .agg (abL sT bI bZ nb bP true sR sC iR iC kR kC).toArray) ?_ rfl ⟨rfl, hbel.out⟩
  simp [results, Tryz.results21, go_sem, abL, x0, x1, x2, x3, x4, x5, x6, x7, x8, x9, x10, x11, l10]
end Go.Proofs.YtmamfidjigmahaaGreatDoor
