/- Quotients and rests of Ints. Conditions: those that each theorem states. -/
import Derived.Test.YtdbjdpooggaonaaGreatDoorBase09
set_option linter.all false

namespace Go.Proofs.YtdbjdpooggaonaaGreatDoor
open Go.RowKit
set_option maxRecDepth 100000
set_option maxHeartbeats 4000000 in
theorem IQuo_any (P : Nat → Prop) (bz bx by_ : Nat) (z x y : Int) (S : Nat → Option Int) (w : World) (hI : Ints P w S) (hz : S bz = some z) (hx : S bx = some x) (hy : S by_ = some y) (hok : DivOK x.natAbs y.natAbs) :
    Calls Tryz.prog 189 #[ptr bz, ptr bx, ptr by_] w fun e w' => e = .returned (ptr bz) ∧ Keep P w w' ∧ Ints P w' (upd S bz (x.tdiv y)) := by
  obtain ⟨own, hst⟩ := hI
  obtain ⟨A, cap, hb, hn, g0, g1, h3, h4⟩ := (hst.at_ bz z hz).open
  obtain ⟨C, cx, hbx, hnx, k0, k1, h5, h6⟩ := (hst.at_ bx x hx).open
  obtain ⟨D, cy, hby, hny, j0, j1, h7, h8⟩ := (hst.at_ by_ y hy).open
  have hoz : own bz ≠ some bz := fun e => by have := (hst.no bz z bz hz e).2; rw [hz] at this; cases this
  have hozx : own bz ≠ some bx := fun e => by have := (hst.no bz z bx hz e).2; rw [hx] at this; cases this
  have hozy : own bz ≠ some by_ := fun e => by have := (hst.no bz z by_ hz e).2; rw [hy] at this; cases this
  have hdiv := fun w1 (hb1 : Below w.heap.size w w1) => slq hb1 (ndiv_any _ (.slice none 0 0) _ _ x.natAbs y.natAbs (own bz) none (own bx) (own by_) w1 (hn.recv.below hb1) (RecvS.nil _) (hnx.below hb1) (hny.below hb1) hok (fun _ _ h => by cases h) (.pointer none))
  replace hdiv := Hd.mk hdiv
  have fz := hb.frozen 1
  have fz0 := hb.frozen 0
  replace hst := Hd.mk hst
  replace hn := Hd.mk hn
  replace hnx := Hd.mk hnx
  replace hny := Hd.mk hny
  replace hb := Hd.mk hb
  replace hbx := Hd.mk hbx
  replace hby := Hd.mk hby
  replace hz := Hd.mk hz
  replace hx := Hd.mk hx
  replace hy := Hd.mk hy
  replace h3 := Hd.mk h3
  replace h5 := Hd.mk h5
  replace h7 := Hd.mk h7
  generalize hnb : decide (x < 0) = nb at *
  generalize hnc : decide (y < 0) = nc at *
  replace hnb := Hd.mk hnb
  replace hnc := Hd.mk hnc
  go_enter Tryz.func189, Tryz.ntmps189
  go_wp2
  go_upto_region 1 with fail
  go_cut [] (fun wx => Aft w (own bz) bz bx by_ (x.natAbs / y.natAbs) (decide (z < 0)) nb nc wx)
  case first =>
    go_region_law (first | (go_simp; go_at_call 219; refine (hdiv.out _ (below_drew _)).mono ?_; rintro e w2 ⟨A2, cap2, A3, cap3, rfl, oq, orr, hd9⟩; have hr := hd9.natq; have hc2 := nr_chg hr; obtain ⟨hb2, l0, l1, lz0, lz⟩ := blk_facts hc2 hb.out hoz; obtain ⟨hbx2, m0, m1, mz0, mz⟩ := blk_facts hc2 hbx.out hozx; obtain ⟨hby2, n0, n1, nz0, nz⟩ := blk_facts hc2 hby.out hozy; replace hd9 := Hd.mk hd9; replace hr := Hd.mk hr; replace hc2 := Hd.mk hc2; replace hb2 := Hd.mk hb2; replace hbx2 := Hd.mk hbx2; replace hby2 := Hd.mk hby2))
    all_goals (go_wp2_with fail; go_meet; exact ⟨_, _, _, _, rfl, hr.out, hb2.out, m0, n0⟩)
  case rest =>
  obtain ⟨w2, A2, cap2, v, rfl, hr, hb2, m0, n0⟩ := hcut
  have lz0 := hb2.frozen 0
  have l0 := hb2.cell 0
  have l1 := hb2.cell 1
  replace hb2 := Hd.mk hb2
  replace hr := Hd.mk hr
  by_cases hm0 : x.natAbs / y.natAbs = 0
  · have hd := wlen_dec0 hm0
    replace hm0 := Hd.mk hm0
    go_wp2
    go_region
    all_goals
      go_wp2
      go_ret
      exact ⟨rfl, hst.out.write hz.out hr.out (put2 hb2.out (tdiv_s0 hm0.out).symm) (Int.natAbs_tdiv _ _).symm⟩
  · have hd := wlen_dec1 hm0
    replace hm0 := Hd.mk hm0
    go_wp2
    go_region
    all_goals
      go_wp2
      go_ret
      exact ⟨rfl, hst.out.write hz.out hr.out (put2 hb2.out (tdiv_s1 hnb.out hnc.out hm0.out)) (Int.natAbs_tdiv _ _).symm⟩
set_option maxHeartbeats 4000000 in
theorem IRem_any (P : Nat → Prop) (bz bx by_ : Nat) (z x y : Int) (S : Nat → Option Int) (w : World) (hI : Ints P w S) (hz : S bz = some z) (hx : S bx = some x) (hy : S by_ = some y) (hok : DivOK x.natAbs y.natAbs) :
    Calls Tryz.prog 168 #[ptr bz, ptr bx, ptr by_] w fun e w' => e = .returned (ptr bz) ∧ Keep P w w' ∧ Ints P w' (upd S bz (x.tmod y)) := by
  obtain ⟨own, hst⟩ := hI
  obtain ⟨A, cap, hb, hn, g0, g1, h3, h4⟩ := (hst.at_ bz z hz).open
  obtain ⟨C, cx, hbx, hnx, k0, k1, h5, h6⟩ := (hst.at_ bx x hx).open
  obtain ⟨D, cy, hby, hny, j0, j1, h7, h8⟩ := (hst.at_ by_ y hy).open
  have hoz : own bz ≠ some bz := fun e => by have := (hst.no bz z bz hz e).2; rw [hz] at this; cases this
  have hozx : own bz ≠ some bx := fun e => by have := (hst.no bz z bx hz e).2; rw [hx] at this; cases this
  have hozy : own bz ≠ some by_ := fun e => by have := (hst.no bz z by_ hz e).2; rw [hy] at this; cases this
  have hdiv := fun w1 (hb1 : Below w.heap.size w w1) => slq hb1 (ndiv_any (.slice none 0 0) _ _ _ x.natAbs y.natAbs none (own bz) (own bx) (own by_) w1 (RecvS.nil _) (hn.recv.below hb1) (hnx.below hb1) (hny.below hb1) hok (fun _ h => by cases h) (.pointer none))
  replace hdiv := Hd.mk hdiv
  have fz := hb.frozen 1
  have fz0 := hb.frozen 0
  replace hst := Hd.mk hst
  replace hn := Hd.mk hn
  replace hnx := Hd.mk hnx
  replace hny := Hd.mk hny
  replace hb := Hd.mk hb
  replace hbx := Hd.mk hbx
  replace hby := Hd.mk hby
  replace hz := Hd.mk hz
  replace hx := Hd.mk hx
  replace hy := Hd.mk hy
  replace h3 := Hd.mk h3
  replace h5 := Hd.mk h5
  replace h7 := Hd.mk h7
  generalize hnb : decide (x < 0) = nb at *
  generalize hnc : decide (y < 0) = nc at *
  replace hnb := Hd.mk hnb
  replace hnc := Hd.mk hnc
  go_enter Tryz.func168, Tryz.ntmps168
  go_wp2
  go_upto_region 1 with fail
  go_cut [] (fun wx => Aft w (own bz) bz bx by_ (x.natAbs % y.natAbs) (decide (z < 0)) nb nc wx)
  case first =>
    go_region_law (first | (go_simp; go_at_call 219; refine (hdiv.out _ (below_drew _)).mono ?_; rintro e w2 ⟨A3, cap3, A2, cap2, rfl, oq, orr, hd9⟩; have hr := hd9.natr; have hc2 := nr_chg hr; obtain ⟨hb2, l0, l1, lz0, lz⟩ := blk_facts hc2 hb.out hoz; obtain ⟨hbx2, m0, m1, mz0, mz⟩ := blk_facts hc2 hbx.out hozx; obtain ⟨hby2, n0, n1, nz0, nz⟩ := blk_facts hc2 hby.out hozy; replace hd9 := Hd.mk hd9; replace hr := Hd.mk hr; replace hc2 := Hd.mk hc2; replace hb2 := Hd.mk hb2; replace hbx2 := Hd.mk hbx2; replace hby2 := Hd.mk hby2))
    all_goals (go_wp2_with fail; go_meet; exact ⟨_, _, _, _, rfl, hr.out, hb2.out, m0, n0⟩)
  case rest =>
  obtain ⟨w2, A2, cap2, v, rfl, hr, hb2, m0, n0⟩ := hcut
  have lz0 := hb2.frozen 0
  have l0 := hb2.cell 0
  have l1 := hb2.cell 1
  replace hb2 := Hd.mk hb2
  replace hr := Hd.mk hr
  by_cases hm0 : x.natAbs % y.natAbs = 0
  · have hd := wlen_dec0 hm0
    replace hm0 := Hd.mk hm0
    go_wp2
    go_ret
    exact ⟨rfl, hst.out.write hz.out hr.out (put2 hb2.out (tmod_s0 hm0.out).symm) (Int.natAbs_tmod _ _).symm⟩
  · have hd := wlen_dec1 hm0
    replace hm0 := Hd.mk hm0
    go_wp2
    go_ret
    exact ⟨rfl, hst.out.write hz.out hr.out (put2 hb2.out (tmod_s1 hnb.out hm0.out)) (Int.natAbs_tmod _ _).symm⟩
end Go.Proofs.YtdbjdpooggaonaaGreatDoor
