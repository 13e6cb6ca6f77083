/- Quotient and rest at once. Conditions: those that each theorem states. -/
import Derived.Test.YtdbjdpooggaonaaGreatDoorBase10
set_option linter.all false

namespace Go.Proofs.YtdbjdpooggaonaaGreatDoor
open Go.RowKit
set_option maxRecDepth 100000
/-- wx is w2, but for two Ints' blocks. -/
structure Two2 (w2 wx : World) (b1 b2 : Nat) (s1 s2 : Bool) (v1 v2 : Value) : Prop where
  h1 : Blk wx b1 106 [.bool s1, v1]
  h2 : Blk wx b2 106 [.bool s2, v2]
  oth : ∀ k, k ≠ b1 → k ≠ b2 → wx.heap[k]? = w2.heap[k]?
  os : wx.os = w2.os
  tape : wx.tape = w2.tape
  output : wx.output = w2.output
  size : wx.heap.size = w2.heap.size
section
variable {w2 wx wy : World} {b1 b2 : Nat} {s1 s2 t1 t2 : Bool} {v1 v2 u1 u2 : Value}
theorem Two2.refl (h1 : Blk w2 b1 106 [.bool s1, v1]) (h2 : Blk w2 b2 106 [.bool s2, v2]) : Two2 w2 w2 b1 b2 s1 s2 v1 v2 := ⟨h1, h2, fun _ _ _ => rfl, rfl, rfl, rfl, rfl⟩
theorem Two2.put1 (h : Two2 w2 wx b1 b2 s1 s2 v1 v2) (hne : b1 ≠ b2) (hp : Put wx wy b1 106 [.bool t1, u1]) : Two2 w2 wy b1 b2 t1 s2 u1 v2 :=
  ⟨hp.here, h.h2.of_heap (hp.other b2 (fun e => hne e.symm)), fun k k1 k2 => (hp.other k k1).trans (h.oth k k1 k2), hp.os.trans h.os, hp.tape.trans h.tape, hp.output.trans h.output, by rw [hp.size, h.size]⟩
theorem Two2.put2 (h : Two2 w2 wx b1 b2 s1 s2 v1 v2) (hne : b1 ≠ b2) (hp : Put wx wy b2 106 [.bool t2, u2]) : Two2 w2 wy b1 b2 s1 t2 v1 u2 :=
  ⟨h.h1.of_heap (hp.other b1 hne), hp.here, fun k k1 k2 => (hp.other k k2).trans (h.oth k k1 k2), hp.os.trans h.os, hp.tape.trans h.tape, hp.output.trans h.output, by rw [hp.size, h.size]⟩
theorem Two2.drew (h : Two2 w2 wx b1 b2 s1 s2 v1 v2) : Two2 w2 wx.drew b1 b2 s1 s2 v1 v2 := ⟨h.h1, h.h2, h.oth, h.os, h.tape, h.output, h.size⟩
theorem Two2.cast (h : Two2 w2 wx b1 b2 s1 s2 v1 v2) (e1 : s1 = t1) (e2 : s2 = t2) : Two2 w2 wx b1 b2 t1 t2 v1 v2 := e1 ▸ e2 ▸ h
/-- The slices stored. -/
theorem Two2.slices (h : Two2 w2 wx b1 b2 s1 s2 v1 v2) (hne : b1 ≠ b2) (hw : wy = (wx.setCell ⟨b1, 1, none⟩ u1).setCell ⟨b2, 1, none⟩ u2 ∨ wy = (wx.setCell ⟨b2, 1, none⟩ u2).setCell ⟨b1, 1, none⟩ u1 := by first | exact .inl rfl | exact .inr rfl) : Two2 w2 wy b1 b2 s1 s2 u1 u2 := by
  rcases hw with rfl | rfl
  · have k1 := h.put1 hne ((Put.refl h.h1).set 1 u1)
    exact k1.put2 hne ((Put.refl k1.h2).set 1 u2)
  · have k1 := h.put2 hne ((Put.refl h.h2).set 1 u2)
    exact k1.put1 hne ((Put.refl k1.h1).set 1 u1)
theorem Two2.signs (h : Two2 w2 wx b1 b2 s1 s2 v1 v2) (hne : b1 ≠ b2) (hw : wy = ((wx.setCell ⟨b1, 0, none⟩ (.bool t1)).setCell ⟨b2, 0, none⟩ (.bool t2)).drew ∨ wy = ((wx.setCell ⟨b2, 0, none⟩ (.bool t2)).setCell ⟨b1, 0, none⟩ (.bool t1)).drew := by first | exact .inl rfl | exact .inr rfl) : Two2 w2 wy b1 b2 t1 t2 v1 v2 := by
  rcases hw with rfl | rfl
  · have k1 := h.put1 hne ((Put.refl h.h1).set 0 (.bool t1))
    exact (k1.put2 hne ((Put.refl k1.h2).set 0 (.bool t2))).drew
  · have k1 := h.put2 hne ((Put.refl h.h2).set 0 (.bool t2))
    exact (k1.put1 hne ((Put.refl k1.h1).set 0 (.bool t1))).drew
end
/-- Behind the division and the stores of its slices. -/
def Aft2 (w : World) (oz o2 : Option Nat) (bz br bx by_ q r : Nat) (b c nb nc : Bool) (wx : World) : Prop :=
  ∃ w2 A2 c2 A3 c3 oq orr, DivR w w2 oz o2 q r (.slice A2 (wlen q) c2) (.slice A3 (wlen r) c3) oq orr ∧ Two2 w2 wx bz br b c (.slice A2 (wlen q) c2) (.slice A3 (wlen r) c3) ∧ wx.cell? ⟨bx, 0, none⟩ = some (.bool nb) ∧ wx.cell? ⟨by_, 0, none⟩ = some (.bool nc)
theorem blk_factsD {w w2 : World} {oz o2 oq orr : Option Nat} {q r B : Nat} {vq vr v : Value} {b : Bool} (hd : DivR w w2 oz o2 q r vq vr oq orr) (hb : Blk w B 106 [.bool b, v]) (h1 : oz ≠ some B) (h2 : o2 ≠ some B) :
    Blk w2 B 106 [.bool b, v] ∧ w2.cell? ⟨B, 0, none⟩ = some (.bool b) ∧ w2.cell? ⟨B, 1, none⟩ = some v ∧ w2.frozen? ⟨B, 0, none⟩ = false ∧ w2.frozen? ⟨B, 1, none⟩ = false := by
  have h : Blk w2 B 106 [.bool b, v] := hb.of_heap (hd.block B hb.lt h1 h2)
  exact ⟨h, h.cell 0, h.cell 1, h.frozen 0, h.frozen 1⟩
theorem cell_off {w : World} {B b1 b2 : Nat} {u1 u2 v : Value} (h : w.cell? ⟨B, 0, none⟩ = some v) : ((w.setCell ⟨b1, 1, none⟩ u1).setCell ⟨b2, 1, none⟩ u2).cell? ⟨B, 0, none⟩ = some v := by
  rw [World.cell?_setCell_other, World.cell?_setCell_other, h]
  · intro e; cases e
  · intro e; cases e
set_option maxHeartbeats 8000000 in
theorem IQuoRem_any (P : Nat → Prop) (bz bx by_ br : Nat) (z x y r : Int) (S : Nat → Option Int) (w : World) (hI : Ints P w S) (hz : S bz = some z) (hx : S bx = some x) (hy : S by_ = some y) (hr : S br = some r) (hne : bz ≠ br) (hok : DivOK x.natAbs y.natAbs) :
    Calls Tryz.prog 190 #[ptr bz, ptr bx, ptr by_, ptr br] w fun e w' => e = .returned (.tuple #[ptr bz, ptr br]) ∧ Keep P w w' ∧ Ints P w' (upd (upd S bz (x.tdiv y)) br (x.tmod y)) := by
  obtain ⟨own, hst⟩ := hI
  obtain ⟨A, cap, hb, hn, g0, g1, h3, h4⟩ := (hst.at_ bz z hz).open
  obtain ⟨C, cx, hbx, hnx, e0, e1, h5, h6⟩ := (hst.at_ bx x hx).open
  obtain ⟨D, cy, hby, hny, j0, j1, h7, h8⟩ := (hst.at_ by_ y hy).open
  have hoz : own bz ≠ some bz := fun e => by have := (hst.no bz z bz hz e).2; rw [hz] at this; cases this
  have hozx : own bz ≠ some bx := fun e => by have := (hst.no bz z bx hz e).2; rw [hx] at this; cases this
  have hozy : own bz ≠ some by_ := fun e => by have := (hst.no bz z by_ hz e).2; rw [hy] at this; cases this
  obtain ⟨R, cr, hbr, hnr, i0, i1, h9, h10⟩ := (hst.at_ br r hr).open
  have hno : ∀ B B' y' y'', S B = some y' → S B' = some y'' → own B ≠ some B' := fun B B' y' y'' e1 e2 e => by have := (hst.no B y' B' e1 e).2; rw [e2] at this; cases this
  have k1 := hno bz bz z z hz hz
  have k2 := hno br bz r z hr hz
  have k3 := hno bz br z r hz hr
  have k4 := hno br br r r hr hr
  have k5 := hno bz bx z x hz hx
  have k6 := hno br bx r x hr hx
  have k7 := hno bz by_ z y hz hy
  have k8 := hno br by_ r y hr hy
  have hdiv := fun w1 (hb1 : Below w.heap.size w w1) => slq hb1 (ndiv_any _ _ _ _ x.natAbs y.natAbs (own bz) (own br) (own bx) (own by_) w1 (hn.recv.below hb1) (hnr.recv.below hb1) (hnx.below hb1) (hny.below hb1) hok (fun K e1 e2 => hne (hst.ap bz br z r K hz hr e1 e2)) (.pointer none))
  have fr := hbr.frozen 1
  have fr0 := hbr.frozen 0
  replace hdiv := Hd.mk hdiv
  replace hnr := Hd.mk hnr
  replace hbr := Hd.mk hbr
  replace hr := Hd.mk hr
  replace h9 := Hd.mk h9
  clear hno
  have fz := hb.frozen 1
  have fz0 := hb.frozen 0
  replace hst := Hd.mk hst
  replace hn := Hd.mk hn
  replace hnx := Hd.mk hnx
  replace hny := Hd.mk hny
  replace hb := Hd.mk hb
  replace hbx := Hd.mk hbx
  replace hby := Hd.mk hby
  replace hz := Hd.mk hz
  replace hx := Hd.mk hx
  replace hy := Hd.mk hy
  replace h3 := Hd.mk h3
  replace h5 := Hd.mk h5
  replace h7 := Hd.mk h7
  generalize hnb : decide (x < 0) = nb at *
  generalize hnc : decide (y < 0) = nc at *
  replace hnb := Hd.mk hnb
  replace hnc := Hd.mk hnc
  clear hoz hozx hozy
  go_enter Tryz.func190, Tryz.ntmps190
  go_wp2
  go_upto_region 1 with fail
  go_cut [] (fun wx => Aft2 w (own bz) (own br) bz br bx by_ (x.natAbs / y.natAbs) (x.natAbs % y.natAbs) (decide (z < 0)) (decide (r < 0)) nb nc wx)
  case first =>
    go_region_law (first | (go_simp; go_at_call 219; refine (hdiv.out _ (below_drew _)).mono ?_; rintro e w2 ⟨A2, cap2, A3, cap3, rfl, oq, orr, hd9⟩; obtain ⟨hb2, l0, l1, lz0, lz⟩ := blk_factsD hd9 hb.out k1 k2; obtain ⟨hbr2, p0, p1, pz0, pz⟩ := blk_factsD hd9 hbr.out k3 k4; obtain ⟨hbx2, m0, m1, mz0, mz⟩ := blk_factsD hd9 hbx.out k5 k6; obtain ⟨hby2, n0, n1, nz0, nz⟩ := blk_factsD hd9 hby.out k7 k8; replace hd9 := Hd.mk hd9; replace hb2 := Hd.mk hb2; replace hbr2 := Hd.mk hbr2; replace hbx2 := Hd.mk hbx2; replace hby2 := Hd.mk hby2))
    all_goals (go_wp2_with fail; go_meet; exact ⟨_, _, _, _, _, _, _, hd9.out, (Two2.refl hb2.out hbr2.out).slices hne, cell_off m0, cell_off n0⟩)
  case rest =>
  obtain ⟨w2, A2, c2, A3, c3, oq, orr, hd9, hT, m0, n0⟩ := hcut
  have lz0 := hT.h1.frozen 0
  have l0 := hT.h1.cell 0
  have l1 := hT.h1.cell 1
  have pz0 := hT.h2.frozen 0
  have p0 := hT.h2.cell 0
  have p1 := hT.h2.cell 1
  replace hd9 := Hd.mk hd9
  replace hT := Hd.mk hT
  by_cases hq0 : x.natAbs / y.natAbs = 0
  · have hd := wlen_dec0 hq0
    by_cases hm0 : x.natAbs % y.natAbs = 0
    · have hd2 := wlen_dec0 hm0
      replace hq0 := Hd.mk hq0
      replace hm0 := Hd.mk hm0
      go_wp2
      go_region
      all_goals
        go_wp2
        go_ret2
        have hT2 := (hT.out.signs hne).cast (tdiv_s0 hq0.out).symm (tmod_s0 hm0.out).symm
        exact ⟨rfl, hst.out.write2 hz.out hr.out hne hd9.out hT2.h1 hT2.h2 hT2.os hT2.tape hT2.output hT2.size hT2.oth (Int.natAbs_tdiv _ _).symm (Int.natAbs_tmod _ _).symm⟩
    · have hd2 := wlen_dec1 hm0
      replace hq0 := Hd.mk hq0
      replace hm0 := Hd.mk hm0
      go_wp2
      go_region
      all_goals
        go_wp2
        go_ret2
        have hT2 := (hT.out.signs hne).cast (tdiv_s0 hq0.out).symm (tmod_s1 hnb.out hm0.out)
        exact ⟨rfl, hst.out.write2 hz.out hr.out hne hd9.out hT2.h1 hT2.h2 hT2.os hT2.tape hT2.output hT2.size hT2.oth (Int.natAbs_tdiv _ _).symm (Int.natAbs_tmod _ _).symm⟩
  · have hd := wlen_dec1 hq0
    by_cases hm0 : x.natAbs % y.natAbs = 0
    · have hd2 := wlen_dec0 hm0
      replace hq0 := Hd.mk hq0
      replace hm0 := Hd.mk hm0
      go_wp2
      go_region
      all_goals
        go_wp2
        go_ret2
        have hT2 := (hT.out.signs hne).cast (tdiv_s1 hnb.out hnc.out hq0.out) (tmod_s0 hm0.out).symm
        exact ⟨rfl, hst.out.write2 hz.out hr.out hne hd9.out hT2.h1 hT2.h2 hT2.os hT2.tape hT2.output hT2.size hT2.oth (Int.natAbs_tdiv _ _).symm (Int.natAbs_tmod _ _).symm⟩
    · have hd2 := wlen_dec1 hm0
      replace hq0 := Hd.mk hq0
      replace hm0 := Hd.mk hm0
      go_wp2
      go_region
      all_goals
        go_wp2
        go_ret2
        have hT2 := (hT.out.signs hne).cast (tdiv_s1 hnb.out hnc.out hq0.out) (tmod_s1 hnb.out hm0.out)
        exact ⟨rfl, hst.out.write2 hz.out hr.out hne hd9.out hT2.h1 hT2.h2 hT2.os hT2.tape hT2.output hT2.size hT2.oth (Int.natAbs_tdiv _ _).symm (Int.natAbs_tmod _ _).symm⟩
end Go.Proofs.YtdbjdpooggaonaaGreatDoor
