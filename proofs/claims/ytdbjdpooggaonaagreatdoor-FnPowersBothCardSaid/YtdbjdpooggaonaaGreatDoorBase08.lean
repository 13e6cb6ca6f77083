/- Sums and differences of Ints. Conditions: those that each theorem states. -/
import Derived.Test.YtdbjdpooggaonaaGreatDoorBase07
set_option linter.all false

namespace Go.Proofs.YtdbjdpooggaonaaGreatDoor
open Go.RowKit
set_option maxRecDepth 100000
theorem q_drew2 {P : Program} {f : FuncId} {args : Array Value} {w : World} {a n : Nat} {v : Value} (h : Calls P f args (w.drewN (a + n)) fun e w' => e = .returned v ∧ ∃ q, w' = (w.drewN (a + n)).drewN q) : Calls P f args (w.drewN (a + n)) fun e w'' => e = .returned v ∧ ∃ m, w'' = w.drewN (a + m) :=
  h.mono fun _ _ ⟨he, q, hm⟩ => ⟨he, n + q, by rw [hm, World.drewN_drewN, Nat.add_assoc]⟩
theorem sa_p0 {x y : Int} {nb nc : Bool} (a1 : decide (x < 0) = nb) (a2 : decide (y < 0) = nc) (a3 : (nb == nc) = true) (a4 : x.natAbs + y.natAbs = 0) : decide (x + y < 0) = false := by
  subst a1 a2
  by_cases hx : x < 0 <;> by_cases hy : y < 0 <;> simp [hx, hy] at a3 ⊢ <;> omega
theorem sa_p1 {x y : Int} {nb nc : Bool} (a1 : decide (x < 0) = nb) (a2 : decide (y < 0) = nc) (a3 : (nb == nc) = true) (a4 : ¬ x.natAbs + y.natAbs = 0) : decide (x + y < 0) = (nb) := by
  subst a1 a2
  by_cases hx : x < 0 <;> by_cases hy : y < 0 <;> simp [hx, hy] at a3 ⊢ <;> omega
theorem sa_pm {x y : Int} {nb nc : Bool} (a1 : decide (x < 0) = nb) (a2 : decide (y < 0) = nc) (a3 : (nb == nc) = true) {q : Prop} (_a4 : q) : x.natAbs + y.natAbs = (x + y).natAbs := by
  subst a1 a2
  by_cases hx : x < 0 <;> by_cases hy : y < 0 <;> simp [hx, hy] at a3 ⊢ <;> omega
theorem sa_m0 {x y : Int} {nb nc : Bool} (hle : y.natAbs ≤ x.natAbs) (a1 : decide (x < 0) = nb) (a2 : decide (y < 0) = nc) (a3 : ¬ (nb == nc) = true) (a4 : x.natAbs - y.natAbs = 0) : decide (x + y < 0) = false := by
  subst a1 a2
  by_cases hx : x < 0 <;> by_cases hy : y < 0 <;> simp [hx, hy] at a3 ⊢ <;> omega
theorem sa_m1 {x y : Int} {nb nc : Bool} (hle : y.natAbs ≤ x.natAbs) (a1 : decide (x < 0) = nb) (a2 : decide (y < 0) = nc) (a3 : ¬ (nb == nc) = true) (a4 : ¬ x.natAbs - y.natAbs = 0) : decide (x + y < 0) = (nb) := by
  subst a1 a2
  by_cases hx : x < 0 <;> by_cases hy : y < 0 <;> simp [hx, hy] at a3 ⊢ <;> omega
theorem sa_mm {x y : Int} {nb nc : Bool} (hle : y.natAbs ≤ x.natAbs) (a1 : decide (x < 0) = nb) (a2 : decide (y < 0) = nc) (a3 : ¬ (nb == nc) = true) {q : Prop} (_a4 : q) : x.natAbs - y.natAbs = (x + y).natAbs := by
  subst a1 a2
  by_cases hx : x < 0 <;> by_cases hy : y < 0 <;> simp [hx, hy] at a3 ⊢ <;> omega
theorem sa_n0 {x y : Int} {nb nc : Bool} (hle : ¬ y.natAbs ≤ x.natAbs) (a1 : decide (x < 0) = nb) (a2 : decide (y < 0) = nc) (a3 : ¬ (nb == nc) = true) (a4 : y.natAbs - x.natAbs = 0) : decide (x + y < 0) = false := by
  subst a1 a2
  by_cases hx : x < 0 <;> by_cases hy : y < 0 <;> simp [hx, hy] at a3 ⊢ <;> omega
theorem sa_n1 {x y : Int} {nb nc : Bool} (hle : ¬ y.natAbs ≤ x.natAbs) (a1 : decide (x < 0) = nb) (a2 : decide (y < 0) = nc) (a3 : ¬ (nb == nc) = true) (a4 : ¬ y.natAbs - x.natAbs = 0) : decide (x + y < 0) = (!nb) := by
  subst a1 a2
  by_cases hx : x < 0 <;> by_cases hy : y < 0 <;> simp [hx, hy] at a3 ⊢ <;> omega
theorem sa_nm {x y : Int} {nb nc : Bool} (hle : ¬ y.natAbs ≤ x.natAbs) (a1 : decide (x < 0) = nb) (a2 : decide (y < 0) = nc) (a3 : ¬ (nb == nc) = true) {q : Prop} (_a4 : q) : y.natAbs - x.natAbs = (x + y).natAbs := by
  subst a1 a2
  by_cases hx : x < 0 <;> by_cases hy : y < 0 <;> simp [hx, hy] at a3 ⊢ <;> omega
theorem ss_p0 {x y : Int} {nb nc : Bool} (a1 : decide (x < 0) = nb) (a2 : decide (y < 0) = nc) (a3 : (!(nb == nc)) = true) (a4 : x.natAbs + y.natAbs = 0) : decide (x - y < 0) = false := by
  subst a1 a2
  by_cases hx : x < 0 <;> by_cases hy : y < 0 <;> simp [hx, hy] at a3 ⊢ <;> omega
theorem ss_p1 {x y : Int} {nb nc : Bool} (a1 : decide (x < 0) = nb) (a2 : decide (y < 0) = nc) (a3 : (!(nb == nc)) = true) (a4 : ¬ x.natAbs + y.natAbs = 0) : decide (x - y < 0) = (nb) := by
  subst a1 a2
  by_cases hx : x < 0 <;> by_cases hy : y < 0 <;> simp [hx, hy] at a3 ⊢ <;> omega
theorem ss_pm {x y : Int} {nb nc : Bool} (a1 : decide (x < 0) = nb) (a2 : decide (y < 0) = nc) (a3 : (!(nb == nc)) = true) {q : Prop} (_a4 : q) : x.natAbs + y.natAbs = (x - y).natAbs := by
  subst a1 a2
  by_cases hx : x < 0 <;> by_cases hy : y < 0 <;> simp [hx, hy] at a3 ⊢ <;> omega
theorem ss_m0 {x y : Int} {nb nc : Bool} (hle : y.natAbs ≤ x.natAbs) (a1 : decide (x < 0) = nb) (a2 : decide (y < 0) = nc) (a3 : ¬ (!(nb == nc)) = true) (a4 : x.natAbs - y.natAbs = 0) : decide (x - y < 0) = false := by
  subst a1 a2
  by_cases hx : x < 0 <;> by_cases hy : y < 0 <;> simp [hx, hy] at a3 ⊢ <;> omega
theorem ss_m1 {x y : Int} {nb nc : Bool} (hle : y.natAbs ≤ x.natAbs) (a1 : decide (x < 0) = nb) (a2 : decide (y < 0) = nc) (a3 : ¬ (!(nb == nc)) = true) (a4 : ¬ x.natAbs - y.natAbs = 0) : decide (x - y < 0) = (nb) := by
  subst a1 a2
  by_cases hx : x < 0 <;> by_cases hy : y < 0 <;> simp [hx, hy] at a3 ⊢ <;> omega
theorem ss_mm {x y : Int} {nb nc : Bool} (hle : y.natAbs ≤ x.natAbs) (a1 : decide (x < 0) = nb) (a2 : decide (y < 0) = nc) (a3 : ¬ (!(nb == nc)) = true) {q : Prop} (_a4 : q) : x.natAbs - y.natAbs = (x - y).natAbs := by
  subst a1 a2
  by_cases hx : x < 0 <;> by_cases hy : y < 0 <;> simp [hx, hy] at a3 ⊢ <;> omega
theorem ss_n0 {x y : Int} {nb nc : Bool} (hle : ¬ y.natAbs ≤ x.natAbs) (a1 : decide (x < 0) = nb) (a2 : decide (y < 0) = nc) (a3 : ¬ (!(nb == nc)) = true) (a4 : y.natAbs - x.natAbs = 0) : decide (x - y < 0) = false := by
  subst a1 a2
  by_cases hx : x < 0 <;> by_cases hy : y < 0 <;> simp [hx, hy] at a3 ⊢ <;> omega
theorem ss_n1 {x y : Int} {nb nc : Bool} (hle : ¬ y.natAbs ≤ x.natAbs) (a1 : decide (x < 0) = nb) (a2 : decide (y < 0) = nc) (a3 : ¬ (!(nb == nc)) = true) (a4 : ¬ y.natAbs - x.natAbs = 0) : decide (x - y < 0) = (!nb) := by
  subst a1 a2
  by_cases hx : x < 0 <;> by_cases hy : y < 0 <;> simp [hx, hy] at a3 ⊢ <;> omega
theorem ss_nm {x y : Int} {nb nc : Bool} (hle : ¬ y.natAbs ≤ x.natAbs) (a1 : decide (x < 0) = nb) (a2 : decide (y < 0) = nc) (a3 : ¬ (!(nb == nc)) = true) {q : Prop} (_a4 : q) : y.natAbs - x.natAbs = (x - y).natAbs := by
  subst a1 a2
  by_cases hx : x < 0 <;> by_cases hy : y < 0 <;> simp [hx, hy] at a3 ⊢ <;> omega

set_option maxHeartbeats 2000000 in
theorem IAdd_any (P : Nat → Prop) (bz bx by_ : Nat) (z x y : Int) (S : Nat → Option Int) (w : World) (hI : Ints P w S) (hz : S bz = some z) (hx : S bx = some x) (hy : S by_ = some y) (hwx : wlen x.natAbs < 800) (hwy : wlen y.natAbs < 800) :
    Calls Tryz.prog 181 #[ptr bz, ptr bx, ptr by_] w fun e w' => e = .returned (ptr bz) ∧ Keep P w w' ∧ Ints P w' (upd S bz (x + y)) := by
  obtain ⟨own, hst⟩ := hI
  obtain ⟨A, cap, hb, hn, g0, g1, h3, h4⟩ := (hst.at_ bz z hz).open
  obtain ⟨C, cx, hbx, hnx, k0, k1, h5, h6⟩ := (hst.at_ bx x hx).open
  obtain ⟨D, cy, hby, hny, j0, j1, h7, h8⟩ := (hst.at_ by_ y hy).open
  have hoz : own bz ≠ some bz := fun e => by have := (hst.no bz z bz hz e).2; rw [hz] at this; cases this
  have hadd := fun w1 (hb1 : Below w.heap.size w w1) => sl hb1 (nadd_any _ _ _ x.natAbs y.natAbs (own bz) (own bx) (own by_) w1 (hn.recv.below hb1) (hnx.below hb1) (hny.below hb1) hwx hwy)
  have hsub := fun w1 (hb1 : Below w.heap.size w w1) (hle : y.natAbs ≤ x.natAbs) => sl hb1 (nsub_any _ _ _ x.natAbs y.natAbs (own bz) (own bx) (own by_) w1 (hn.recv.below hb1) (hnx.below hb1) (hny.below hb1) hwx hle)
  have hsub2 := fun w1 (hb1 : Below w.heap.size w w1) (hle : x.natAbs ≤ y.natAbs) => sl hb1 (nsub_any _ _ _ y.natAbs x.natAbs (own bz) (own by_) (own bx) w1 (hn.recv.below hb1) (hny.below hb1) (hnx.below hb1) hwy hle)
  have hcmp := fun w1 (hb1 : Below w.heap.size w w1) => ncmp_any _ _ x.natAbs y.natAbs (own bx) (own by_) w1 (hnx.below hb1) (hny.below hb1) hwx
  have fz := hb.frozen 1
  have fz0 := hb.frozen 0
  replace hst := Hd.mk hst
  replace hn := Hd.mk hn
  replace hnx := Hd.mk hnx
  replace hny := Hd.mk hny
  replace hadd := Hd.mk hadd
  replace hsub := Hd.mk hsub
  replace hsub2 := Hd.mk hsub2
  replace hcmp := Hd.mk hcmp
  replace hb := Hd.mk hb
  replace hbx := Hd.mk hbx
  replace hby := Hd.mk hby
  replace hz := Hd.mk hz
  replace hx := Hd.mk hx
  replace hy := Hd.mk hy
  replace h3 := Hd.mk h3
  replace h5 := Hd.mk h5
  replace h7 := Hd.mk h7
  generalize hnb : decide (x < 0) = nb at *
  generalize hnc : decide (y < 0) = nc at *
  replace hnb := Hd.mk hnb
  replace hnc := Hd.mk hnc
  by_cases ht : (nb == nc) = true
  · have heq := Hd.mk ht
    go_enter Tryz.func181, Tryz.ntmps181
    go_wp2
    go_quiet (fail)
    go_wp2
    go_region_law (first | (go_simp; go_at_call 221; refine (hadd.out _ (below_drewN _ _)).mono ?_; rintro e w2 ⟨A2, cap2, rfl, hr⟩; obtain ⟨o2, hn2, hc2, ho2⟩ := hr; obtain ⟨hb2, l0, l1, lz0, lz⟩ := blk_facts hc2 hb.out hoz; replace hr := Hd.mk (show NatR w w2 (own bz) (x.natAbs + y.natAbs) (.slice A2 (wlen (x.natAbs + y.natAbs)) cap2) from ⟨o2, hn2, hc2, ho2⟩); clear hn2 hc2 ho2; replace hb2 := Hd.mk hb2))
    all_goals
      by_cases hm0 : x.natAbs + y.natAbs = 0
      · have hd : decide (0 < wlen (x.natAbs + y.natAbs)) = false := by rw [hm0, wlen_zero]; rfl
        replace hm0 := Hd.mk hm0
        go_wp2
        go_ret
        exact ⟨rfl, hst.out.write hz.out hr.out (by rw [show decide (x + y < 0) = false from (by have a1 := hnb.out; have a2 := hnc.out; have a3 := heq.out; have a4 := hm0.out; exact sa_p0 a1 a2 a3 a4)]; exact ((Put.refl hb2.out).set 1 _).set 0 (.bool false)) (by have a1 := hnb.out; have a2 := hnc.out; have a3 := heq.out; have a4 := hm0.out; exact sa_pm a1 a2 a3 a4)⟩
      · have hd : decide (0 < wlen (x.natAbs + y.natAbs)) = true := by
          have : wlen (x.natAbs + y.natAbs) ≠ 0 := fun h => hm0 (wlen_eq_zero.1 h)
          simp; omega
        replace hm0 := Hd.mk hm0
        go_wp2
        go_ret
        exact ⟨rfl, hst.out.write hz.out hr.out (by rw [show decide (x + y < 0) = nb from (by have a1 := hnb.out; have a2 := hnc.out; have a3 := heq.out; have a4 := hm0.out; exact sa_p1 a1 a2 a3 a4)]; exact ((Put.refl hb2.out).set 1 _).set 0 (.bool (nb))) (by have a1 := hnb.out; have a2 := hnc.out; have a3 := heq.out; have a4 := hm0.out; exact sa_pm a1 a2 a3 a4)⟩
  · have heq := Hd.mk ht
    have ht2 : (nb == nc) = false := by simpa using ht
    by_cases hle : y.natAbs ≤ x.natAbs
    · have hc9 : decide (0 ≤ cmpN x.natAbs y.natAbs) = true := by
        unfold cmpN; split; (· omega); (· split <;> rfl)
      have hle' := Hd.mk hle
      generalize hcm : cmpN x.natAbs y.natAbs = cm at *
      replace hcm := Hd.mk hcm
      go_enter Tryz.func181, Tryz.ntmps181
      go_wp2
      go_quiet (fail)
      go_wp2
      go_quiet ((go_at_call 197; exact q_drew2 (hcmp.out _ (below_drewN _ _))))
      go_wp2
      go_region_law (first | (go_simp; go_at_call 222; refine (hsub.out _ (below_drewN _ _) hle).mono ?_; rintro e w2 ⟨A2, cap2, rfl, hr⟩; obtain ⟨o2, hn2, hc2, ho2⟩ := hr; obtain ⟨hb2, l0, l1, lz0, lz⟩ := blk_facts hc2 hb.out hoz; replace hr := Hd.mk (show NatR w w2 (own bz) (x.natAbs - y.natAbs) (.slice A2 (wlen (x.natAbs - y.natAbs)) cap2) from ⟨o2, hn2, hc2, ho2⟩); clear hn2 hc2 ho2; replace hb2 := Hd.mk hb2))
      all_goals
        by_cases hm0 : x.natAbs - y.natAbs = 0
        · have hd : decide (0 < wlen (x.natAbs - y.natAbs)) = false := by rw [hm0, wlen_zero]; rfl
          replace hm0 := Hd.mk hm0
          go_wp2
          go_ret
          exact ⟨rfl, hst.out.write hz.out hr.out (by rw [show decide (x + y < 0) = false from (by have a1 := hnb.out; have a2 := hnc.out; have a3 := heq.out; have a4 := hm0.out; exact sa_m0 hle a1 a2 a3 a4)]; exact ((Put.refl hb2.out).set 1 _).set 0 (.bool false)) (by have a1 := hnb.out; have a2 := hnc.out; have a3 := heq.out; have a4 := hm0.out; exact sa_mm hle a1 a2 a3 a4)⟩
        · have hd : decide (0 < wlen (x.natAbs - y.natAbs)) = true := by
            have : wlen (x.natAbs - y.natAbs) ≠ 0 := fun h => hm0 (wlen_eq_zero.1 h)
            simp; omega
          replace hm0 := Hd.mk hm0
          go_wp2
          go_ret
          exact ⟨rfl, hst.out.write hz.out hr.out (by rw [show decide (x + y < 0) = nb from (by have a1 := hnb.out; have a2 := hnc.out; have a3 := heq.out; have a4 := hm0.out; exact sa_m1 hle a1 a2 a3 a4)]; exact ((Put.refl hb2.out).set 1 _).set 0 (.bool (nb))) (by have a1 := hnb.out; have a2 := hnc.out; have a3 := heq.out; have a4 := hm0.out; exact sa_mm hle a1 a2 a3 a4)⟩
    · have hc9 : decide (0 ≤ cmpN x.natAbs y.natAbs) = false := by
        rw [cmpN_lt (by omega)]; rfl
      have hle' := Hd.mk hle
      generalize hcm : cmpN x.natAbs y.natAbs = cm at *
      replace hcm := Hd.mk hcm
      go_enter Tryz.func181, Tryz.ntmps181
      go_wp2
      go_quiet (fail)
      go_wp2
      go_quiet ((go_at_call 197; exact q_drew2 (hcmp.out _ (below_drewN _ _))))
      go_wp2
      go_region_law (first | (go_simp; go_at_call 222; refine (hsub2.out _ (below_drewN _ _) (by omega)).mono ?_; rintro e w2 ⟨A2, cap2, rfl, hr⟩; obtain ⟨o2, hn2, hc2, ho2⟩ := hr; obtain ⟨hb2, l0, l1, lz0, lz⟩ := blk_facts hc2 hb.out hoz; replace hr := Hd.mk (show NatR w w2 (own bz) (y.natAbs - x.natAbs) (.slice A2 (wlen (y.natAbs - x.natAbs)) cap2) from ⟨o2, hn2, hc2, ho2⟩); clear hn2 hc2 ho2; replace hb2 := Hd.mk hb2))
      all_goals
        by_cases hm0 : y.natAbs - x.natAbs = 0
        · have hd : decide (0 < wlen (y.natAbs - x.natAbs)) = false := by rw [hm0, wlen_zero]; rfl
          replace hm0 := Hd.mk hm0
          go_wp2
          go_ret
          exact ⟨rfl, hst.out.write hz.out hr.out (by rw [show decide (x + y < 0) = false from (by have a1 := hnb.out; have a2 := hnc.out; have a3 := heq.out; have a4 := hm0.out; exact sa_n0 hle a1 a2 a3 a4)]; exact ((Put.refl hb2.out).set 1 _).set 0 (.bool false)) (by have a1 := hnb.out; have a2 := hnc.out; have a3 := heq.out; have a4 := hm0.out; exact sa_nm hle a1 a2 a3 a4)⟩
        · have hd : decide (0 < wlen (y.natAbs - x.natAbs)) = true := by
            have : wlen (y.natAbs - x.natAbs) ≠ 0 := fun h => hm0 (wlen_eq_zero.1 h)
            simp; omega
          replace hm0 := Hd.mk hm0
          go_wp2
          go_ret
          exact ⟨rfl, hst.out.write hz.out hr.out (by rw [show decide (x + y < 0) = !nb from (by have a1 := hnb.out; have a2 := hnc.out; have a3 := heq.out; have a4 := hm0.out; exact sa_n1 hle a1 a2 a3 a4)]; exact ((Put.refl hb2.out).set 1 _).set 0 (.bool (!nb))) (by have a1 := hnb.out; have a2 := hnc.out; have a3 := heq.out; have a4 := hm0.out; exact sa_nm hle a1 a2 a3 a4)⟩

set_option maxHeartbeats 2000000 in
theorem ISub_any (P : Nat → Prop) (bz bx by_ : Nat) (z x y : Int) (S : Nat → Option Int) (w : World) (hI : Ints P w S) (hz : S bz = some z) (hx : S bx = some x) (hy : S by_ = some y) (hwx : wlen x.natAbs < 800) (hwy : wlen y.natAbs < 800) :
    Calls Tryz.prog 184 #[ptr bz, ptr bx, ptr by_] w fun e w' => e = .returned (ptr bz) ∧ Keep P w w' ∧ Ints P w' (upd S bz (x - y)) := by
  obtain ⟨own, hst⟩ := hI
  obtain ⟨A, cap, hb, hn, g0, g1, h3, h4⟩ := (hst.at_ bz z hz).open
  obtain ⟨C, cx, hbx, hnx, k0, k1, h5, h6⟩ := (hst.at_ bx x hx).open
  obtain ⟨D, cy, hby, hny, j0, j1, h7, h8⟩ := (hst.at_ by_ y hy).open
  have hoz : own bz ≠ some bz := fun e => by have := (hst.no bz z bz hz e).2; rw [hz] at this; cases this
  have hadd := fun w1 (hb1 : Below w.heap.size w w1) => sl hb1 (nadd_any _ _ _ x.natAbs y.natAbs (own bz) (own bx) (own by_) w1 (hn.recv.below hb1) (hnx.below hb1) (hny.below hb1) hwx hwy)
  have hsub := fun w1 (hb1 : Below w.heap.size w w1) (hle : y.natAbs ≤ x.natAbs) => sl hb1 (nsub_any _ _ _ x.natAbs y.natAbs (own bz) (own bx) (own by_) w1 (hn.recv.below hb1) (hnx.below hb1) (hny.below hb1) hwx hle)
  have hsub2 := fun w1 (hb1 : Below w.heap.size w w1) (hle : x.natAbs ≤ y.natAbs) => sl hb1 (nsub_any _ _ _ y.natAbs x.natAbs (own bz) (own by_) (own bx) w1 (hn.recv.below hb1) (hny.below hb1) (hnx.below hb1) hwy hle)
  have hcmp := fun w1 (hb1 : Below w.heap.size w w1) => ncmp_any _ _ x.natAbs y.natAbs (own bx) (own by_) w1 (hnx.below hb1) (hny.below hb1) hwx
  have fz := hb.frozen 1
  have fz0 := hb.frozen 0
  replace hst := Hd.mk hst
  replace hn := Hd.mk hn
  replace hnx := Hd.mk hnx
  replace hny := Hd.mk hny
  replace hadd := Hd.mk hadd
  replace hsub := Hd.mk hsub
  replace hsub2 := Hd.mk hsub2
  replace hcmp := Hd.mk hcmp
  replace hb := Hd.mk hb
  replace hbx := Hd.mk hbx
  replace hby := Hd.mk hby
  replace hz := Hd.mk hz
  replace hx := Hd.mk hx
  replace hy := Hd.mk hy
  replace h3 := Hd.mk h3
  replace h5 := Hd.mk h5
  replace h7 := Hd.mk h7
  generalize hnb : decide (x < 0) = nb at *
  generalize hnc : decide (y < 0) = nc at *
  replace hnb := Hd.mk hnb
  replace hnc := Hd.mk hnc
  by_cases ht : (!(nb == nc)) = true
  · have heq := Hd.mk ht
    go_enter Tryz.func184, Tryz.ntmps184
    go_wp2
    go_quiet (fail)
    go_wp2
    go_region_law (first | (go_simp; go_at_call 221; refine (hadd.out _ (below_drewN _ _)).mono ?_; rintro e w2 ⟨A2, cap2, rfl, hr⟩; obtain ⟨o2, hn2, hc2, ho2⟩ := hr; obtain ⟨hb2, l0, l1, lz0, lz⟩ := blk_facts hc2 hb.out hoz; replace hr := Hd.mk (show NatR w w2 (own bz) (x.natAbs + y.natAbs) (.slice A2 (wlen (x.natAbs + y.natAbs)) cap2) from ⟨o2, hn2, hc2, ho2⟩); clear hn2 hc2 ho2; replace hb2 := Hd.mk hb2))
    all_goals
      by_cases hm0 : x.natAbs + y.natAbs = 0
      · have hd : decide (0 < wlen (x.natAbs + y.natAbs)) = false := by rw [hm0, wlen_zero]; rfl
        replace hm0 := Hd.mk hm0
        go_wp2
        go_ret
        exact ⟨rfl, hst.out.write hz.out hr.out (by rw [show decide (x - y < 0) = false from (by have a1 := hnb.out; have a2 := hnc.out; have a3 := heq.out; have a4 := hm0.out; exact ss_p0 a1 a2 a3 a4)]; exact ((Put.refl hb2.out).set 1 _).set 0 (.bool false)) (by have a1 := hnb.out; have a2 := hnc.out; have a3 := heq.out; have a4 := hm0.out; exact ss_pm a1 a2 a3 a4)⟩
      · have hd : decide (0 < wlen (x.natAbs + y.natAbs)) = true := by
          have : wlen (x.natAbs + y.natAbs) ≠ 0 := fun h => hm0 (wlen_eq_zero.1 h)
          simp; omega
        replace hm0 := Hd.mk hm0
        go_wp2
        go_ret
        exact ⟨rfl, hst.out.write hz.out hr.out (by rw [show decide (x - y < 0) = nb from (by have a1 := hnb.out; have a2 := hnc.out; have a3 := heq.out; have a4 := hm0.out; exact ss_p1 a1 a2 a3 a4)]; exact ((Put.refl hb2.out).set 1 _).set 0 (.bool (nb))) (by have a1 := hnb.out; have a2 := hnc.out; have a3 := heq.out; have a4 := hm0.out; exact ss_pm a1 a2 a3 a4)⟩
  · have heq := Hd.mk ht
    have ht2 : (!(nb == nc)) = false := by simpa using ht
    by_cases hle : y.natAbs ≤ x.natAbs
    · have hc9 : decide (0 ≤ cmpN x.natAbs y.natAbs) = true := by
        unfold cmpN; split; (· omega); (· split <;> rfl)
      have hle' := Hd.mk hle
      generalize hcm : cmpN x.natAbs y.natAbs = cm at *
      replace hcm := Hd.mk hcm
      go_enter Tryz.func184, Tryz.ntmps184
      go_wp2
      go_quiet (fail)
      go_wp2
      go_quiet ((go_at_call 197; exact q_drew2 (hcmp.out _ (below_drewN _ _))))
      go_wp2
      go_region_law (first | (go_simp; go_at_call 222; refine (hsub.out _ (below_drewN _ _) hle).mono ?_; rintro e w2 ⟨A2, cap2, rfl, hr⟩; obtain ⟨o2, hn2, hc2, ho2⟩ := hr; obtain ⟨hb2, l0, l1, lz0, lz⟩ := blk_facts hc2 hb.out hoz; replace hr := Hd.mk (show NatR w w2 (own bz) (x.natAbs - y.natAbs) (.slice A2 (wlen (x.natAbs - y.natAbs)) cap2) from ⟨o2, hn2, hc2, ho2⟩); clear hn2 hc2 ho2; replace hb2 := Hd.mk hb2))
      all_goals
        by_cases hm0 : x.natAbs - y.natAbs = 0
        · have hd : decide (0 < wlen (x.natAbs - y.natAbs)) = false := by rw [hm0, wlen_zero]; rfl
          replace hm0 := Hd.mk hm0
          go_wp2
          go_ret
          exact ⟨rfl, hst.out.write hz.out hr.out (by rw [show decide (x - y < 0) = false from (by have a1 := hnb.out; have a2 := hnc.out; have a3 := heq.out; have a4 := hm0.out; exact ss_m0 hle a1 a2 a3 a4)]; exact ((Put.refl hb2.out).set 1 _).set 0 (.bool false)) (by have a1 := hnb.out; have a2 := hnc.out; have a3 := heq.out; have a4 := hm0.out; exact ss_mm hle a1 a2 a3 a4)⟩
        · have hd : decide (0 < wlen (x.natAbs - y.natAbs)) = true := by
            have : wlen (x.natAbs - y.natAbs) ≠ 0 := fun h => hm0 (wlen_eq_zero.1 h)
            simp; omega
          replace hm0 := Hd.mk hm0
          go_wp2
          go_ret
          exact ⟨rfl, hst.out.write hz.out hr.out (by rw [show decide (x - y < 0) = nb from (by have a1 := hnb.out; have a2 := hnc.out; have a3 := heq.out; have a4 := hm0.out; exact ss_m1 hle a1 a2 a3 a4)]; exact ((Put.refl hb2.out).set 1 _).set 0 (.bool (nb))) (by have a1 := hnb.out; have a2 := hnc.out; have a3 := heq.out; have a4 := hm0.out; exact ss_mm hle a1 a2 a3 a4)⟩
    · have hc9 : decide (0 ≤ cmpN x.natAbs y.natAbs) = false := by
        rw [cmpN_lt (by omega)]; rfl
      have hle' := Hd.mk hle
      generalize hcm : cmpN x.natAbs y.natAbs = cm at *
      replace hcm := Hd.mk hcm
      go_enter Tryz.func184, Tryz.ntmps184
      go_wp2
      go_quiet (fail)
      go_wp2
      go_quiet ((go_at_call 197; exact q_drew2 (hcmp.out _ (below_drewN _ _))))
      go_wp2
      go_region_law (first | (go_simp; go_at_call 222; refine (hsub2.out _ (below_drewN _ _) (by omega)).mono ?_; rintro e w2 ⟨A2, cap2, rfl, hr⟩; obtain ⟨o2, hn2, hc2, ho2⟩ := hr; obtain ⟨hb2, l0, l1, lz0, lz⟩ := blk_facts hc2 hb.out hoz; replace hr := Hd.mk (show NatR w w2 (own bz) (y.natAbs - x.natAbs) (.slice A2 (wlen (y.natAbs - x.natAbs)) cap2) from ⟨o2, hn2, hc2, ho2⟩); clear hn2 hc2 ho2; replace hb2 := Hd.mk hb2))
      all_goals
        by_cases hm0 : y.natAbs - x.natAbs = 0
        · have hd : decide (0 < wlen (y.natAbs - x.natAbs)) = false := by rw [hm0, wlen_zero]; rfl
          replace hm0 := Hd.mk hm0
          go_wp2
          go_ret
          exact ⟨rfl, hst.out.write hz.out hr.out (by rw [show decide (x - y < 0) = false from (by have a1 := hnb.out; have a2 := hnc.out; have a3 := heq.out; have a4 := hm0.out; exact ss_n0 hle a1 a2 a3 a4)]; exact ((Put.refl hb2.out).set 1 _).set 0 (.bool false)) (by have a1 := hnb.out; have a2 := hnc.out; have a3 := heq.out; have a4 := hm0.out; exact ss_nm hle a1 a2 a3 a4)⟩
        · have hd : decide (0 < wlen (y.natAbs - x.natAbs)) = true := by
            have : wlen (y.natAbs - x.natAbs) ≠ 0 := fun h => hm0 (wlen_eq_zero.1 h)
            simp; omega
          replace hm0 := Hd.mk hm0
          go_wp2
          go_ret
          exact ⟨rfl, hst.out.write hz.out hr.out (by rw [show decide (x - y < 0) = !nb from (by have a1 := hnb.out; have a2 := hnc.out; have a3 := heq.out; have a4 := hm0.out; exact ss_n1 hle a1 a2 a3 a4)]; exact ((Put.refl hb2.out).set 1 _).set 0 (.bool (!nb))) (by have a1 := hnb.out; have a2 := hnc.out; have a3 := heq.out; have a4 := hm0.out; exact ss_nm hle a1 a2 a3 a4)⟩

end Go.Proofs.YtdbjdpooggaonaaGreatDoor
