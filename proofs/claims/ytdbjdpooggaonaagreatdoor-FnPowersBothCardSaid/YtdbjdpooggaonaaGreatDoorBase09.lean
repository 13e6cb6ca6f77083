/- Quotients and rests of natural numbers: nat.div by one word, or of a smaller number. Products, quotients and rests of Ints. Conditions: those that each theorem states. -/
import Derived.Test.YtdbjdpooggaonaaGreatDoorBase06
import Derived.BigRegion
import Derived.Deep.DeepCutAuto
import Derived.Test.YtdbjdpooggaonaaGreatDoorBase08
set_option linter.all false

section
namespace Go.Proofs.YtdbjdpooggaonaaGreatDoor
open Go.RowKit
set_option maxRecDepth 100000
/-- A division whose numbers are served. -/
def DivOK (a b : Nat) : Prop := 0 < b ∧ wlen a < 800 ∧ (wlen b = 1 ∨ a < b)
section
variable {w w1 w2 : World} {oz o2 : Option Nat} {q r : Nat} {vq vr : Value}
theorem DivR.mk2 (h1 : NatR w w1 oz q vq) (h2 : NatR w1 w2 o2 r vr) (hne : ∀ K, oz = some K → o2 ≠ some K) (hl : ∀ K, o2 = some K → K < w.heap.size) : ∃ oq orr, DivR w w2 oz o2 q r vq vr oq orr := by
  obtain ⟨oq, k1, k2, k3⟩ := h1
  obtain ⟨orr, j1, j2, j3⟩ := h2
  have hq2 : ∀ K, oq = some K → o2 ≠ some K := fun K hK e => by
    rcases k3 with k3 | ⟨K', k3, hk⟩
    · exact hne K (k3 ▸ hK) e
    · rw [k3] at hK
      obtain rfl : K' = K := Option.some.inj hK
      have := hl K' e; omega
  refine ⟨oq, orr, k1.chg j2 hq2, j1, j2.os.trans k2.os, j2.tape.trans k2.tape, j2.output.trans k2.output, Nat.le_trans k2.size j2.size, fun k hk h3 h4 => (j2.block k (Nat.lt_of_lt_of_le hk k2.size) h4).trans (k2.block k hk h3), k3, ?_, ?_⟩
  · rcases j3 with j3 | ⟨K', j3, hk⟩
    · exact .inl j3
    · exact .inr ⟨K', j3, Nat.le_trans k2.size hk⟩
  · intro K hK e
    rcases j3 with j3 | ⟨K', j3, hk⟩
    · exact hq2 K hK (j3 ▸ e)
    · rw [j3] at e
      obtain rfl : K' = K := Option.some.inj e
      have := k1.lt hK; omega
theorem DivR.lead {oq orr : Option Nat} (hb : Below w.heap.size w w1) (h : DivR w1 w2 oz o2 q r vq vr oq orr) : DivR w w2 oz o2 q r vq vr oq orr :=
  ⟨h.hq, h.hr, h.os.trans hb.os, h.tape.trans hb.tape, h.output.trans hb.output, Nat.le_trans hb.size h.size, fun k hk h1 h2 => (h.block k (Nat.lt_of_lt_of_le hk hb.size) h1 h2).trans (hb.block k hk),
    h.fq.imp id fun ⟨K, h1, h2⟩ => ⟨K, h1, Nat.le_trans hb.size h2⟩, h.fr.imp id fun ⟨K, h1, h2⟩ => ⟨K, h1, Nat.le_trans hb.size h2⟩, h.ne⟩
end
set_option maxHeartbeats 1000000 in
theorem ndiv_one (z z2 u v : Value) (a b : Nat) (oz o2 ou ov : Option Nat) (w : World) (hz : RecvS w z oz) (hz2 : RecvS w z2 o2) (hu : NatS w u a ou) (hv : NatS w v b ov) (hb : 0 < b) (ha : wlen a < 800) (h1 : wlen b = 1)
    (hne : ∀ K, oz = some K → o2 ≠ some K) (nil : Value) :
    Calls Tryz.prog 219 #[z, nil, z2, u, v] w fun e w' => ∃ vq vr oq orr, e = .returned (.tuple #[vq, vr]) ∧ DivR w w' oz o2 (a / b) (a % b) vq vr oq orr := by
  have hbB : b < BB := by have := lt_wlen b; rw [h1] at this; simpa using this
  have hdv := Hd.mk (divW_any z u a b oz ou w hz hu ha hb hbB)
  obtain ⟨D, cd, rfl, hld, hcd, hrd, hsd⟩ := hv.open
  obtain ⟨K, rfl, hoK, sv⟩ := hsd (by omega)
  have g0 := sv 0 (by omega)
  rw [Nat.add_zero, dig_word hbB] at g0
  have hmB : a % b < BB := Nat.lt_trans (Nat.mod_lt _ hb) hbB
  have hd0 : ((wlen b : Int) == 0) = false := by rw [h1]; rfl
  have hd1 : ((wlen b : Int) == 1) = true := by rw [h1]; rfl
  have hsw := Hd.mk fun w1 (hr : RecvS w1 z2 o2) => setWord_any z2 (a % b) o2 w1 hr hmB
  have hlt2 := Hd.mk fun K (h : o2 = some K) => hz2.lt h
  have hrec := Hd.mk fun w1 (hc : Chg w w1 oz) => hz2.chg hc (fun K h e => hne K e h)
  replace hne := Hd.mk hne
  have hpos : (0 : Int) < (wlen b : Int) := by omega
  replace hz := Hd.mk hz
  replace hz2 := Hd.mk hz2
  replace hu := Hd.mk hu
  replace hv := Hd.mk hv
  replace hsd := Hd.mk hsd
  replace sv := Hd.mk sv
  replace hrd := Hd.mk hrd
  replace hoK := Hd.mk hoK
  replace h1 := Hd.mk h1
  generalize a / b = q at *
  generalize a % b = r at *
  go_enter_defers Tryz.func219, Tryz.ntmps219
  go_wp2_with fail
  refine hdv.out.mono ?_
  rintro e w1 ⟨vq, rfl, hr1⟩
  have hc : Chg w w1 oz := by obtain ⟨_, _, h, _⟩ := hr1; exact h
  replace hr1 := Hd.mk hr1
  go_wp2_with fail
  refine (hsw.out _ (hrec.out _ hc)).mono ?_
  rintro e w2 ⟨vr, rfl, hr2⟩
  obtain ⟨oq, orr, hD⟩ := DivR.mk2 hr1.out hr2 hne.out hlt2.out
  replace hD := Hd.mk hD
  clear hr2
  go_wp2
  refine ⟨_, results_tmp2 rfl _ _ _, vq, vr, oq, orr, rfl, hD.out⟩
set_option maxHeartbeats 1000000 in
theorem ndiv_less (z z2 u v : Value) (a b : Nat) (oz o2 ou ov : Option Nat) (w : World) (hz : RecvS w z oz) (hz2 : RecvS w z2 o2) (hu : NatS w u a ou) (hv : NatS w v b ov) (ha : wlen a < 800) (h1 : wlen b ≠ 1) (hab : a < b)
    (hne : ∀ K, oz = some K → o2 ≠ some K) (nil : Value) :
    Calls Tryz.prog 219 #[z, nil, z2, u, v] w fun e w' => ∃ vq vr oq orr, e = .returned (.tuple #[vq, vr]) ∧ DivR w w' oz o2 (a / b) (a % b) vq vr oq orr := by
  rw [Nat.div_eq_of_lt hab, Nat.mod_eq_of_lt hab]
  have hw0 : wlen b ≠ 0 := fun h => by have := wlen_eq_zero.1 h; omega
  have hcmp := Hd.mk (ncmp_any u v a b ou ov w hu hv ha)
  rw [cmpN_lt hab] at hcmp
  have hset := Hd.mk fun n => set_any z2 u a o2 ou (w.drewN n) (hz2.of_heap fun _ _ => rfl) (hu.of_heap fun _ _ => rfl) ha
  obtain ⟨D, cd, rfl, hld, hcd, hrd, hsd⟩ := hv.open
  obtain ⟨Z, lz, cz, rfl, hlz, hcz, hrz⟩ := hz
  have hd0 : ((wlen b : Int) == 0) = false := by simp; omega
  have hd1 : ((wlen b : Int) == 1) = false := by simp; omega
  have hlt2 := Hd.mk fun K (h : o2 = some K) => hz2.lt h
  replace hne := Hd.mk hne
  replace hz2 := Hd.mk hz2
  replace hu := Hd.mk hu
  replace hv := Hd.mk hv
  replace hsd := Hd.mk hsd
  replace hrd := Hd.mk hrd
  replace hrz := Hd.mk hrz
  replace hw0 := Hd.mk hw0
  replace h1 := Hd.mk h1
  go_enter_defers Tryz.func219, Tryz.ntmps219
  go_wp2_with fail
  refine hcmp.out.mono ?_
  rintro e w1 ⟨rfl, n, rfl⟩
  go_wp2_with fail
  refine (hset.out _).mono ?_
  rintro e w2 ⟨vr, rfl, hr2⟩
  obtain ⟨oq, orr, hD⟩ := DivR.mk2 (NatR.zero ((Chg.refl w oz).drewN n) (hrz.out.of_heap fun _ _ => rfl) hcz) hr2 hne.out hlt2.out
  replace hD := Hd.mk hD
  clear hr2
  go_wp2
  refine ⟨_, results_tmp2 rfl _ _ _, .slice Z 0 cz, vr, oq, orr, rfl, hD.out⟩
theorem ndiv_any (z z2 u v : Value) (a b : Nat) (oz o2 ou ov : Option Nat) (w : World) (hz : RecvS w z oz) (hz2 : RecvS w z2 o2) (hu : NatS w u a ou) (hv : NatS w v b ov) (hok : DivOK a b)
    (hne : ∀ K, oz = some K → o2 ≠ some K) (nil : Value) :
    Calls Tryz.prog 219 #[z, nil, z2, u, v] w fun e w' => ∃ vq vr oq orr, e = .returned (.tuple #[vq, vr]) ∧ DivR w w' oz o2 (a / b) (a % b) vq vr oq orr := by
  obtain ⟨h0, ha, h1 | h1⟩ := hok
  · exact ndiv_one z z2 u v a b oz o2 ou ov w hz hz2 hu hv h0 ha h1 hne nil
  · by_cases h2 : wlen b = 1
    · exact ndiv_one z z2 u v a b oz o2 ou ov w hz hz2 hu hv h0 ha h2 hne nil
    · exact ndiv_less z z2 u v a b oz o2 ou ov w hz hz2 hu hv ha h2 h1 hne nil
end Go.Proofs.YtdbjdpooggaonaaGreatDoor
end

section
namespace Go.Proofs.YtdbjdpooggaonaaGreatDoor
open Go.RowKit
set_option maxRecDepth 100000
theorem Put.castb {w w' : World} {B : Nat} {E : TypeId} {b b' : Bool} {v : Value} (h : Put w w' B E [.bool b, v]) (e : b = b') : Put w w' B E [.bool b', v] := e ▸ h
theorem wlen_dec0 {m : Nat} (h : m = 0) : decide (0 < wlen m) = false := by rw [h, wlen_zero]; rfl
theorem wlen_dec1 {m : Nat} (h : ¬ m = 0) : decide (0 < wlen m) = true := by
  have : wlen m ≠ 0 := fun h' => h (wlen_eq_zero.1 h')
  simp; omega
section
variable {w w' : World} {oz o2 oq orr : Option Nat} {q r : Nat} {vq vr : Value}
theorem DivR.natq (h : DivR w w' oz none q r vq vr oq orr) : NatR w w' oz q vq := ⟨oq, h.hq, ⟨h.os, h.tape, h.output, h.size, fun k hk ho => h.block k hk ho (by simp)⟩, h.fq⟩
theorem DivR.natr (h : DivR w w' none o2 q r vq vr oq orr) : NatR w w' o2 r vr := ⟨orr, h.hr, ⟨h.os, h.tape, h.output, h.size, fun k hk ho => h.block k hk (by simp) ho⟩, h.fr⟩
theorem slq {Pr : Program} {f : FuncId} {args : Array Value} {w w1 : World} (hb : Below w.heap.size w w1) (h : Calls Pr f args w1 fun e w' => ∃ vq vr oq orr, e = .returned (.tuple #[vq, vr]) ∧ DivR w1 w' oz o2 q r vq vr oq orr) :
    Calls Pr f args w1 fun e w' => ∃ A c A' c', e = .returned (.tuple #[.slice A (wlen q) c, .slice A' (wlen r) c']) ∧ ∃ oq orr, DivR w w' oz o2 q r (.slice A (wlen q) c) (.slice A' (wlen r) c') oq orr :=
  h.mono fun e w' ⟨vq, vr, oq, orr, he, hr⟩ => by
    obtain ⟨A, c, hv, _⟩ := hr.hq.open
    obtain ⟨A', c', hv', _⟩ := hr.hr.open
    subst hv hv'
    exact ⟨A, c, A', c', he, oq, orr, hr.lead hb⟩
end
theorem nr_chg {w w' : World} {oz : Option Nat} {m : Nat} {v : Value} (h : NatR w w' oz m v) : Chg w w' oz := by obtain ⟨_, _, h, _⟩ := h; exact h
/-- The two stores into an Int. -/
theorem put2 {w wx : World} {B : Nat} {b b' b2 : Bool} {v v' : Value} (h : Blk w B 106 [.bool b, v]) (e : b' = b2) (hw : wx = (w.setCell ⟨B, 1, none⟩ v').setCell ⟨B, 0, none⟩ (.bool b') ∨ wx = ((w.setCell ⟨B, 1, none⟩ v').setCell ⟨B, 0, none⟩ (.bool b')).drew := by first | exact .inl rfl | exact .inr rfl) : Put w wx B 106 [.bool b2, v'] := by
  have hp := (((Put.refl h).set 1 v').set 0 (.bool b')).castb e
  rcases hw with rfl | rfl
  · exact hp
  · exact hp.drew
theorem mul_s0 {x y : Int} (h : x.natAbs * y.natAbs = 0) : decide (x * y < 0) = false := by
  have : x * y = 0 := by rw [← Int.natAbs_mul] at h; omega
  rw [this]; rfl
theorem mul_s1 {x y : Int} {nb nc : Bool} (a1 : decide (x < 0) = nb) (a2 : decide (y < 0) = nc) (h : ¬ x.natAbs * y.natAbs = 0) : (!(nb == nc)) = decide (x * y < 0) := by
  have h0 : ¬ x = 0 ∧ ¬ y = 0 := ⟨fun e => h (by simp [e]), fun e => h (by simp [e])⟩
  subst a1 a2
  by_cases hx : x < 0 <;> by_cases hy : y < 0
  · have := Int.mul_pos_of_neg_of_neg hx hy; simp [hx, hy]; omega
  · have := Int.mul_neg_of_neg_of_pos hx (show 0 < y by omega); simp [hx, hy]; omega
  · have := Int.mul_neg_of_pos_of_neg (show 0 < x by omega) hy; simp [hx, hy]; omega
  · have := Int.mul_pos (show 0 < x by omega) (show 0 < y by omega); simp [hx, hy]; omega
theorem tdiv_s {x y : Int} : (x.natAbs / y.natAbs = 0 → x.tdiv y = 0) ∧ (¬ x.natAbs / y.natAbs = 0 → (!(decide (x < 0) == decide (y < 0))) = decide (x.tdiv y < 0)) := by
  obtain ⟨n, rfl | rfl⟩ := x.eq_nat_or_neg <;> obtain ⟨m, rfl | rfl⟩ := y.eq_nat_or_neg <;> simp only [Int.natAbs_neg, Int.natAbs_natCast, Int.neg_tdiv, Int.tdiv_neg, ← Int.ofNat_tdiv] <;> refine ⟨fun h => by rw [h]; rfl, fun h => ?_⟩
  all_goals
    have hn : 0 < n := Nat.pos_of_ne_zero fun e => h (by simp [e])
    have hm : 0 < m := Nat.pos_of_ne_zero fun e => h (by simp [e])
    have hk : 0 < n / m := Nat.pos_of_ne_zero h
    clear h
    first
      | (have e1 : decide ((n : Int) < 0) = false := by simp
         have e2 : decide ((m : Int) < 0) = false := by simp
         rw [e1, e2]; simp <;> omega)
      | (have e1 : decide ((n : Int) < 0) = false := by simp
         have e2 : decide (-(m : Int) < 0) = true := by simp; omega
         rw [e1, e2]; simp <;> omega)
      | (have e1 : decide (-(n : Int) < 0) = true := by simp; omega
         have e2 : decide ((m : Int) < 0) = false := by simp
         rw [e1, e2]; simp <;> omega)
      | (have e1 : decide (-(n : Int) < 0) = true := by simp; omega
         have e2 : decide (-(m : Int) < 0) = true := by simp; omega
         rw [e1, e2]; simp <;> omega)
theorem tdiv_s0 {x y : Int} (h : x.natAbs / y.natAbs = 0) : decide (x.tdiv y < 0) = false := by rw [tdiv_s.1 h]; rfl
theorem tdiv_s1 {x y : Int} {nb nc : Bool} (a1 : decide (x < 0) = nb) (a2 : decide (y < 0) = nc) (h : ¬ x.natAbs / y.natAbs = 0) : (!(nb == nc)) = decide (x.tdiv y < 0) := by
  subst a1 a2; exact tdiv_s.2 h
theorem tmod_s {x y : Int} : (x.natAbs % y.natAbs = 0 → x.tmod y = 0) ∧ (¬ x.natAbs % y.natAbs = 0 → decide (x < 0) = decide (x.tmod y < 0)) := by
  obtain ⟨n, rfl | rfl⟩ := x.eq_nat_or_neg <;> obtain ⟨m, rfl | rfl⟩ := y.eq_nat_or_neg <;> simp only [Int.natAbs_neg, Int.natAbs_natCast, Int.neg_tmod, Int.tmod_neg, ← Int.ofNat_tmod] <;> refine ⟨fun h => by rw [h]; rfl, fun h => ?_⟩
  all_goals
    have hn : 0 < n := Nat.pos_of_ne_zero fun e => h (by simp [e])
    have hk : 0 < n % m := Nat.pos_of_ne_zero h
    rw [decide_eq_decide]; omega
theorem tmod_s0 {x y : Int} (h : x.natAbs % y.natAbs = 0) : decide (x.tmod y < 0) = false := by rw [tmod_s.1 h]; rfl
theorem tmod_s1 {x y : Int} {nb : Bool} (a1 : decide (x < 0) = nb) (h : ¬ x.natAbs % y.natAbs = 0) : nb = decide (x.tmod y < 0) := by
  subst a1; exact tmod_s.2 h

/-- What a call of words, then the store of its slice, leave. -/
def Aft (w : World) (o : Option Nat) (bz bx by_ m : Nat) (b nb nc : Bool) (wx : World) : Prop :=
  ∃ w2 A2 cap2 v, wx = w2.setCell ⟨bz, 1, none⟩ (.slice A2 (wlen m) cap2) ∧ NatR w w2 o m (.slice A2 (wlen m) cap2) ∧ Blk w2 bz 106 [.bool b, v] ∧ w2.cell? ⟨bx, 0, none⟩ = some (.bool nb) ∧ w2.cell? ⟨by_, 0, none⟩ = some (.bool nc)
set_option maxHeartbeats 4000000 in
theorem Imul_other (P : Nat → Prop) (bz bx by_ : Nat) (z x y : Int) (S : Nat → Option Int) (w : World) (hI : Ints P w S) (hz : S bz = some z) (hx : S bx = some x) (hy : S by_ = some y) (hwx : wlen x.natAbs < 40) (hwy : wlen y.natAbs < 40) (hne : bx ≠ by_) :
    Calls Tryz.prog 212 #[ptr bz, .pointer none, ptr bx, ptr by_] w fun e w' => e = .returned (.tuple #[]) ∧ Keep P w w' ∧ Ints P w' (upd S bz (x * y)) := by
  have hg := hI.gl
  obtain ⟨own, hst⟩ := hI
  obtain ⟨A, cap, hb, hn, g0, g1, h3, h4⟩ := (hst.at_ bz z hz).open
  obtain ⟨C, cx, hbx, hnx, k0, k1, h5, h6⟩ := (hst.at_ bx x hx).open
  obtain ⟨D, cy, hby, hny, j0, j1, h7, h8⟩ := (hst.at_ by_ y hy).open
  have hoz : own bz ≠ some bz := fun e => by have := (hst.no bz z bz hz e).2; rw [hz] at this; cases this
  have hozx : own bz ≠ some bx := fun e => by have := (hst.no bz z bx hz e).2; rw [hx] at this; cases this
  have hozy : own bz ≠ some by_ := fun e => by have := (hst.no bz z by_ hz e).2; rw [hy] at this; cases this
  have hmul := fun w1 (hb1 : Below w.heap.size w w1) => sl hb1 (nmul_any _ _ _ none x.natAbs y.natAbs (own bz) (own bx) (own by_) w1 (hn.recv.below hb1) (hnx.below hb1) (hny.below hb1) hwx hwy (hg.below hb1))
  have hpe := ieq_other (a := ⟨bx, 0, none⟩) (b := ⟨by_, 0, none⟩) (fun e => hne (by cases e; rfl)) w ⟨_, _, hbx⟩ ⟨_, _, hby⟩
  replace hmul := Hd.mk hmul
  replace hg := Hd.mk hg
  have fz := hb.frozen 1
  have fz0 := hb.frozen 0
  replace hst := Hd.mk hst
  replace hn := Hd.mk hn
  replace hnx := Hd.mk hnx
  replace hny := Hd.mk hny
  replace hb := Hd.mk hb
  replace hbx := Hd.mk hbx
  replace hby := Hd.mk hby
  replace hz := Hd.mk hz
  replace hx := Hd.mk hx
  replace hy := Hd.mk hy
  replace h3 := Hd.mk h3
  replace h5 := Hd.mk h5
  replace h7 := Hd.mk h7
  generalize hnb : decide (x < 0) = nb at *
  generalize hnc : decide (y < 0) = nc at *
  replace hnb := Hd.mk hnb
  replace hnc := Hd.mk hnc
  go_enter Tryz.func212, Tryz.ntmps212
  go_wp2
  go_upto_region 3 with fail
  go_cut [] (fun wx => Aft w (own bz) bz bx by_ (x.natAbs * y.natAbs) (decide (z < 0)) nb nc wx)
  case first =>
    go_region_law (first | (go_simp; go_at_call 240; refine (hmul.out _ (below_drew _)).mono ?_; rintro e w2 ⟨A2, cap2, rfl, hr⟩; have hc2 := nr_chg hr; obtain ⟨hb2, l0, l1, lz0, lz⟩ := blk_facts hc2 hb.out hoz; obtain ⟨hbx2, m0, m1, mz0, mz⟩ := blk_facts hc2 hbx.out hozx; obtain ⟨hby2, n0, n1, nz0, nz⟩ := blk_facts hc2 hby.out hozy; replace hr := Hd.mk hr; replace hc2 := Hd.mk hc2; replace hb2 := Hd.mk hb2; replace hbx2 := Hd.mk hbx2; replace hby2 := Hd.mk hby2))
    all_goals (go_wp2_with fail; go_meet; exact ⟨_, _, _, _, rfl, hr.out, hb2.out, m0, n0⟩)
  case rest =>
  obtain ⟨w2, A2, cap2, v, rfl, hr, hb2, m0, n0⟩ := hcut
  have lz0 := hb2.frozen 0
  have l0 := hb2.cell 0
  have l1 := hb2.cell 1
  replace hb2 := Hd.mk hb2
  replace hr := Hd.mk hr
  by_cases hm0 : x.natAbs * y.natAbs = 0
  · have hd := wlen_dec0 hm0
    replace hm0 := Hd.mk hm0
    go_wp2
    go_region
    all_goals
      go_wp2
      go_end0
      exact ⟨rfl, hst.out.write hz.out hr.out (put2 hb2.out (mul_s0 hm0.out).symm) (Int.natAbs_mul _ _).symm⟩
  · have hd := wlen_dec1 hm0
    replace hm0 := Hd.mk hm0
    go_wp2
    go_region
    all_goals
      go_wp2
      go_end0
      exact ⟨rfl, hst.out.write hz.out hr.out (put2 hb2.out (mul_s1 hnb.out hnc.out hm0.out)) (Int.natAbs_mul _ _).symm⟩
set_option maxHeartbeats 4000000 in
theorem Imul_same (P : Nat → Prop) (bz bx : Nat) (z x : Int) (S : Nat → Option Int) (w : World) (hI : Ints P w S) (hz : S bz = some z) (hx : S bx = some x) (hwx : wlen x.natAbs < 12) :
    Calls Tryz.prog 212 #[ptr bz, .pointer none, ptr bx, ptr bx] w fun e w' => e = .returned (.tuple #[]) ∧ Keep P w w' ∧ Ints P w' (upd S bz (x * x)) := by
  have hg := hI.gl
  obtain ⟨own, hst⟩ := hI
  obtain ⟨A, cap, hb, hn, g0, g1, h3, h4⟩ := (hst.at_ bz z hz).open
  obtain ⟨C, cx, hbx, hnx, k0, k1, h5, h6⟩ := (hst.at_ bx x hx).open
  have hoz : own bz ≠ some bz := fun e => by have := (hst.no bz z bz hz e).2; rw [hz] at this; cases this
  have hsq := fun w1 (hb1 : Below w.heap.size w w1) => sl hb1 (sqr_any _ _ none x.natAbs (own bz) (own bx) w1 (hn.recv.below hb1) (hnx.below hb1) hwx (hg.below hb1))
  have hpe := ieq_same ⟨bx, 0, none⟩
  have hs : decide (x * x < 0) = false := by
    have : 0 ≤ x * x := by
      rcases Int.le_total 0 x with h | h
      · exact Int.mul_nonneg h h
      · exact Int.mul_nonneg_of_nonpos_of_nonpos h h
    simp; omega
  replace hsq := Hd.mk hsq
  replace hg := Hd.mk hg
  have fz := hb.frozen 1
  have fz0 := hb.frozen 0
  replace hst := Hd.mk hst
  replace hn := Hd.mk hn
  replace hnx := Hd.mk hnx
  replace hb := Hd.mk hb
  replace hbx := Hd.mk hbx
  replace hz := Hd.mk hz
  replace hx := Hd.mk hx
  replace h3 := Hd.mk h3
  replace h5 := Hd.mk h5
  replace hs := Hd.mk hs
  go_enter Tryz.func212, Tryz.ntmps212
  go_wp2
  go_region_law (first | (go_simp; go_at_call 239; refine (hsq.out _ (below_drew _)).mono ?_; rintro e w2 ⟨A2, cap2, rfl, hr⟩; have hc2 := nr_chg hr; obtain ⟨hb2, l0, l1, lz0, lz⟩ := blk_facts hc2 hb.out hoz; replace hr := Hd.mk hr; replace hc2 := Hd.mk hc2; replace hb2 := Hd.mk hb2))
  all_goals
    go_wp2
    refine bodyPost_ret (results_none rfl _ _ _) rfl ?_
    exact ⟨rfl, hst.out.write hz.out hr.out (put2 hb2.out hs.out.symm) (Int.natAbs_mul _ _).symm⟩
theorem IMul_any (P : Nat → Prop) (bz bx by_ : Nat) (z x y : Int) (S : Nat → Option Int) (w : World) (hI : Ints P w S) (hz : S bz = some z) (hx : S bx = some x) (hy : S by_ = some y) (hwx : wlen x.natAbs < 40) (hwy : wlen y.natAbs < 40) (hwb : bx = by_ → wlen x.natAbs < 12) :
    Calls Tryz.prog 160 #[ptr bz, ptr bx, ptr by_] w fun e w' => e = .returned (ptr bz) ∧ Keep P w w' ∧ Ints P w' (upd S bz (x * y)) := by
  have h : Calls Tryz.prog 212 #[ptr bz, .pointer none, ptr bx, ptr by_] w fun e w' => e = .returned (.tuple #[]) ∧ Keep P w w' ∧ Ints P w' (upd S bz (x * y)) := by
    by_cases hne : bx = by_
    · subst hne
      obtain rfl : x = y := by rw [hx] at hy; exact Option.some.inj hy
      exact Imul_same P bz bx z x S w hI hz hx (hwb rfl)
    · exact Imul_other P bz bx by_ z x y S w hI hz hx hy hwx hwy hne
  replace h := Hd.mk h
  replace hI := Hd.mk hI
  replace hz := Hd.mk hz
  replace hx := Hd.mk hx
  replace hy := Hd.mk hy
  clear hwb
  go_enter Tryz.func160, Tryz.ntmps160
  go_wp2_with (go_at_call 212; refine h.out.mono ?_; rintro e w' ⟨rfl, hk, hI2⟩; replace hk := Hd.mk hk; replace hI2 := Hd.mk hI2)
  go_ret
  exact ⟨rfl, hk.out, hI2.out⟩
end Go.Proofs.YtdbjdpooggaonaaGreatDoor
end
