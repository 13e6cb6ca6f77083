/- Ints: new ones, signs, comparing. Powers of Ints; the package's numbers. The course of a function over Ints: what it keeps, its boxes, its Ints. The package's decimals: numbers, ranges. Decimals: copies, ranges, comparing. Decimals: comparing, the range. Conditions: those that each theorem states. -/
import Derived.Test.YtdbjdpooggaonaaGreatDoorBase08
import Derived.Test.YtdbjdpooggaonaaGreatDoorBase09
import Derived.Test.YtdbjdpooggaonaaGreatDoorBase10
import Derived.Deep.RegionHeld3
set_option linter.all false

section
namespace Go.Proofs.YtdbjdpooggaonaaGreatDoor
open Go.RowKit
set_option maxRecDepth 100000
section
variable {P : Nat → Prop} {w w' : World} {S : Nat → Option Int} {own : Nat → Option Nat} {B : Nat} {z z' : Int} {v : Value}
theorem St.sign (h : St P w S own) (hB : S B = some z) (hn : NatS w v z.natAbs (own B)) (hp : Put w w' B 106 [.bool (decide (z' < 0)), v]) (hm : z'.natAbs = z.natAbs) : Keep P w w' ∧ Ints P w' (upd S B z') :=
  h.write hB ⟨own B, hn, Chg.refl _ _, .inl rfl⟩ hp hm.symm
theorem upd_upd {a b : Int} : upd (upd S B a) B b = upd S B b := by funext k; unfold upd; split <;> rfl
theorem upd_self {a : Int} (h : S B = some a) : upd S B a = S := by
  funext k
  unfold upd
  split
  · subst k; exact h.symm
  · rfl
end
set_option maxHeartbeats 1000000 in
theorem INeg_any (P : Nat → Prop) (bz bx : Nat) (z x : Int) (S : Nat → Option Int) (w : World) (hI : Ints P w S) (hz : S bz = some z) (hx : S bx = some x) (hwl : wlen x.natAbs < 800) :
    Calls Tryz.prog 217 #[ptr bz, ptr bx] w fun e w' => e = .returned (ptr bz) ∧ Keep P w w' ∧ Ints P w' (upd S bz (-x)) := by
  have hs := Hd.mk (ISet_any P bz bx z x S w hI hz hx hwl)
  replace hI := Hd.mk hI
  replace hz := Hd.mk hz
  replace hx := Hd.mk hx
  go_enter Tryz.func217, Tryz.ntmps217
  go_wp2_with fail
  refine hs.out.mono ?_
  rintro e w1 ⟨rfl, hk, own, hst⟩
  obtain ⟨A, cap, hb, hn, g0, g1, h3, h4⟩ := (hst.at_ bz x upd_same).open
  have fz0 := hb.frozen 0
  replace hk := Hd.mk hk
  replace hst := Hd.mk hst
  replace hn := Hd.mk hn
  replace hb := Hd.mk hb
  replace h3 := Hd.mk h3
  by_cases h0 : x = 0
  · have hd : decide (0 < wlen x.natAbs) = false := by rw [h0, show Int.natAbs 0 = 0 from rfl, wlen_zero]; rfl
    have hs2 : decide (-x < 0) = false := by rw [h0]; rfl
    replace h0 := Hd.mk h0
    replace hs2 := Hd.mk hs2
    go_wp2
    go_ret
    obtain ⟨q1, q2⟩ := hst.out.sign (z' := -x) upd_same hn.out (by rw [hs2.out]; exact (Put.refl hb.out).set 0 (.bool false)) (Int.natAbs_neg x)
    rw [upd_upd] at q2
    exact ⟨rfl, hk.out.trans q1, q2⟩
  · have hd : decide (0 < wlen x.natAbs) = true := by
      have : wlen x.natAbs ≠ 0 := fun h => h0 (by have := wlen_eq_zero.1 h; omega)
      simp; omega
    have hs2 : decide (-x < 0) = !decide (x < 0) := by
      by_cases h1 : x < 0
      · rw [decide_eq_true h1, decide_eq_false (by omega)]; rfl
      · rw [decide_eq_false h1, decide_eq_true (by omega)]; rfl
    generalize decide (x < 0) = nb at *
    replace hs2 := Hd.mk hs2
    replace h0 := Hd.mk h0
    go_wp2
    go_ret
    obtain ⟨q1, q2⟩ := hst.out.sign (z' := -x) upd_same hn.out (by rw [hs2.out]; exact (Put.refl hb.out).set 0 (.bool (!nb))) (Int.natAbs_neg x)
    rw [upd_upd] at q2
    exact ⟨rfl, hk.out.trans q1, q2⟩
/-- -1, 0 or 1. -/
def cmpI (x y : Int) : Int := if x < y then -1 else if x = y then 0 else 1
theorem cmpI_eq (x : Int) : cmpI x x = 0 := by unfold cmpI; simp
theorem cmpI_lt {x y : Int} (h : x < y) : cmpI x y = -1 := by unfold cmpI; rw [if_pos h]
theorem cmpI_gt {x y : Int} (h : y < x) : cmpI x y = 1 := by unfold cmpI; rw [if_neg (by omega), if_neg (by omega)]
set_option maxHeartbeats 2000000 in
theorem ICmp_any (P : Nat → Prop) (bx by_ : Nat) (x y : Int) (S : Nat → Option Int) (w : World) (hI : Ints P w S) (hx : S bx = some x) (hy : S by_ = some y) (hwl : wlen x.natAbs < 800) :
    Calls Tryz.prog 133 #[ptr bx, ptr by_] w fun e w' => e = .returned (.int .i64 (cmpI x y)) ∧ ∃ q, w' = w.drewN q := by
  by_cases hbb : bx = by_
  · subst hbb
    obtain rfl : x = y := by rw [hx] at hy; exact Option.some.inj hy
    have hpe := ieq_same ⟨bx, 0, none⟩
    rw [cmpI_eq]
    replace hI := Hd.mk hI
    go_enter Tryz.func133, Tryz.ntmps133
    go_wp2
    go_ret
    exact ⟨rfl, 0, rfl⟩
  · obtain ⟨own, hst⟩ := hI
    obtain ⟨C, cx, hbx, hnx, k0, k1, h5, h6⟩ := (hst.at_ bx x hx).open
    obtain ⟨D, cy, hby, hny, j0, j1, h7, h8⟩ := (hst.at_ by_ y hy).open
    have hpe := ieq_other (a := ⟨bx, 0, none⟩) (b := ⟨by_, 0, none⟩) (fun e => hbb (by cases e; rfl)) w ⟨_, _, hbx⟩ ⟨_, _, hby⟩
    have hcmp := fun w1 (hb1 : Below w.heap.size w w1) => ncmp_any _ _ x.natAbs y.natAbs (own bx) (own by_) w1 (hnx.below hb1) (hny.below hb1) hwl
    replace hcmp := Hd.mk hcmp
    replace hst := Hd.mk hst
    replace hnx := Hd.mk hnx
    replace hny := Hd.mk hny
    replace hbx := Hd.mk hbx
    replace hby := Hd.mk hby
    replace hx := Hd.mk hx
    replace hy := Hd.mk hy
    replace h5 := Hd.mk h5
    replace h7 := Hd.mk h7
    by_cases h1 : x < 0
    · rw [decide_eq_true h1] at k0
      by_cases h2 : y < 0
      · rw [decide_eq_true h2] at j0
        have hres : cmpI x y = -cmpN x.natAbs y.natAbs := by unfold cmpI cmpN; split <;> (split <;> (try split) <;> omega)
        rw [hres]
        have hwr : IntKind.i64.wrap (-cmpN x.natAbs y.natAbs) = -cmpN x.natAbs y.natAbs := IntWalk.i64_in _ (by unfold cmpN; split <;> (try split) <;> omega)
        generalize cmpN x.natAbs y.natAbs = c at *
        replace hres := Hd.mk hres
        go_enter Tryz.func133, Tryz.ntmps133
        go_wp2
        go_quiet (fail)
        go_wp2
        go_quiet ((go_at_call 197; exact q_drew2 (hcmp.out _ (below_drewN _ _))))
        go_wp2
        go_ret
        exact ⟨rfl, _, rfl⟩
      · rw [decide_eq_false h2] at j0
        rw [cmpI_lt (by omega)]
        go_enter Tryz.func133, Tryz.ntmps133
        go_wp2
        go_quiet (fail)
        go_wp2
        go_ret
        exact ⟨rfl, _, rfl⟩
    · rw [decide_eq_false h1] at k0
      by_cases h2 : y < 0
      · rw [decide_eq_true h2] at j0
        rw [cmpI_gt (by omega)]
        go_enter Tryz.func133, Tryz.ntmps133
        go_wp2
        go_quiet (fail)
        go_wp2
        go_ret
        exact ⟨rfl, _, rfl⟩
      · rw [decide_eq_false h2] at j0
        have hres : cmpI x y = cmpN x.natAbs y.natAbs := by unfold cmpI cmpN; split <;> (split <;> (try split) <;> omega)
        rw [hres]
        generalize cmpN x.natAbs y.natAbs = c at *
        replace hres := Hd.mk hres
        go_enter Tryz.func133, Tryz.ntmps133
        go_wp2
        go_quiet (fail)
        go_wp2
        go_quiet ((go_at_call 197; exact q_drew2 (hcmp.out _ (below_drewN _ _))))
        go_wp2
        go_ret
        exact ⟨rfl, _, rfl⟩
/-- A whole row for a new word. -/
theorem new_word {w : World} {u : Nat} (hu : u < BB) (hu0 : u ≠ 0) : NatS (w.alloc (.cells #[.int .u64 u] 146)) (.slice (some ⟨w.heap.size, 0, none⟩) (wlen u) 1) u (some w.heap.size) := by
  have hb := Blk.new w #[.int .u64 u] 146
  refine NatS.mk' (xs := [.int .u64 u]) hb rfl (by rw [wlen_one hu hu0]; simp) (by simp) (by simp) ?_
  intro i hi
  rw [wlen_one hu hu0] at hi
  obtain rfl : i = 0 := by omega
  rw [Nat.add_zero, hb.cell, dig_word hu]; rfl
/-- A new Int, and nothing else that can be seen. -/
structure NewI (w w' : World) (B : Nat) (z : Int) : Prop where
  ge : w.heap.size ≤ B
  bel : Below w.heap.size w w'
  at_ : ∃ o, IntAt w' B z o ∧ ∀ K, o = some K → w.heap.size ≤ K ∧ K ≠ B
theorem NewI.add {P : Nat → Prop} {w w' : World} {S : Nat → Option Int} {B : Nat} {z : Int} (h : NewI w w' B z) (hI : Ints P w S) : Ints P w' (upd S B z) := by
  obtain ⟨own, hst⟩ := hI
  obtain ⟨o, h1, h2⟩ := h.at_
  exact (hst.fresh h.bel h.ge h1 h2).2
theorem NewI.keep {P : Nat → Prop} {w w' : World} {B : Nat} {z : Int} (h : NewI w w' B z) : Keep P w w' := .of_below h.bel
theorem NewI.drewN {w w' : World} {B : Nat} {z : Int} {n : Nat} (h : NewI (w.drewN n) w' B z) : NewI w w' B z := ⟨h.ge, below_undrewN h.bel, h.at_⟩
theorem NewI.of_new (w : World) : NewI w (w.alloc (.cells #[.bool false, .slice none 0 0] 106)) w.heap.size 0 :=
  ⟨Nat.le_refl _, (Below.refl _ _).alloc (Nat.le_refl _) _, none, ⟨_, Blk.new w #[.bool false, .slice none 0 0] 106, NatS.nil _⟩, fun K h => by cases h⟩
/-- Ready for the package: its variables stand, and their blocks lie low. -/
def Ok (w : World) : Prop := Gl w ∧ 16 ≤ w.heap.size
theorem Ints.ok {P : Nat → Prop} {w : World} {S : Nat → Option Int} (h : Ints P w S) : Ok w := ⟨h.gl, by have := h.pl (16 - 1) (h.pg (16 - 1) (by omega)); omega⟩
theorem Ok.below {w w' : World} (h : Ok w) (hb : Below w.heap.size w w') : Ok w' := ⟨h.1.below hb, Nat.le_trans h.2 hb.size⟩
theorem Ok.drewN {w : World} (h : Ok w) (n : Nat) : Ok (w.drewN n) := ⟨h.1.drewN n, h.2⟩
/-- The state without an Int. -/
theorem Ok.none {w : World} (h : Ok w) : Ints (· < w.heap.size) w (fun _ => Option.none) :=
  ⟨fun _ => Option.none, ⟨h.1, fun k hk => Nat.lt_of_lt_of_le hk h.2, fun _ hk => hk, fun _ _ h => by (cases h), fun _ _ h => by (cases h), fun _ _ _ h => by (cases h), fun _ _ _ _ _ h => by (cases h)⟩⟩
theorem Keep.bel {w w' : World} (h : Keep (· < w.heap.size) w w') : Below w.heap.size w w' := h.below fun _ hk => hk
/-- Out of a state that began without an Int. -/
theorem Ints.newI {w w' : World} {S : Nat → Option Int} {B : Nat} {z : Int} (h : Ints (· < w.heap.size) w' S) (hk : Keep (· < w.heap.size) w w') (hB : S B = some z) : NewI w w' B z := by
  obtain ⟨own, hst⟩ := h
  refine ⟨Nat.not_lt.1 (hst.np B z hB), hk.bel, own B, hst.at_ B z hB, fun K hK => ?_⟩
  obtain ⟨h1, h2⟩ := hst.no B z K hB hK
  exact ⟨Nat.not_lt.1 h1, fun e => by rw [e, hB] at h2; cases h2⟩
set_option maxHeartbeats 1000000 in
theorem NewInt_any (n : Int) (w : World) (h1 : -9223372036854775808 ≤ n) (h2 : n ≤ 9223372036854775807) :
    Calls Tryz.prog 159 #[.int .i64 n] w fun e w' => ∃ B, e = .returned (ptr B) ∧ NewI w w' B n := by
  by_cases h0 : n = 0
  · subst h0
    go_enter Tryz.func159, Tryz.ntmps159
    go_wp2
    go_ret
    exact ⟨_, rfl, NewI.of_new w⟩
  · have hd0 : (n == 0) = false := by simpa using h0
    have hB : ∀ w' : World, w'.heap.size = w.heap.size + 1 → Below w.heap.size w (w.alloc (.cells #[.int .u64 (n.natAbs : Nat)] 146)) := fun _ _ => (Below.refl _ _).alloc (Nat.le_refl _) _
    have hnw := Hd.mk (new_word (w := w) (u := n.natAbs) (by unfold BB; omega) (by omega))
    have hsz : (w.alloc (.cells #[.int .u64 (n.natAbs : Nat)] 146)).heap.size = w.heap.size + 1 := Array.size_push _
    have hwl : wlen n.natAbs = 1 := wlen_one (by unfold BB; omega) (by omega)
    rw [hwl] at hnw
    have hfin : ∀ b, b = decide (n < 0) → NewI w ((w.alloc (.cells #[.int .u64 (n.natAbs : Nat)] 146)).alloc (.cells #[.bool b, .slice (some ⟨w.heap.size, 0, none⟩) 1 1] 106)) (w.heap.size + 1) n := fun b hb => by
      subst hb
      have hb := Blk.new (w.alloc (.cells #[.int .u64 (n.natAbs : Nat)] 146)) #[.bool (decide (n < 0)), .slice (some ⟨w.heap.size, 0, none⟩) 1 1] 106
      rw [hsz] at hb
      refine ⟨by omega, ((Below.refl _ _).alloc (Nat.le_refl _) _).alloc (by rw [hsz]; omega) _, some w.heap.size, ⟨_, hb, ?_⟩, fun K h => by cases h; omega⟩
      exact hnw.out.below ((Below.refl _ _).alloc (Nat.le_refl _) _)
    replace hfin := Hd.mk hfin
    replace hsz := Hd.mk hsz
    replace hwl := Hd.mk hwl
    replace hnw := Hd.mk hnw
    clear hB
    by_cases hneg : n < 0
    · have e0 : decide (n < 0) = true := decide_eq_true hneg
      have e1 : IntKind.u64.wrap (-IntKind.u64.wrap n) = ((n.natAbs : Nat) : Int) := by
        rw [show IntKind.u64.wrap n = n + 18446744073709551616 from by
          have : IntKind.u64.wrap n = n % 18446744073709551616 := rfl
          rw [this]; omega]
        have : IntKind.u64.wrap (-(n + 18446744073709551616)) = (-(n + 18446744073709551616)) % 18446744073709551616 := rfl
        rw [this]; omega
      replace h0 := Hd.mk h0
      go_enter Tryz.func159, Tryz.ntmps159
      go_wp2
      go_ret
      exact ⟨_, rfl, hfin.out true (by rw [e0])⟩
    · have e0 : decide (n < 0) = false := decide_eq_false hneg
      have e1 : n = ((n.natAbs : Nat) : Int) := by omega
      have hf := hfin.out false (by rw [e0])
      rw [← e1] at hf
      replace hf := Hd.mk hf
      replace e1 := Hd.mk e1
      replace h0 := Hd.mk h0
      go_enter Tryz.func159, Tryz.ntmps159
      go_wp2
      go_ret
      exact ⟨_, rfl, hf.out⟩
end Go.Proofs.YtdbjdpooggaonaaGreatDoor
end

section
namespace Go.Proofs.YtdbjdpooggaonaaGreatDoor
open Go.RowKit
set_option maxRecDepth 100000
theorem expNN_any (x y : Value) (a n : Nat) (ox oy : Option Nat) (w : World) (hx : NatS w x a ox) (hy : NatS w y n oy) (ha : 1 < a) (haB : a < BB) (hnB : n < BB) (hr : wlen (a ^ n) < 12) (hg : Gl w) :
    Calls Tryz.prog 264 #[.slice none 0 0, .pointer none, x, y, .slice none 0 0, .bool false] w fun e w' => ∃ v, e = .returned v ∧ NatR w w' none (a ^ n) v := by
  by_cases h : n ≤ 1
  · exact expNN_small x y a n ox oy w hx hy ha haB h
  · exact expNN_big x y a n ox oy w hx hy ha haB (by omega) hnB hr hg
theorem own_nil {w : World} {m : Nat} {o : Option Nat} {l c : Nat} (h : NatS w (.slice none l c) m o) : o = none := by
  obtain ⟨A, cap, e, h1, h2, h3, h4⟩ := h
  cases e
  rcases h3 with ⟨_, _, h3⟩ | ⟨K, xs, h3, _⟩
  · exact h3
  · cases h3
theorem IntAt.nil {w : World} {B : Nat} {z : Int} {o : Option Nat} (h : IntAt w B z o) (hc : w.cell? ⟨B, 1, none⟩ = some (.slice none 0 0)) : o = none ∧ Blk w B 106 [.bool (decide (z < 0)), .slice none 0 0] := by
  obtain ⟨v, h1, h2⟩ := h
  have := h1.cell 1
  rw [hc] at this
  obtain rfl : Value.slice none 0 0 = v := by simpa using this
  exact ⟨own_nil h2, h1⟩
set_option maxHeartbeats 2000000 in
theorem IExp_any (P : Nat → Prop) (bz bx by_ : Nat) (z : Int) (a n : Nat) (S : Nat → Option Int) (w : World) (hI : Ints P w S) (hz : S bz = some z) (hx : S bx = some (a : Int)) (hy : S by_ = some (n : Int)) (hz1 : w.cell? ⟨bz, 1, none⟩ = some (.slice none 0 0))
    (ha : 1 < a) (haB : a < BB) (hnB : n < BB) (hr : wlen (a ^ n) < 12) :
    Calls Tryz.prog 200 #[ptr bz, ptr bx, ptr by_, .pointer none] w fun e w' => e = .returned (ptr bz) ∧ Keep P w w' ∧ Ints P w' (upd S bz ((a ^ n : Nat) : Int)) := by
  have hg := hI.gl
  obtain ⟨own, hst⟩ := hI
  obtain ⟨hon, hb⟩ := (hst.at_ bz z hz).nil hz1
  obtain ⟨C, cx, hbx, hnx, k0, k1, h5, h6⟩ := (hst.at_ bx _ hx).open
  obtain ⟨D, cy, hby, hny, j0, j1, h7, h8⟩ := (hst.at_ by_ _ hy).open
  rw [Int.natAbs_natCast] at *
  rw [show decide ((a : Int) < 0) = false by simp] at *
  rw [show decide ((n : Int) < 0) = false by simp] at *
  have hex := fun w1 (hb1 : Below w.heap.size w w1) => sl hb1 (expNN_any _ _ a n (own bx) (own by_) w1 (hnx.below hb1) (hny.below hb1) ha haB hnB hr (hg.below hb1))
  have hd := wlen_dec1 (m := a ^ n) (Nat.pos_iff_ne_zero.1 (Nat.pow_pos (by omega)))
  have fz := hb.frozen 1
  have fz0 := hb.frozen 0
  have g0 := hb.cell 0
  have hw0 : decide (((a ^ n : Nat) : Int) < 0) = false := decide_eq_false (Int.not_lt.2 (Int.natCast_nonneg _))
  have hna : (((a ^ n : Nat) : Int)).natAbs = a ^ n := Int.natAbs_natCast _
  generalize a ^ n = e at *
  replace hex := Hd.mk hex
  replace hst := Hd.mk hst
  replace hnx := Hd.mk hnx
  replace hny := Hd.mk hny
  replace hb := Hd.mk hb
  replace hbx := Hd.mk hbx
  replace hby := Hd.mk hby
  replace hz := Hd.mk hz
  replace hx := Hd.mk hx
  replace hy := Hd.mk hy
  replace h5 := Hd.mk h5
  replace h7 := Hd.mk h7
  replace hw0 := Hd.mk hw0
  replace hna := Hd.mk hna
  replace hon := Hd.mk hon
  replace hg := Hd.mk hg
  go_enter Tryz.func200, Tryz.ntmps200
  go_wp2_with (first | (go_at_call 231; go_in) | (go_at_call 264; refine (hex.out _ (Below.refl _ _)).mono ?_; rintro e1 w2 ⟨A2, cap2, rfl, hr⟩; have hc2 := nr_chg hr; obtain ⟨hb2, l0, l1, lz0, lz⟩ := blk_facts hc2 hb.out (by simp); obtain ⟨hbx2, m0, m1, mz0, mz⟩ := blk_facts hc2 hbx.out (by simp); replace hr := Hd.mk hr; replace hc2 := Hd.mk hc2; replace hb2 := Hd.mk hb2; replace hbx2 := Hd.mk hbx2))
  go_wp2
  go_ret
  exact ⟨rfl, hst.out.write hz.out (by rw [hon.out]; exact hr.out) (put2 hb2.out hw0.out.symm) hna.out.symm⟩
/-- The cell of a new Int behind new blocks. -/
theorem nil_cell {w w' : World} (h : Below (w.alloc (.cells #[.bool false, .slice none 0 0] 106)).heap.size (w.alloc (.cells #[.bool false, .slice none 0 0] 106)) w') : w'.cell? ⟨w.heap.size, 1, none⟩ = some (.slice none 0 0) := by
  have h1 := (Blk.new w #[.bool false, .slice none 0 0] 106)
  have h2 : Blk w' w.heap.size 106 [.bool false, .slice none 0 0] := h1.of_heap (h.block _ (by rw [World.size_alloc]; omega))
  exact h2.cell 1
theorem wl {m n k : Nat} (h : m < BB ^ n) (hk : n < k) : wlen m < k := Nat.lt_of_le_of_lt (wlen_le h) hk
theorem pow10_wl {n : Nat} (h : n ≤ 38) : wlen (10 ^ n) < 12 := wl (n := 2) (Nat.lt_of_le_of_lt (Nat.pow_le_pow_right (by decide) h) (by decide)) (by decide)
theorem tenInt_any (w : World) : Calls Tryz.prog 241 #[] w fun e w' => ∃ B, e = .returned (ptr B) ∧ NewI w w' B 10 := by
  go_enter Tryz.func241, Tryz.ntmps241
  go_wp2_with fail
  refine (NewInt_any 10 _ (by decide) (by decide)).mono ?_
  rintro e w1 ⟨B1, rfl, hn1⟩
  replace hn1 := Hd.mk hn1
  go_wp2
  go_ret
  exact ⟨_, rfl, hn1.out⟩
theorem oneInt_any (w : World) : Calls Tryz.prog 191 #[] w fun e w' => ∃ B, e = .returned (ptr B) ∧ NewI w w' B 1 := by
  go_enter Tryz.func191, Tryz.ntmps191
  go_wp2_with fail
  refine (NewInt_any 1 _ (by decide) (by decide)).mono ?_
  rintro e w1 ⟨B1, rfl, hn1⟩
  replace hn1 := Hd.mk hn1
  go_wp2
  go_ret
  exact ⟨_, rfl, hn1.out⟩
set_option maxHeartbeats 1000000 in
theorem precisionReuse_any (w : World) (hok : Ok w) : Calls Tryz.prog 138 #[] w fun e w' => ∃ B, e = .returned (ptr B) ∧ NewI w w' B 1000000000000000000 := by
  have hI := hok.none
  have hn := NewI.of_new w
  have hI1 := hn.add hI
  replace hI1 := Hd.mk hI1
  replace hn := Hd.mk hn
  replace hI := Hd.mk hI
  go_enter Tryz.func138, Tryz.ntmps138
  go_wp2_with fail
  refine (NewInt_any 10 _ (by decide) (by decide)).mono ?_
  rintro e w1 ⟨B1, rfl, hn1⟩
  have hI2 := Hd.mk (hn1.add hI1.out)
  have hl1 := hI2.out.lt upd_same
  have hg1 := hn1.ge
  rw [World.size_alloc] at hg1
  replace hn1 := Hd.mk hn1
  go_wp2_with fail
  refine (NewInt_any 18 _ (by decide) (by decide)).mono ?_
  rintro e w2 ⟨B2, rfl, hn2⟩
  have hI3 := Hd.mk (hn2.add hI2.out)
  have hg2 := hn2.ge
  have hc := nil_cell (hn1.out.bel.trans (hn2.bel.mono hn1.out.bel.size))
  have hex := Hd.mk (IExp_any _ w.heap.size B1 B2 0 10 18 _ w2 hI3.out (by rw [upd_ne (by omega), upd_ne (by omega), upd_same]) (by rw [upd_ne (by omega), upd_same]; rfl) upd_same hc (by decide) (by decide) (by decide) (pow10_wl (by decide)))
  have hk2 := Hd.mk ((hn.out.keep (P := (· < w.heap.size))).trans (hn1.out.keep.trans hn2.keep))
  replace hn2 := Hd.mk hn2
  clear hc
  go_wp2_with fail
  refine hex.out.mono ?_
  rintro e w3 ⟨rfl, hk3, hI4⟩
  have hfin := hI4.newI (hk2.out.trans hk3) upd_same
  replace hI4 := Hd.mk hI4
  replace hk3 := Hd.mk hk3
  replace hfin := Hd.mk hfin
  go_wp2
  go_ret
  exact ⟨_, rfl, (show ((10 ^ 18 : Nat) : Int) = 1000000000000000000 from rfl) ▸ hfin.out⟩
set_option maxHeartbeats 1000000 in
theorem calcPM_any (p : Nat) (hp : p ≤ 18) (w : World) (hok : Ok w) : Calls Tryz.prog 213 #[.int .i64 (p : Int)] w fun e w' => ∃ B, e = .returned (ptr B) ∧ NewI w w' B ((10 ^ (18 - p) : Nat) : Int) := by
  have hw1 : IntKind.i64.wrap (18 - (p : Int)) = ((18 - p : Nat) : Int) := by rw [IntWalk.i64_in _ (by omega)]; omega
  have hp1 : (p : Int) ≤ 18 := by omega
  have hp0 : 0 ≤ (p : Int) := by omega
  have hI := hok.none
  have hn := NewI.of_new w
  have hI1 := hn.add hI
  replace hI1 := Hd.mk hI1
  replace hn := Hd.mk hn
  replace hI := Hd.mk hI
  go_enter Tryz.func213, Tryz.ntmps213
  go_wp2_with fail
  refine (tenInt_any _).mono ?_
  rintro e w1 ⟨B1, rfl, hn1⟩
  have hI2 := Hd.mk (hn1.add hI1.out)
  have hl1 := hI2.out.lt upd_same
  have hg1 := hn1.ge
  rw [World.size_alloc] at hg1
  replace hn1 := Hd.mk hn1
  go_wp2_with fail
  refine (NewInt_any ((18 - p : Nat) : Int) _ (by omega) (by omega)).mono ?_
  rintro e w2 ⟨B2, rfl, hn2⟩
  have hI3 := Hd.mk (hn2.add hI2.out)
  have hg2 := hn2.ge
  have hc := nil_cell (hn1.out.bel.trans (hn2.bel.mono hn1.out.bel.size))
  have hex := Hd.mk (IExp_any _ w.heap.size B1 B2 0 10 (18 - p) _ w2 hI3.out (by rw [upd_ne (by omega), upd_ne (by omega), upd_same]) (by rw [upd_ne (by omega), upd_same]; rfl) upd_same hc (by decide) (by decide) (by unfold BB; omega) (pow10_wl (by omega)))
  have hk2 := Hd.mk ((hn.out.keep (P := (· < w.heap.size))).trans (hn1.out.keep.trans hn2.keep))
  replace hn2 := Hd.mk hn2
  clear hc
  go_wp2_with fail
  refine hex.out.mono ?_
  rintro e w3 ⟨rfl, hk3, hI4⟩
  have hfin := hI4.newI (hk2.out.trans hk3) upd_same
  replace hI4 := Hd.mk hI4
  replace hk3 := Hd.mk hk3
  replace hfin := Hd.mk hfin
  go_wp2
  go_ret
  exact ⟨_, rfl, hfin.out⟩
end Go.Proofs.YtdbjdpooggaonaaGreatDoor
end

section
namespace Go.Proofs.YtdbjdpooggaonaaGreatDoor
open Go.RowKit
set_option maxRecDepth 100000
/-- Boxes: blocks of the function's own, with their cells. -/
abbrev Bxs := Nat → Option (TypeId × List Value)
def updX (X : Bxs) (b : Nat) (c : TypeId × List Value) : Bxs := fun k => if k = b then some c else X k
def PB (P : Nat → Prop) (X : Bxs) (k : Nat) : Prop := P k ∨ X k ≠ none
structure Run (P : Nat → Prop) (w0 w : World) (X : Bxs) (S : Nat → Option Int) : Prop where
  keep : Keep P w0 w
  ints : Ints (PB P X) w S
  bx : ∀ b T vs, X b = some (T, vs) → Blk w b T vs
  new : ∀ b, X b ≠ none → ¬ P b
  pg : ∀ k, k < 16 → P k
section
variable {P Q : Nat → Prop} {w0 w w' : World} {X : Bxs} {S S' : Nat → Option Int} {b k B : Nat} {c : TypeId × List Value} {T : TypeId} {vs ys : List Value} {z : Int}
theorem updX_same : updX X b c b = some c := by simp [updX]
theorem updX_ne (h : k ≠ b) : updX X b c k = X k := by simp [updX, h]
theorem Run.start (hI : Ints P w S) : Run P w w (fun _ => none) S :=
  ⟨Keep.refl _ _, hI.less (fun k hk => .inl (hI.pg k hk)) (fun k hk => hk.elim id (fun h => absurd rfl h)), fun _ _ _ h => by (cases h), fun _ h => absurd rfl h, hI.pg⟩
theorem Run.lt (h : Run P w0 w X S) (hb : X b = some c) : b < w.heap.size := by obtain ⟨T, vs⟩ := c; exact (h.bx b T vs hb).lt
theorem Run.ok (h : Run P w0 w X S) : Ok w := h.ints.ok
theorem Run.below (h : Run P w0 w X S) (hb : Below w.heap.size w w') : Run P w0 w' X S :=
  ⟨h.keep.trans (.of_below hb), h.ints.below hb, fun b T vs e => (h.bx b T vs e).of_heap (hb.block b (h.bx b T vs e).lt), h.new, h.pg⟩
theorem Run.drewN (h : Run P w0 w X S) (n : Nat) : Run P w0 (w.drewN n) X S := h.below (below_drewN w n)
theorem Run.drew (h : Run P w0 w X S) : Run P w0 w.drew X S := h.below (below_drew w)
theorem Run.box (h : Run P w0 w X S) (cs : Array Value) (T : TypeId) : Run P w0 (w.alloc (.cells cs T)) (updX X w.heap.size (T, cs.toList)) S := by
  have hb : Below w.heap.size w (w.alloc (.cells cs T)) := (Below.refl _ _).alloc (Nat.le_refl _) _
  have hX : X w.heap.size = none := by
    cases e : X w.heap.size with
    | none => rfl
    | some c => have := h.lt e; omega
  refine ⟨h.keep.trans (.of_below hb), h.ints.more hb (fun k hk => .inl (h.pg k hk)) (fun k hk => ?_), fun b T' vs e => ?_, fun b hb' hP => ?_, h.pg⟩
  · by_cases e : k = w.heap.size
    · right; rw [World.size_alloc]; omega
    · left
      rcases hk with hk | hk
      · exact .inl hk
      · rw [updX_ne e] at hk; exact .inr hk
  · by_cases e' : b = w.heap.size
    · subst e'
      rw [updX_same] at e
      cases e
      exact Blk.new w cs T
    · rw [updX_ne e'] at e
      exact (h.bx b T' vs e).alloc _
  · by_cases e' : b = w.heap.size
    · have := h.ints.pl b (.inl hP); omega
    · rw [updX_ne e'] at hb'; exact h.new b hb' hP
theorem Run.new_int (h : Run P w0 w X S) (hn : NewI w w' B z) : Run P w0 w' X (upd S B z) :=
  ⟨h.keep.trans hn.keep, hn.add h.ints, fun b T vs e => (h.bx b T vs e).of_heap (hn.bel.block b (h.bx b T vs e).lt), h.new, h.pg⟩
theorem Run.op (h : Run P w0 w X S) (hk : Keep (PB P X) w w') (hI : Ints (PB P X) w' S') : Run P w0 w' X S' :=
  ⟨h.keep.trans (hk.sub fun k hk => .inl hk), hI, fun b T vs e => hk.blk (h.bx b T vs e) (.inr (by rw [e]; exact fun h => by cases h)), h.new, h.pg⟩
/-- A block that is kept is written, and no longer kept. -/
theorem Ints.poke {E : TypeId} (h : Ints Q w S) (hp : Put w w' b E ys) (hb : Q b) (h100 : 16 ≤ b) (hg : ∀ k, k < 16 → P k) (hPQ : ∀ k, P k → Q k) : Ints P w' S := by
  obtain ⟨own, h⟩ := h
  have hne : ∀ B z, S B = some z → B ≠ b := fun B z hB e => h.np B z hB (e ▸ hb)
  have hno : ∀ B z K, S B = some z → own B = some K → K ≠ b := fun B z K hB hK e => (h.no B z K hB hK).1 (e ▸ hb)
  refine ⟨own, ⟨?_, hg, fun k hk => by rw [hp.size]; exact h.pl k (hPQ k hk), fun B z hB => (h.at_ B z hB).of_heap (hp.other B (hne B z hB)) fun K hK => hp.other K (hno B z K hB hK), fun B z hB hP => h.np B z hB (hPQ B hP), fun B z K hB hK => ⟨fun hP => (h.no B z K hB hK).1 (hPQ K hP), (h.no B z K hB hK).2⟩, h.ap⟩⟩
  refine h.gl.of_cells fun g x hg hx => ?_
  rw [← hx]
  exact World.cell?_of_block (w := w) (hp.other g (by omega))
theorem Run.big (h : Run P w0 w X S) (hb : X b ≠ none) : 16 ≤ b := by
  rcases Nat.lt_or_ge b 16 with h1 | h1
  · exact absurd (h.pg b h1) (h.new b hb)
  · exact h1
theorem Run.store (h : Run P w0 w X S) (hb : X b = some c) (hp : Put w w' b T ys) : Run P w0 w' (updX X b (T, ys)) S := by
  have hbn : X b ≠ none := by rw [hb]; exact fun h => by cases h
  refine ⟨h.keep.put hp (h.new b hbn), h.ints.poke hp (.inr hbn) (h.big hbn) (fun k hk => .inl (h.pg k hk)) (fun k hk => ?_), fun b' T' vs e => ?_, fun b' hb' => ?_, h.pg⟩
  · rcases hk with hk | hk
    · exact .inl hk
    · by_cases e : k = b
      · exact .inr (e ▸ hbn)
      · rw [updX_ne e] at hk; exact .inr hk
  · by_cases e' : b' = b
    · subst e'
      rw [updX_same] at e
      cases e
      exact hp.here
    · rw [updX_ne e'] at e
      exact (h.bx b' T' vs e).of_heap (hp.other b' e')
  · by_cases e' : b' = b
    · exact e' ▸ h.new b hbn
    · rw [updX_ne e'] at hb'; exact h.new b' hb'
theorem Run.sub (h : Run P w0 w X S) (hS : ∀ k z, S' k = some z → S k = some z) : Run P w0 w X S' := ⟨h.keep, h.ints.sub hS, h.bx, h.new, h.pg⟩
theorem Run.fin (h : Run P w0 w X S) : Keep P w0 w ∧ Ints P w S := ⟨h.keep, h.ints.less h.pg fun _ hk => .inl hk⟩
theorem Run.newI (h : Run (· < w0.heap.size) w0 w X S) (hB : S B = some z) : NewI w0 w B z := h.fin.2.newI h.keep hB
theorem Run.cell (h : Run P w0 w X S) {v : Value} (hb : X b = some (T, [v])) : w.cell? ⟨b, 0, none⟩ = some v ∧ w.frozen? ⟨b, 0, none⟩ = false ∧ b < w.heap.size := ⟨(h.bx b T _ hb).cell 0, (h.bx b T _ hb).frozen 0, h.lt hb⟩
theorem Run.ilt (h : Run P w0 w X S) (hB : S B = some z) : B < w.heap.size := h.ints.lt hB
theorem Run.ge (h : Run P w0 w X S) : w0.heap.size ≤ w.heap.size := h.keep.size
end
theorem upd_cases {S : Nat → Option Int} {B k : Nat} {v z : Int} (h : upd S B v k = some z) : (k = B ∧ z = v) ∨ (k ≠ B ∧ S k = some z) := by
  unfold upd at h
  by_cases e : k = B
  · rw [if_pos e] at h; cases h; exact .inl ⟨e, rfl⟩
  · rw [if_neg e] at h; exact .inr ⟨e, h⟩
/-- Nothing lies from n on. -/
def Low (S : Nat → Option Int) (n : Nat) : Prop := ∀ K, n ≤ K → S K = none
theorem Low.lt {S : Nat → Option Int} {n k : Nat} {z : Int} (h : Low S n) (hk : S k = some z) : k < n := by
  rcases Nat.lt_or_ge k n with h1 | h1
  · exact h1
  · rw [h k h1] at hk; cases hk
theorem Ints.low {P : Nat → Prop} {w : World} {S : Nat → Option Int} (h : Ints P w S) : Low S w.heap.size := fun _ hK => h.fresh hK
theorem Ok.run {w : World} (h : Ok w) : Run (· < w.heap.size) w w (fun _ => Option.none) (fun _ => Option.none) := Run.start h.none
theorem put1 {w : World} {b : Nat} {T : TypeId} {v v' : Value} (h : Blk w b T [v]) : Put w (w.setCell ⟨b, 0, none⟩ v') b T [v'] := (Put.refl h).set 0 v'
end Go.Proofs.YtdbjdpooggaonaaGreatDoor
end

section
namespace Go.Proofs.YtdbjdpooggaonaaGreatDoor
open Go.RowKit
set_option maxRecDepth 100000
theorem wl18 : wlen (Int.natAbs 1000000000000000000) < 12 := wl (n := 1) (by decide) (by decide)
theorem w18_1 : wlen (Int.natAbs 1000000000000000000) = 1 := wlen_one (by decide) (by decide)
theorem lt_40 {a : Nat} (h : wlen a < 12) : wlen a < 40 := by omega
set_option maxHeartbeats 1000000 in
theorem fivePrec_any (w : World) (hok : Ok w) : Calls Tryz.prog 224 #[] w fun e w' => ∃ B, e = .returned (ptr B) ∧ NewI w w' B 500000000000000000 := by
  have r0 := Hd.mk hok.run
  have r1 := Hd.mk (r0.out.new_int (NewI.of_new _))
  clear r0
  go_enter Tryz.func224, Tryz.ntmps224
  go_wp2_with fail
  refine (precisionReuse_any _ r1.out.ok).mono ?_
  rintro e w2 ⟨B2, rfl, hn2⟩
  have r2 := Hd.mk (r1.out.new_int hn2)
  have g2 := hn2.ge
  have s2 := hn2.bel.size
  try simp only [World.size_alloc] at g2 s2
  have l2 := r2.out.ilt upd_same
  clear hn2 r1
  go_wp2_with fail
  refine (NewInt_any 2 _ (by decide) (by decide)).mono ?_
  rintro e w3 ⟨B3, rfl, hn3⟩
  have r3 := Hd.mk (r2.out.new_int hn3)
  have g3 := hn3.ge
  have s3 := hn3.bel.size
  try simp only [World.size_alloc] at g3 s3
  have l3 := r3.out.ilt upd_same
  clear hn3 r2
  have hm := Hd.mk (IQuo_any _ w.heap.size B2 B3 0 1000000000000000000 2 _ w3 r3.out.ints (by rw [upd_ne (by omega), upd_ne (by omega), upd_same]) (by rw [upd_ne (by omega), upd_same]) upd_same ⟨by decide, by have := wl18; omega, .inl (wlen_one (by decide) (by decide))⟩)
  go_wp2_with fail
  refine (hm.out).mono ?_
  rintro e w4 ⟨rfl, hk4, hI4⟩
  have s4 := hk4.size
  try simp only [World.size_alloc] at s4
  have r4 := Hd.mk (r3.out.op hk4 hI4)
  clear hk4 hI4 r3
  have hfin := Hd.mk (r4.out.newI upd_same)
  clear r4 hm
  go_wp2
  go_ret
  exact ⟨_, rfl, hfin.out⟩
theorem pm_any (p : Nat) (hp : p ≤ 18) (w : World) (hok : Ok w) : Calls Tryz.prog 161 #[.int .i64 (p : Int)] w fun e w' => ∃ B, e = .returned (ptr B) ∧ NewI w w' B ((10 ^ (18 - p) : Nat) : Int) := by
  have hp1 : (p : Int) ≤ 18 := by omega
  have hp0 : 0 ≤ (p : Int) := by omega
  have hc := Hd.mk (calcPM_any p hp w hok)
  replace hok := Hd.mk hok
  go_enter Tryz.func161, Tryz.ntmps161
  go_wp2_with fail
  refine hc.out.mono ?_
  rintro e w1 ⟨B1, rfl, hn1⟩
  replace hn1 := Hd.mk hn1
  go_wp2
  go_ret
  exact ⟨_, rfl, hn1.out⟩
set_option maxHeartbeats 1000000 in
theorem NewDecPrec_any (P : Nat → Prop) (bx p : Nat) (x : Int) (S : Nat → Option Int) (w : World) (hI : Ints P w S) (hx : S bx = some x) (hp : p ≤ 18) (hw : wlen x.natAbs < 40) :
    Calls Tryz.prog 75 #[ptr bx, .int .i64 (p : Int)] w fun e w' => ∃ B, e = .returned (.agg #[ptr B]) ∧ w.heap.size ≤ B ∧ Keep P w w' ∧ Ints P w' (upd S B (x * ((10 ^ (18 - p) : Nat) : Int))) := by
  have r0 := Hd.mk (Run.start hI)
  have hlx := hI.lt hx
  have hwp : wlen (((10 ^ (18 - p) : Nat) : Int)).natAbs < 12 := by rw [Int.natAbs_natCast]; exact pow10_wl (by omega)
  have hlo := Hd.mk hI.low
  clear hI
  have r1 := Hd.mk (r0.out.box #[.pointer none] 68)
  clear r0
  have r2 := Hd.mk (r1.out.new_int (NewI.of_new _))
  clear r1
  go_enter Tryz.func75, Tryz.ntmps75
  go_wp2_with fail
  refine (pm_any p hp _ r2.out.ok).mono ?_
  rintro e w3 ⟨B3, rfl, hn3⟩
  have r3 := Hd.mk (r2.out.new_int hn3)
  have g3 := hn3.ge
  have s3 := hn3.bel.size
  try simp only [World.size_alloc] at g3 s3
  have l3 := r3.out.ilt upd_same
  clear hn3 r2
  have hm := Hd.mk (IMul_any _ (w.heap.size + 1) bx B3 0 x _ _ w3 r3.out.ints (by rw [upd_ne (by omega), World.size_alloc, upd_same]) (by rw [upd_ne (by omega), World.size_alloc, upd_ne (by omega), hx]) upd_same hw (by omega) (fun e => by omega))
  go_wp2_with fail
  refine (hm.out).mono ?_
  rintro e w4 ⟨rfl, hk4, hI4⟩
  have s4 := hk4.size
  try simp only [World.size_alloc] at s4
  have r4 := Hd.mk (r3.out.op hk4 hI4)
  clear hk4 hI4 r3
  obtain ⟨c4, c4z, c4l⟩ := r4.out.cell (b := w.heap.size) updX_same
  replace hx := Hd.mk hx
  go_wp2
  have r5 := r4.out.store updX_same (put1 (r4.out.bx _ _ _ updX_same) (v' := ptr (w.heap.size + 1)))
  refine bodyPost_ret (v := .agg #[ptr (w.heap.size + 1)]) (by simp [results, Tryz.results75, go_sem, c4, c4z, c4l]) rfl ⟨_, rfl, by omega, r5.fin.1, r5.fin.2.sub fun k z hk => ?_⟩
  rcases upd_cases hk with ⟨rfl, rfl⟩ | ⟨hne, hk⟩
  · repeat first | exact upd_same | rw [upd_ne (by omega)]
  · have hkl := hlo.out.lt hk
    repeat rw [upd_ne (by first | exact hne | ((try simp only [World.size_alloc]); omega))]
    exact hk
end Go.Proofs.YtdbjdpooggaonaaGreatDoor
end

section
namespace Go.Proofs.YtdbjdpooggaonaaGreatDoor
open Go.RowKit
set_option maxRecDepth 100000
set_option maxHeartbeats 1000000 in
theorem dNeg_any (P : Nat → Prop) (bd : Nat) (x : Int) (S : Nat → Option Int) (w : World) (hI : Ints P w S) (hx : S bd = some x) (hw : wlen x.natAbs < 800) :
    Calls Tryz.prog 166 #[.agg #[ptr bd]] w fun e w' => ∃ B, e = .returned (.agg #[ptr B]) ∧ w.heap.size ≤ B ∧ Keep P w w' ∧ Ints P w' (upd S B (-x)) := by
  have r0 := Hd.mk (Run.start hI)
  have hlx := hI.lt hx
  have hlo := Hd.mk hI.low
  clear hI
  have r1 := Hd.mk (r0.out.box #[ptr bd] 68)
  clear r0
  have r2 := Hd.mk (r1.out.box #[.pointer none] 68)
  clear r1
  have r3 := Hd.mk (r2.out.new_int (NewI.of_new _))
  clear r2
  simp only [World.size_alloc] at r3
  have hm := Hd.mk (INeg_any _ (w.heap.size + 1 + 1) bd 0 x _ _ r3.out.ints upd_same (by rw [upd_ne (by omega), hx]) hw)
  have hxk := Hd.mk hx
  clear hx
  go_enter Tryz.func166, Tryz.ntmps166
  go_wp2_with fail
  refine (hm.out).mono ?_
  rintro e w4 ⟨rfl, hk4, hI4⟩
  have s4 := hk4.size
  try simp only [World.size_alloc] at s4
  have r4 := Hd.mk (r3.out.op hk4 hI4)
  clear hk4 hI4 r3
  obtain ⟨c4, c4z, c4l⟩ := r4.out.cell (b := (w.heap.size + 1)) updX_same
  go_wp2
  have r5 := r4.out.store updX_same (put1 (r4.out.bx _ _ _ updX_same) (v' := ptr (w.heap.size + 1 + 1)))
  refine bodyPost_ret (v := .agg #[ptr (w.heap.size + 1 + 1)]) (by simp [results, Tryz.results166, go_sem, c4, c4z, c4l]) rfl ⟨_, rfl, by omega, r5.fin.1, r5.fin.2.sub fun k z hk => ?_⟩
  rcases upd_cases hk with ⟨rfl, rfl⟩ | ⟨hne, hk⟩
  · repeat first | exact upd_same | rw [upd_ne (by omega)]
  · have hkl := hlo.out.lt hk
    repeat rw [upd_ne (by first | exact hne | ((try simp only [World.size_alloc]); omega))]
    exact hk
set_option maxHeartbeats 1000000 in
theorem dClone_any (P : Nat → Prop) (bd : Nat) (x : Int) (S : Nat → Option Int) (w : World) (hI : Ints P w S) (hx : S bd = some x) (hw : wlen x.natAbs < 800) :
    Calls Tryz.prog 223 #[.agg #[ptr bd]] w fun e w' => ∃ B, e = .returned (.agg #[ptr B]) ∧ w.heap.size ≤ B ∧ Keep P w w' ∧ Ints P w' (upd S B (x)) := by
  have r0 := Hd.mk (Run.start hI)
  have hlx := hI.lt hx
  have hlo := Hd.mk hI.low
  clear hI
  have r1 := Hd.mk (r0.out.box #[ptr bd] 68)
  clear r0
  have r2 := Hd.mk (r1.out.box #[.pointer none] 68)
  clear r1
  have r3 := Hd.mk (r2.out.new_int (NewI.of_new _))
  clear r2
  simp only [World.size_alloc] at r3
  have hm := Hd.mk (ISet_any _ (w.heap.size + 1 + 1) bd 0 x _ _ r3.out.ints upd_same (by rw [upd_ne (by omega), hx]) hw)
  have hxk := Hd.mk hx
  clear hx
  go_enter Tryz.func223, Tryz.ntmps223
  go_wp2_with fail
  refine (hm.out).mono ?_
  rintro e w4 ⟨rfl, hk4, hI4⟩
  have s4 := hk4.size
  try simp only [World.size_alloc] at s4
  have r4 := Hd.mk (r3.out.op hk4 hI4)
  clear hk4 hI4 r3
  obtain ⟨c4, c4z, c4l⟩ := r4.out.cell (b := (w.heap.size + 1)) updX_same
  go_wp2
  have r5 := r4.out.store updX_same (put1 (r4.out.bx _ _ _ updX_same) (v' := ptr (w.heap.size + 1 + 1)))
  refine bodyPost_ret (v := .agg #[ptr (w.heap.size + 1 + 1)]) (by simp [results, Tryz.results223, go_sem, c4, c4z, c4l]) rfl ⟨_, rfl, by omega, r5.fin.1, r5.fin.2.sub fun k z hk => ?_⟩
  rcases upd_cases hk with ⟨rfl, rfl⟩ | ⟨hne, hk⟩
  · repeat first | exact upd_same | rw [upd_ne (by omega)]
  · have hkl := hlo.out.lt hk
    repeat rw [upd_ne (by first | exact hne | ((try simp only [World.size_alloc]); omega))]
    exact hk
/-- The greatest number of parts. -/
def lim : Int := 115792089237316195423570985008687907853269984665640564039457584007913129639935999999999999999999
theorem lim_wl : wlen lim.natAbs < 8 := wl (n := 5) (by decide) (by decide)
theorem in_wl {x : Int} (h : x.natAbs ≤ lim.natAbs) : wlen x.natAbs < 8 := Nat.lt_of_le_of_lt (wlen_mono h) lim_wl
set_option maxHeartbeats 2000000 in
theorem upper_any (w : World) (hok : Ok w) : Calls Tryz.prog 170 #[] w fun e w' => ∃ B, e = .returned (.agg #[ptr B]) ∧ NewI w w' B lim := by
  have r0 := Hd.mk hok.run
  have r1 := Hd.mk (r0.out.box #[.pointer none] 68)
  clear r0
  have r2 := Hd.mk (r1.out.new_int (NewI.of_new _))
  clear r1
  simp only [World.size_alloc] at r2
  go_enter Tryz.func170, Tryz.ntmps170
  go_wp2_with fail
  refine (NewInt_any 2 _ (by decide) (by decide)).mono ?_
  rintro e w3 ⟨B3, rfl, hn3⟩
  have r3 := Hd.mk (r2.out.new_int hn3)
  have g3 := hn3.ge
  have s3 := hn3.bel.size
  try simp only [World.size_alloc] at g3 s3
  have l3 := r3.out.ilt upd_same
  have q3 := Hd.mk hn3.bel
  clear hn3 r2
  go_wp2_with fail
  refine (NewInt_any 256 _ (by decide) (by decide)).mono ?_
  rintro e w4 ⟨B4, rfl, hn4⟩
  have r4 := Hd.mk (r3.out.new_int hn4)
  have g4 := hn4.ge
  have s4 := hn4.bel.size
  try simp only [World.size_alloc] at g4 s4
  have l4 := r4.out.ilt upd_same
  have q4 := Hd.mk hn4.bel
  clear hn4 r3
  have hc4 := nil_cell (q3.out.trans (q4.out.mono q3.out.size))
  rw [World.size_alloc] at hc4
  have hm := Hd.mk (IExp_any _ (w.heap.size + 1) B3 B4 0 2 256 _ w4 r4.out.ints (by rw [upd_ne (by omega), upd_ne (by omega), upd_same]) (by rw [upd_ne (by omega), upd_same]; rfl) upd_same hc4 (by decide) (by decide) (by decide) (wl (n := 5) (by decide) (by decide)))
  clear hc4
  go_wp2_with fail
  refine (hm.out).mono ?_
  rintro e w5 ⟨rfl, hk5, hI5⟩
  have s5 := hk5.size
  try simp only [World.size_alloc] at s5
  have r5 := Hd.mk (r4.out.op hk5 hI5)
  clear hk5 hI5 r4
  have r6 := Hd.mk (r5.out.new_int (NewI.of_new _))
  clear r5
  have r7 := Hd.mk (r6.out.new_int (NewI.of_new _))
  clear r6
  simp only [World.size_alloc] at r7
  go_wp2_with fail
  refine (precisionReuse_any _ r7.out.ok).mono ?_
  rintro e w8 ⟨B8, rfl, hn8⟩
  have r8 := Hd.mk (r7.out.new_int hn8)
  have g8 := hn8.ge
  have s8 := hn8.bel.size
  try simp only [World.size_alloc] at g8 s8
  have l8 := r8.out.ilt upd_same
  have q8 := Hd.mk hn8.bel
  clear hn8 r7
  have hm8 := Hd.mk (IMul_any _ (w5.heap.size + 1) (w.heap.size + 1) B8 0 (2 ^ 256 : Nat) 1000000000000000000 _ w8 r8.out.ints (by rw [upd_ne (by omega), upd_same]) (by rw [upd_ne (by omega), upd_ne (by omega), upd_ne (by omega), upd_same]) upd_same (by rw [Int.natAbs_natCast]; exact wl (n := 5) (by decide) (by decide)) (lt_40 wl18) (fun e => by omega))
  go_wp2_with fail
  refine (hm8.out).mono ?_
  rintro e w9 ⟨rfl, hk9, hI9⟩
  have s9 := hk9.size
  try simp only [World.size_alloc] at s9
  have r9 := Hd.mk (r8.out.op hk9 hI9)
  clear hk9 hI9 r8
  go_wp2_with fail
  refine (NewInt_any 1 _ (by decide) (by decide)).mono ?_
  rintro e w10 ⟨B10, rfl, hn10⟩
  have r10 := Hd.mk (r9.out.new_int hn10)
  have g10 := hn10.ge
  have s10 := hn10.bel.size
  try simp only [World.size_alloc] at g10 s10
  have l10 := r10.out.ilt upd_same
  have q10 := Hd.mk hn10.bel
  clear hn10 r9
  have hm10 := Hd.mk (ISub_any _ w5.heap.size (w5.heap.size + 1) B10 0 ((2 ^ 256 : Nat) * 1000000000000000000) 1 _ w10 r10.out.ints (by rw [upd_ne (by omega), upd_ne (by omega), upd_ne (by omega), upd_ne (by omega), upd_same]) (by rw [upd_ne (by omega), upd_same]) upd_same (wl (n := 5) (by decide) (by decide)) (wl (n := 1) (by decide) (by decide)))
  go_wp2_with fail
  refine (hm10.out).mono ?_
  rintro e w11 ⟨rfl, hk11, hI11⟩
  have s11 := hk11.size
  try simp only [World.size_alloc] at s11
  have r11 := Hd.mk (r10.out.op hk11 hI11)
  clear hk11 hI11 r10
  have hm11 := Hd.mk (NewDecPrec_any _ w5.heap.size 18 lim _ w11 r11.out.ints upd_same (by decide) (by have := lim_wl; omega))
  go_wp2_with fail
  refine (hm11.out).mono ?_
  rintro e w12 ⟨B12, rfl, g12, hk12, hI12⟩
  have s12 := hk12.size
  try simp only [World.size_alloc] at g12 s12
  have r12 := Hd.mk (r11.out.op hk12 hI12)
  have l12 := r12.out.ilt upd_same
  clear hk12 hI12 r11
  obtain ⟨c12, c12z, c12l⟩ := r12.out.cell (b := w.heap.size) updX_same
  go_wp2
  have r13 := r12.out.store updX_same (put1 (r12.out.bx _ _ _ updX_same) (v' := ptr B12))
  refine bodyPost_ret (v := .agg #[ptr B12]) (by simp [results, Tryz.results170, go_sem, c12, c12z, c12l]) rfl ⟨_, rfl, r13.newI (by rw [upd_same]; rfl)⟩
end Go.Proofs.YtdbjdpooggaonaaGreatDoor
end

section
namespace Go.Proofs.YtdbjdpooggaonaaGreatDoor
open Go.RowKit
set_option maxRecDepth 100000
set_option maxHeartbeats 1000000 in
theorem lower_any (w : World) (hok : Ok w) : Calls Tryz.prog 171 #[] w fun e w' => ∃ B, e = .returned (.agg #[ptr B]) ∧ NewI w w' B (-lim) := by
  have r0 := Hd.mk hok.run
  have r1 := Hd.mk (r0.out.box #[.pointer none] 68)
  clear r0
  go_enter Tryz.func171, Tryz.ntmps171
  go_wp2_with fail
  refine (upper_any _ r1.out.ok).mono ?_
  rintro e w2 ⟨B2, rfl, hn2⟩
  have r2 := Hd.mk (r1.out.new_int hn2)
  have g2 := hn2.ge
  have s2 := hn2.bel.size
  try simp only [World.size_alloc] at g2 s2
  have l2 := r2.out.ilt upd_same
  have q2 := Hd.mk hn2.bel
  clear hn2 r1
  have hm := Hd.mk (dNeg_any _ B2 lim _ w2 r2.out.ints upd_same (by have := lim_wl; omega))
  go_wp2_with fail
  refine (hm.out).mono ?_
  rintro e w3 ⟨B3, rfl, g3, hk3, hI3⟩
  have s3 := hk3.size
  try simp only [World.size_alloc] at g3 s3
  have r3 := Hd.mk (r2.out.op hk3 hI3)
  have l3 := r3.out.ilt upd_same
  clear hk3 hI3 r2
  obtain ⟨c3, c3z, c3l⟩ := r3.out.cell (b := w.heap.size) updX_same
  go_wp2
  have r4 := r3.out.store updX_same (put1 (r3.out.bx _ _ _ updX_same) (v' := ptr B3))
  refine bodyPost_ret (v := .agg #[ptr B3]) (by simp [results, Tryz.results171, go_sem, c3, c3z, c3l]) rfl ⟨_, rfl, r4.newI upd_same⟩
set_option maxHeartbeats 1000000 in
theorem dGT_any (P : Nat → Prop) (bd be : Nat) (x y : Int) (S : Nat → Option Int) (w : World) (hI : Ints P w S) (hx : S bd = some x) (hy : S be = some y) (hw : wlen x.natAbs < 800) :
    Calls Tryz.prog 44 #[.agg #[ptr bd], .agg #[ptr be]] w fun e w' => e = .returned (.bool (decide (y < x))) ∧ Keep P w w' ∧ Ints P w' S := by
  have r0 := Hd.mk (Run.start hI)
  have hc : (decide (0 < cmpI x y)) = (decide (y < x)) := by unfold cmpI; by_cases h1 : x < y <;> by_cases h2 : x = y <;> simp [h1, h2] <;> omega
  clear hI
  have r1 := Hd.mk (r0.out.box #[ptr bd] 68)
  clear r0
  have r2 := Hd.mk (r1.out.box #[ptr be] 68)
  clear r1
  have hm := Hd.mk (ICmp_any _ bd be x y S _ r2.out.ints hx hy hw)
  generalize cmpI x y = c at *
  replace hc := Hd.mk hc
  replace hx := Hd.mk hx
  replace hy := Hd.mk hy
  go_enter Tryz.func44, Tryz.ntmps44
  go_wp2_with fail
  refine hm.out.mono ?_
  rintro e w3 ⟨rfl, q, rfl⟩
  have r3 := Hd.mk (r2.out.drewN q).fin
  go_wp2
  go_ret
  exact ⟨by rw [← hc.out]; rfl, r3.out.1, r3.out.2⟩
set_option maxHeartbeats 1000000 in
theorem dLT_any (P : Nat → Prop) (bd be : Nat) (x y : Int) (S : Nat → Option Int) (w : World) (hI : Ints P w S) (hx : S bd = some x) (hy : S be = some y) (hw : wlen x.natAbs < 800) :
    Calls Tryz.prog 46 #[.agg #[ptr bd], .agg #[ptr be]] w fun e w' => e = .returned (.bool (decide (x < y))) ∧ Keep P w w' ∧ Ints P w' S := by
  have r0 := Hd.mk (Run.start hI)
  have hc : (decide (cmpI x y < 0)) = (decide (x < y)) := by unfold cmpI; by_cases h1 : x < y <;> by_cases h2 : x = y <;> simp [h1, h2] <;> omega
  clear hI
  have r1 := Hd.mk (r0.out.box #[ptr bd] 68)
  clear r0
  have r2 := Hd.mk (r1.out.box #[ptr be] 68)
  clear r1
  have hm := Hd.mk (ICmp_any _ bd be x y S _ r2.out.ints hx hy hw)
  generalize cmpI x y = c at *
  replace hc := Hd.mk hc
  replace hx := Hd.mk hx
  replace hy := Hd.mk hy
  go_enter Tryz.func46, Tryz.ntmps46
  go_wp2_with fail
  refine hm.out.mono ?_
  rintro e w3 ⟨rfl, q, rfl⟩
  have r3 := Hd.mk (r2.out.drewN q).fin
  go_wp2
  go_ret
  exact ⟨by rw [← hc.out]; rfl, r3.out.1, r3.out.2⟩
/-- In range. -/
def inR (x : Int) : Bool := decide (-lim ≤ x ∧ x ≤ lim)
theorem inR_wl {x : Int} (h : inR x = true) : wlen x.natAbs < 8 := by
  unfold inR at h
  have := of_decide_eq_true h
  exact in_wl (by have h9 : 0 ≤ lim := by decide
                  omega)
set_option maxHeartbeats 4000000 in
theorem inRange_any (P : Nat → Prop) (bd : Nat) (x : Int) (S : Nat → Option Int) (w : World) (hI : Ints P w S) (hx : S bd = some x) (hw : wlen x.natAbs < 800) :
    Calls Tryz.prog 85 #[.agg #[ptr bd]] w fun e w' => e = .returned (.bool (inR x)) ∧ Keep P w w' ∧ Ints P w' S := by
  have r0 := Hd.mk (Run.start hI)
  have hlo := Hd.mk hI.low
  have hl := hI.lt hx
  clear hI
  have r1 := Hd.mk (r0.out.box #[ptr bd] 68)
  clear r0
  obtain ⟨c1, c1z, c1l⟩ := r1.out.cell (b := w.heap.size) updX_same
  have hxk := Hd.mk hx
  clear hx
  by_cases h1 : lim < x
  · have hres : inR x = false := by unfold inR; simp; omega
    have hd1 : decide (lim < x) = true := decide_eq_true h1
    rw [hres]
    replace hres := Hd.mk hres
    replace h1 := Hd.mk h1
    replace hd1 := Hd.mk hd1
    go_enter Tryz.func85, Tryz.ntmps85
    go_wp2
    go_region_law (first | (go_simp; go_at_call 170; refine (upper_any _ r1.out.drew.ok).mono ?_; rintro e w2 ⟨B2, rfl, hn2⟩; have r2 := Hd.mk (r1.out.drew.new_int hn2); have g2 := hn2.ge; change (w.alloc _).heap.size ≤ B2 at g2; rw [World.size_alloc] at g2; have l2 := r2.out.ilt upd_same; obtain ⟨c2, c2z, c2l⟩ := r2.out.cell (b := w.heap.size) updX_same; clear hn2) | (go_simp; go_at_call 44; refine (dGT_any _ bd B2 x lim _ w2 r2.out.ints (by rw [upd_ne (by omega)]; exact hxk.out) upd_same hw).mono ?_; rintro e w3 ⟨rfl, hk3, hI3⟩; have s3 := hk3.size; have r3 := Hd.mk (r2.out.op hk3 hI3); rw [hd1.out]; obtain ⟨c3, c3z, c3l⟩ := r3.out.cell (b := w.heap.size) updX_same; clear hk3 hI3))
    all_goals
      go_wp2
      go_ret
      exact ⟨rfl, r3.out.fin.1, r3.out.fin.2.sub fun k z hk => by
        have hkl := hlo.out.lt hk
        rw [upd_ne (by omega)]; exact hk⟩
  · have hd1 : decide (lim < x) = false := decide_eq_false h1
    have hres : inR x = !decide (x < -lim) := by
      unfold inR
      by_cases h2 : x < -lim
      · rw [decide_eq_true h2, decide_eq_false (by omega)]; rfl
      · rw [decide_eq_false h2, decide_eq_true (by omega)]; rfl
    rw [hres]
    have hd2 : decide (x < -lim) = decide (x < -lim) := rfl
    generalize hg : decide (x < -lim) = bb at hd2 ⊢
    replace hres := Hd.mk hres
    replace h1 := Hd.mk h1
    replace hd1 := Hd.mk hd1
    replace hd2 := Hd.mk hg
    clear hg
    go_enter Tryz.func85, Tryz.ntmps85
    go_wp2
    go_region_law (first | (go_simp; go_at_call 170; refine (upper_any _ r1.out.drew.ok).mono ?_; rintro e w2 ⟨B2, rfl, hn2⟩; have r2 := Hd.mk (r1.out.drew.new_int hn2); have g2 := hn2.ge; change (w.alloc _).heap.size ≤ B2 at g2; rw [World.size_alloc] at g2; have l2 := r2.out.ilt upd_same; obtain ⟨c2, c2z, c2l⟩ := r2.out.cell (b := w.heap.size) updX_same; clear hn2) | (go_simp; go_at_call 44; refine (dGT_any _ bd B2 x lim _ w2 r2.out.ints (by rw [upd_ne (by omega)]; exact hxk.out) upd_same hw).mono ?_; rintro e w3 ⟨rfl, hk3, hI3⟩; have s3 := hk3.size; have r3 := Hd.mk (r2.out.op hk3 hI3); rw [hd1.out]; obtain ⟨c3, c3z, c3l⟩ := r3.out.cell (b := w.heap.size) updX_same; clear hk3 hI3) | (go_simp; go_at_call 171; refine (lower_any _ r3.out.ok).mono ?_; rintro e w4 ⟨B4, rfl, hn4⟩; have r4 := Hd.mk (r3.out.new_int hn4); have g4 := hn4.ge; have l4 := r4.out.ilt upd_same; obtain ⟨c4, c4z, c4l⟩ := r4.out.cell (b := w.heap.size) updX_same; clear hn4) | (go_simp; go_at_call 46; refine (dLT_any _ bd B4 x (-lim) _ w4 r4.out.ints (by rw [upd_ne (by omega), upd_ne (by omega)]; exact hxk.out) upd_same hw).mono ?_; rintro e w5 ⟨rfl, hk5, hI5⟩; have r5 := Hd.mk (r4.out.op hk5 hI5); rw [hd2.out]; clear hk5 hI5))
    all_goals
      go_wp2
      go_ret
      exact ⟨rfl, r5.out.fin.1, r5.out.fin.2.sub fun k z hk => by
        have hkl := hlo.out.lt hk
        rw [upd_ne (by omega), upd_ne (by omega)]; exact hk⟩
set_option maxHeartbeats 1000000 in
theorem assertIn_any (P : Nat → Prop) (bd : Nat) (x : Int) (S : Nat → Option Int) (w : World) (hI : Ints P w S) (hx : S bd = some x) (hw : wlen x.natAbs < 800) (hr : inR x = true) :
    Calls Tryz.prog 182 #[.agg #[ptr bd]] w fun e w' => e = .returned (.tuple #[]) ∧ Keep P w w' ∧ Ints P w' S := by
  have r0 := Hd.mk (Run.start hI)
  clear hI
  have r1 := Hd.mk (r0.out.box #[ptr bd] 68)
  clear r0
  have hm := Hd.mk (inRange_any _ bd x S _ r1.out.ints hx hw)
  rw [hr] at hm
  replace hx := Hd.mk hx
  replace hr := Hd.mk hr
  go_enter Tryz.func182, Tryz.ntmps182
  go_wp2_with fail
  refine hm.out.mono ?_
  rintro e w2 ⟨rfl, hk2, hI2⟩
  have r2 := Hd.mk (r1.out.op hk2 hI2).fin
  clear hk2 hI2
  go_wp2
  first
    | (go_end0; exact ⟨rfl, r2.out.1, r2.out.2⟩)
    | (refine bodyPost_ret (results_none rfl _ _ _) rfl ?_; exact ⟨rfl, r2.out.1, r2.out.2⟩)
set_option maxHeartbeats 1000000 in
theorem assertOut_any (P : Nat → Prop) (bd : Nat) (x : Int) (S : Nat → Option Int) (w : World) (hI : Ints P w S) (hx : S bd = some x) (hw : wlen x.natAbs < 800) (hr : inR x = false) :
    Calls Tryz.prog 182 #[.agg #[ptr bd]] w fun e w' => (∃ u v, e = .panicked [{ v := .iface u v, recovered := false }]) ∧ Keep P w w' := by
  have r0 := Hd.mk (Run.start hI)
  clear hI
  have r1 := Hd.mk (r0.out.box #[ptr bd] 68)
  clear r0
  have hm := Hd.mk (inRange_any _ bd x S _ r1.out.ints hx hw)
  rw [hr] at hm
  replace hx := Hd.mk hx
  replace hr := Hd.mk hr
  go_enter Tryz.func182, Tryz.ntmps182
  go_wp2_with fail
  refine hm.out.mono ?_
  rintro e w2 ⟨rfl, hk2, hI2⟩
  have r2 := Hd.mk (r1.out.op hk2 hI2).fin
  clear hk2 hI2
  go_wp2
  exact ⟨rfl, ⟨_, _, rfl⟩, r2.out.1⟩
end Go.Proofs.YtdbjdpooggaonaaGreatDoor
end
