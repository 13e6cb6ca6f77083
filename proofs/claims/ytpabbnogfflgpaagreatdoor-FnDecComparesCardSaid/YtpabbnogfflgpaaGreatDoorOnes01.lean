/- A byte that came in. Decimals: comparing, opposite, size, whole ones. The thin package: one decimal changed; a power; a decimal made of a whole number: the functions by their closures. Conditions: those that each theorem states. -/
import Derived.Test.YtpabbnogfflgpaaGreatDoorBase29
import Derived.Test.YtpabbnogfflgpaaGreatDoorBase32
import Derived.Test.YtpabbnogfflgpaaGreatDoorBase25
import Derived.Test.YtpabbnogfflgpaaGreatDoorBase27
set_option linter.all false

section
namespace Go.Proofs.YtpabbnogfflgpaaGreatDoor
open Go.ChangeShapes Go.WideShapes Go.ChangeAt Go.RowKit
theorem u8_lo {n : Int} (h : (Lit.int .u8 n).wf = true) : 0 ≤ n := by
  simp only [Lit.wf, Bool.and_eq_true, decide_eq_true_eq] at h
  exact h.1
theorem u8_hi {n : Int} (h : (Lit.int .u8 n).wf = true) : n < 256 := by
  simp only [Lit.wf, Bool.and_eq_true, decide_eq_true_eq] at h
  have h2 : n ≤ 255 := h.2
  omega
end Go.Proofs.YtpabbnogfflgpaaGreatDoor
end

section
namespace Go.Proofs.YtpabbnogfflgpaaGreatDoor
open Go.RowKit
set_option maxRecDepth 100000
set_option maxHeartbeats 1000000 in
theorem dEqual_any (P : Nat → Prop) (bd be : Nat) (x y : Int) (S : Nat → Option Int) (w : World) (hI : Ints P w S) (hx : S bd = some x) (hy : S be = some y) (hw : wlen x.natAbs < 800) :
    Calls Tryz.prog 56 #[.agg #[ptr bd], .agg #[ptr be]] w fun e w' => e = .returned (.bool (decide (x = y))) ∧ Keep P w w' ∧ Ints P w' S := by
  have r0 := Hd.mk (Run.start hI)
  have hc : (cmpI x y == 0) = (decide (x = y)) := by
    rcases Int.lt_trichotomy x y with h | h | h
    · rw [cmpI_lt h, Bool.eq_iff_iff]; simp only [decide_eq_true_eq, beq_iff_eq]; omega
    · subst h; rw [cmpI_eq, Bool.eq_iff_iff]; simp only [decide_eq_true_eq, beq_iff_eq] <;> omega
    · rw [cmpI_gt h, Bool.eq_iff_iff]; simp only [decide_eq_true_eq, beq_iff_eq]; omega
  clear hI
  have r1 := Hd.mk (r0.out.box #[ptr bd] 71)
  clear r0
  have r2 := Hd.mk (r1.out.box #[ptr be] 71)
  clear r1
  have hm := Hd.mk (ICmp_any _ bd be x y S _ r2.out.ints hx hy hw)
  generalize cmpI x y = c at *
  replace hc := Hd.mk hc
  replace hx := Hd.mk hx
  replace hy := Hd.mk hy
  go_enter Tryz.func56, Tryz.ntmps56
  go_wp2_with fail
  refine hm.out.mono ?_
  rintro e w3 ⟨rfl, q, rfl⟩
  have r3 := Hd.mk (r2.out.drewN q).fin
  go_wp2
  go_ret
  exact ⟨by rw [← hc.out]; rfl, r3.out.1, r3.out.2⟩
set_option maxHeartbeats 1000000 in
theorem dGTE_any (P : Nat → Prop) (bd be : Nat) (x y : Int) (S : Nat → Option Int) (w : World) (hI : Ints P w S) (hx : S bd = some x) (hy : S be = some y) (hw : wlen x.natAbs < 800) :
    Calls Tryz.prog 58 #[.agg #[ptr bd], .agg #[ptr be]] w fun e w' => e = .returned (.bool (decide (y ≤ x))) ∧ Keep P w w' ∧ Ints P w' S := by
  have r0 := Hd.mk (Run.start hI)
  have hc : (decide (0 ≤ cmpI x y)) = (decide (y ≤ x)) := by
    rcases Int.lt_trichotomy x y with h | h | h
    · rw [cmpI_lt h, Bool.eq_iff_iff]; simp only [decide_eq_true_eq, beq_iff_eq]; omega
    · subst h; rw [cmpI_eq, Bool.eq_iff_iff]; simp only [decide_eq_true_eq, beq_iff_eq] <;> omega
    · rw [cmpI_gt h, Bool.eq_iff_iff]; simp only [decide_eq_true_eq, beq_iff_eq]; omega
  clear hI
  have r1 := Hd.mk (r0.out.box #[ptr bd] 71)
  clear r0
  have r2 := Hd.mk (r1.out.box #[ptr be] 71)
  clear r1
  have hm := Hd.mk (ICmp_any _ bd be x y S _ r2.out.ints hx hy hw)
  generalize cmpI x y = c at *
  replace hc := Hd.mk hc
  replace hx := Hd.mk hx
  replace hy := Hd.mk hy
  go_enter Tryz.func58, Tryz.ntmps58
  go_wp2_with fail
  refine hm.out.mono ?_
  rintro e w3 ⟨rfl, q, rfl⟩
  have r3 := Hd.mk (r2.out.drewN q).fin
  go_wp2
  go_ret
  exact ⟨by rw [← hc.out]; rfl, r3.out.1, r3.out.2⟩
set_option maxHeartbeats 1000000 in
theorem dLTE_any (P : Nat → Prop) (bd be : Nat) (x y : Int) (S : Nat → Option Int) (w : World) (hI : Ints P w S) (hx : S bd = some x) (hy : S be = some y) (hw : wlen x.natAbs < 800) :
    Calls Tryz.prog 60 #[.agg #[ptr bd], .agg #[ptr be]] w fun e w' => e = .returned (.bool (decide (x ≤ y))) ∧ Keep P w w' ∧ Ints P w' S := by
  have r0 := Hd.mk (Run.start hI)
  have hc : (decide (cmpI x y ≤ 0)) = (decide (x ≤ y)) := by
    rcases Int.lt_trichotomy x y with h | h | h
    · rw [cmpI_lt h, Bool.eq_iff_iff]; simp only [decide_eq_true_eq, beq_iff_eq]; omega
    · subst h; rw [cmpI_eq, Bool.eq_iff_iff]; simp only [decide_eq_true_eq, beq_iff_eq] <;> omega
    · rw [cmpI_gt h, Bool.eq_iff_iff]; simp only [decide_eq_true_eq, beq_iff_eq]; omega
  clear hI
  have r1 := Hd.mk (r0.out.box #[ptr bd] 71)
  clear r0
  have r2 := Hd.mk (r1.out.box #[ptr be] 71)
  clear r1
  have hm := Hd.mk (ICmp_any _ bd be x y S _ r2.out.ints hx hy hw)
  generalize cmpI x y = c at *
  replace hc := Hd.mk hc
  replace hx := Hd.mk hx
  replace hy := Hd.mk hy
  go_enter Tryz.func60, Tryz.ntmps60
  go_wp2_with fail
  refine hm.out.mono ?_
  rintro e w3 ⟨rfl, q, rfl⟩
  have r3 := Hd.mk (r2.out.drewN q).fin
  go_wp2
  go_ret
  exact ⟨by rw [← hc.out]; rfl, r3.out.1, r3.out.2⟩
set_option maxHeartbeats 1000000 in
theorem dAbs_any (P : Nat → Prop) (bd : Nat) (x : Int) (S : Nat → Option Int) (w : World) (hI : Ints P w S) (hx : S bd = some x) (hw : wlen x.natAbs < 800) :
    Calls Tryz.prog 79 #[.agg #[ptr bd]] w fun e w' => ∃ B, e = .returned (.agg #[ptr B]) ∧ w.heap.size ≤ B ∧ Keep P w w' ∧ Ints P w' (upd S B (x.natAbs : Int)) := by
  have r0 := Hd.mk (Run.start hI)
  have hlx := hI.lt hx
  have hlo := Hd.mk hI.low
  clear hI
  have r1 := Hd.mk (r0.out.box #[ptr bd] 71)
  clear r0
  have r2 := Hd.mk (r1.out.box #[.pointer none] 71)
  clear r1
  have r3 := Hd.mk (r2.out.new_int (NewI.of_new _))
  clear r2
  simp only [World.size_alloc] at r3
  have hm := Hd.mk (IAbs_any _ (w.heap.size + 1 + 1) bd 0 x _ _ r3.out.ints upd_same (by rw [upd_ne (by omega), hx]) hw)
  have hxk := Hd.mk hx
  clear hx
  go_enter Tryz.func79, Tryz.ntmps79
  go_wp2_with fail
  refine (hm.out).mono ?_
  rintro e w4 ⟨rfl, hk4, hI4⟩
  have s4 := hk4.size
  try simp only [World.size_alloc] at s4
  have r4 := Hd.mk (r3.out.op hk4 hI4)
  clear hk4 hI4 r3
  obtain ⟨c4, c4z, c4l⟩ := r4.out.cell (b := (w.heap.size + 1)) updX_same
  go_wp2
  have r5 := r4.out.store updX_same (put1 (r4.out.bx _ _ _ updX_same) (v' := ptr (w.heap.size + 1 + 1)))
  refine bodyPost_ret (v := .agg #[ptr (w.heap.size + 1 + 1)]) (by simp [results, Tryz.results79, go_sem, c4, c4z, c4l]) rfl ⟨_, rfl, by omega, r5.fin.1, r5.fin.2.sub fun k z hk => ?_⟩
  rcases upd_cases hk with ⟨rfl, rfl⟩ | ⟨hne, hk⟩
  · repeat first | exact upd_same | rw [upd_ne (by omega)]
  · have hkl := hlo.out.lt hk
    repeat rw [upd_ne (by first | exact hne | ((try simp only [World.size_alloc]); omega))]
    exact hk
set_option maxHeartbeats 1000000 in
theorem NegMut_any (P : Nat → Prop) (bd : Nat) (x : Int) (S : Nat → Option Int) (w : World) (hI : Ints P w S) (hx : S bd = some x) (hw : wlen x.natAbs < 800) :
    Calls Tryz.prog 76 #[.agg #[ptr bd]] w fun e w' => e = .returned (.agg #[ptr bd]) ∧ Keep P w w' ∧ Ints P w' (upd S bd (-x)) := by
  have r0 := Hd.mk (Run.start hI)
  have hlx := hI.lt hx
  have hlo := Hd.mk hI.low
  clear hI
  have r1 := Hd.mk (r0.out.box #[ptr bd] 71)
  clear r0
  have r2 := Hd.mk (r1.out.box #[.pointer none] 71)
  clear r1
  simp only [World.size_alloc] at r2
  have hm := Hd.mk (INeg_any _ bd bd x x _ _ r2.out.ints hx hx hw)
  have hxk := Hd.mk hx
  clear hx
  go_enter Tryz.func76, Tryz.ntmps76
  go_wp2_with fail
  refine (hm.out).mono ?_
  rintro e w3 ⟨rfl, hk3, hI3⟩
  have s3 := hk3.size
  try simp only [World.size_alloc] at s3
  have r3 := Hd.mk (r2.out.op hk3 hI3)
  clear hk3 hI3 r2
  obtain ⟨c3, c3z, c3l⟩ := r3.out.cell (b := w.heap.size) (by rw [updX_ne (by omega), updX_same])
  obtain ⟨d3, d3z, d3l⟩ := r3.out.cell (b := (w.heap.size + 1)) updX_same
  go_wp2
  have r5 := r3.out.store updX_same (put1 (r3.out.bx _ _ _ updX_same) (v' := ptr bd))
  refine bodyPost_ret (v := .agg #[ptr bd]) (by simp [results, Tryz.results76, go_sem, d3, d3z, d3l]) rfl ⟨rfl, r5.fin.1, r5.fin.2.sub fun k z hk => ?_⟩
  rcases upd_cases hk with ⟨rfl, rfl⟩ | ⟨hne, hk⟩
  · repeat first | exact upd_same | rw [upd_ne (by omega)]
  · have hkl := hlo.out.lt hk
    repeat rw [upd_ne (by first | exact hne | ((try simp only [World.size_alloc]); omega))]
    exact hk
set_option maxHeartbeats 1000000 in
theorem AbsMut_any (P : Nat → Prop) (bd : Nat) (x : Int) (S : Nat → Option Int) (w : World) (hI : Ints P w S) (hx : S bd = some x) (hw : wlen x.natAbs < 800) :
    Calls Tryz.prog 78 #[.agg #[ptr bd]] w fun e w' => e = .returned (.agg #[ptr bd]) ∧ Keep P w w' ∧ Ints P w' (upd S bd (x.natAbs : Int)) := by
  have r0 := Hd.mk (Run.start hI)
  have hlx := hI.lt hx
  have hlo := Hd.mk hI.low
  clear hI
  have r1 := Hd.mk (r0.out.box #[ptr bd] 71)
  clear r0
  have r2 := Hd.mk (r1.out.box #[.pointer none] 71)
  clear r1
  simp only [World.size_alloc] at r2
  have hm := Hd.mk (IAbs_any _ bd bd x x _ _ r2.out.ints hx hx hw)
  have hxk := Hd.mk hx
  clear hx
  go_enter Tryz.func78, Tryz.ntmps78
  go_wp2_with fail
  refine (hm.out).mono ?_
  rintro e w3 ⟨rfl, hk3, hI3⟩
  have s3 := hk3.size
  try simp only [World.size_alloc] at s3
  have r3 := Hd.mk (r2.out.op hk3 hI3)
  clear hk3 hI3 r2
  obtain ⟨c3, c3z, c3l⟩ := r3.out.cell (b := w.heap.size) (by rw [updX_ne (by omega), updX_same])
  obtain ⟨d3, d3z, d3l⟩ := r3.out.cell (b := (w.heap.size + 1)) updX_same
  go_wp2
  have r5 := r3.out.store updX_same (put1 (r3.out.bx _ _ _ updX_same) (v' := ptr bd))
  refine bodyPost_ret (v := .agg #[ptr bd]) (by simp [results, Tryz.results78, go_sem, d3, d3z, d3l]) rfl ⟨rfl, r5.fin.1, r5.fin.2.sub fun k z hk => ?_⟩
  rcases upd_cases hk with ⟨rfl, rfl⟩ | ⟨hne, hk⟩
  · repeat first | exact upd_same | rw [upd_ne (by omega)]
  · have hkl := hlo.out.lt hk
    repeat rw [upd_ne (by first | exact hne | ((try simp only [World.size_alloc]); omega))]
    exact hk
set_option maxHeartbeats 1000000 in
theorem NewDecBig_any (P : Nat → Prop) (bx : Nat) (x : Int) (S : Nat → Option Int) (w : World) (hI : Ints P w S) (hx : S bx = some x) (hw : wlen x.natAbs < 40) :
    Calls Tryz.prog 46 #[ptr bx] w fun e w' => ∃ B, e = .returned (.agg #[ptr B]) ∧ w.heap.size ≤ B ∧ Keep P w w' ∧ Ints P w' (upd S B (x * E18)) := by
  have r0 := Hd.mk (Run.start hI)
  have hlx := hI.lt hx
  have hlo := Hd.mk hI.low
  clear hI
  have r1 := Hd.mk (r0.out.box #[.pointer none] 71)
  clear r0
  have hm := Hd.mk (NewDecPrec_any _ bx 0 x _ _ r1.out.ints hx (by decide) hw)
  rw [show ((10 ^ (18 - 0) : Nat) : Int) = E18 by unfold E18; decide] at hm
  generalize x * E18 = z at *
  replace hx := Hd.mk hx
  go_enter Tryz.func46, Tryz.ntmps46
  go_wp2_with fail
  refine (hm.out).mono ?_
  rintro e w4 ⟨B4, rfl, g4, hk4, hI4⟩
  have s4 := hk4.size
  try simp only [World.size_alloc] at g4 s4
  have r4 := Hd.mk (r1.out.op hk4 hI4)
  have l4 := r4.out.ilt upd_same
  clear hk4 hI4 r1
  obtain ⟨c4, c4z, c4l⟩ := r4.out.cell (b := w.heap.size) updX_same
  go_wp2
  have r5 := r4.out.store updX_same (put1 (r4.out.bx _ _ _ updX_same) (v' := ptr B4))
  refine bodyPost_ret (v := .agg #[ptr B4]) (by simp [results, Tryz.results46, go_sem, c4, c4z, c4l]) rfl ⟨_, rfl, by omega, r5.fin.1, r5.fin.2.sub fun k z hk => ?_⟩
  rcases upd_cases hk with ⟨rfl, rfl⟩ | ⟨hne, hk⟩
  · repeat first | exact upd_same | rw [upd_ne (by omega)]
  · have hkl := hlo.out.lt hk
    repeat rw [upd_ne (by first | exact hne | ((try simp only [World.size_alloc]); omega))]
    exact hk
set_option maxHeartbeats 1000000 in
theorem TruncateDec_any (P : Nat → Prop) (bd : Nat) (x : Int) (S : Nat → Option Int) (w : World) (hI : Ints P w S) (hx : S bd = some x) (hw : wlen x.natAbs < 40) :
    Calls Tryz.prog 81 #[.agg #[ptr bd]] w fun e w' => ∃ B, e = .returned (.agg #[ptr B]) ∧ w.heap.size ≤ B ∧ Keep P w w' ∧ Ints P w' (upd S B (x.tdiv E18 * E18)) := by
  have r0 := Hd.mk (Run.start hI)
  have hlo := Hd.mk hI.low
  have hl := hI.lt hx
  clear hI
  have r1 := Hd.mk (r0.out.box #[ptr bd] 71)
  clear r0
  have r2 := Hd.mk (r1.out.box #[.pointer none] 71)
  clear r1
  simp only [World.size_alloc] at r2
  have hc := Hd.mk (chopTN_any _ bd x _ _ r2.out.ints hx hw)
  have hwv : wlen (x.tdiv E18).natAbs < 40 := Nat.lt_of_le_of_lt (wlen_mono (by rw [Int.natAbs_tdiv]; exact Nat.div_le_self _ _)) hw
  have hni := Hd.mk fun (Q : Nat → Prop) B S1 w1 (h : Ints Q w1 S1) (h1 : S1 B = some (x.tdiv E18)) => NewDecBig_any Q B _ S1 w1 h h1 hwv
  replace hx := Hd.mk hx
  generalize x.tdiv E18 = v at *
  generalize v * E18 = vv at *
  go_enter Tryz.func81, Tryz.ntmps81
  go_wp2_with (first
    | (go_at_call 153; refine hc.out.mono ?_; rintro e w3 ⟨B3, rfl, g3, hk3, hI3⟩; have r3 := Hd.mk (r2.out.op hk3 hI3); simp only [World.size_alloc] at g3; clear hk3 hI3)
    | (go_at_call 46; refine (hni.out _ B3 _ _ r3.out.ints upd_same).mono ?_; rintro e w4 ⟨B4, rfl, g4, hk4, hI4⟩; have l3 := r3.out.ilt upd_same; have s3 := r3.out.ge; have r4 := Hd.mk (r3.out.op hk4 hI4); clear hk4 hI4; obtain ⟨e4, e4z, e4l⟩ := r4.out.cell (b := w.heap.size + 1) updX_same))
  have r9 := r4.out.store updX_same (put1 (r4.out.bx _ _ _ updX_same) (v' := ptr B4))
  refine bodyPost_ret (v := .agg #[ptr B4]) (by simp [results, Tryz.results81, go_sem, e4, e4z, e4l]) rfl ⟨_, rfl, by omega, r9.fin.1, r9.fin.2.sub fun k z hk => ?_⟩
  rcases upd_cases hk with ⟨rfl, rfl⟩ | ⟨hne, hk⟩
  · repeat first | exact upd_same | rw [upd_ne (by omega)]
  · have hkl := hlo.out.lt hk
    repeat rw [upd_ne (by first | exact hne | ((try simp only [World.size_alloc]); omega))]
    exact hk
/-- The least whole number of parts that is not less. -/
theorem chopU_dec {x : Int} : chopU x = if x.tmod E18 ≤ 0 then x.tdiv E18 else x.tdiv E18 + 1 := by
  by_cases hn : x < 0
  · have hm : x.tmod E18 ≤ 0 := by
      have := Int.tmod_nonneg E18 (a := -x) (by omega)
      rw [Int.neg_tmod] at this; omega
    rw [if_pos hm]
    unfold chopU
    rw [if_pos hn, show x.tdiv E18 = -((-x).tdiv E18) by rw [Int.neg_tdiv, Int.neg_neg], tdiv18 (by omega)]
  · have h0 : 0 ≤ x := by omega
    have hr0 : 0 ≤ x % E18 := Int.emod_nonneg _ (by decide)
    unfold chopU
    rw [if_neg hn, tdiv18 h0, tmod18 h0]
    by_cases h : x % E18 = 0
    · rw [if_pos h, if_pos (by omega)]
    · rw [if_neg h, if_neg (by omega)]
set_option maxHeartbeats 4000000 in
theorem Ceil_ok (P : Nat → Prop) (bd : Nat) (x : Int) (S : Nat → Option Int) (w : World) (hI : Ints P w S) (hx : S bd = some x) (hw : wlen x.natAbs < 38) (hr : inR (chopU x * E18) = true) :
    Calls Tryz.prog 80 #[.agg #[ptr bd]] w fun e w' => ∃ B, e = .returned (.agg #[ptr B]) ∧ w.heap.size ≤ B ∧ Keep P w w' ∧ Ints P w' (upd S B (chopU x * E18)) := by
  have r0 := Hd.mk (Run.start hI)
  have hlo := Hd.mk hI.low
  have hl := hI.lt hx
  clear hI
  have r1 := Hd.mk (r0.out.box #[ptr bd] 71)
  clear r0
  have r2 := Hd.mk (r1.out.box #[.pointer none] 71)
  clear r1
  have r3 := Hd.mk (r2.out.new_int (NewI.of_new _))
  clear r2
  simp only [World.size_alloc] at r3
  have hst := Hd.mk (ISet_any _ (w.heap.size + 1 + 1) bd 0 x _ _ r3.out.ints upd_same (by rw [upd_ne (by omega)]; exact hx) (by omega))
  have hxk := Hd.mk hx
  clear hx
  have hwq : wlen (x.tdiv E18).natAbs < 38 := Nat.lt_of_le_of_lt (wlen_mono (by rw [Int.natAbs_tdiv]; exact Nat.div_le_self _ _)) hw
  have hwz : wlen (chopU x).natAbs < 40 := by
    have h1 : (chopU x).natAbs ≤ x.natAbs + 1 := chopU_bd x
    have h2 : x.natAbs < BB ^ 37 := (wlen_le_iff 37 _).1 (by omega)
    have h3 : BB ^ 37 * 2 ≤ BB ^ 37 * BB := Nat.mul_le_mul_left _ (by decide)
    have h4 : BB ^ 38 = BB ^ 37 * BB := Nat.pow_succ _ _
    exact wl (n := 38) (by omega) (by decide)
  have hwr : wlen (chopU x * E18).natAbs < 800 := by have := inR_wl hr; omega
  have hdef := chopU_dec (x := x)
  generalize chopU x = z at *
  go_enter Tryz.func80, Tryz.ntmps80
  go_wp2_with fail
  refine (hst.out).mono ?_
  rintro e w4 ⟨rfl, hk4, hI4⟩
  have s4 := hk4.size
  try simp only [World.size_alloc] at s4
  have r4 := Hd.mk (r3.out.op hk4 hI4)
  clear hk4 hI4 r3
  go_wp2_with fail
  refine (NewInt_any 0 _ (by decide) (by decide)).mono ?_
  rintro e w5 ⟨B5, rfl, hn5⟩
  have r5 := Hd.mk (r4.out.new_int hn5)
  have g5 := hn5.ge
  have s5 := hn5.bel.size
  try simp only [World.size_alloc] at g5 s5
  have l5 := r5.out.ilt upd_same
  have q5 := Hd.mk hn5.bel
  clear hn5 r4
  go_wp2_with fail
  refine (precisionReuse_any _ r5.out.ok).mono ?_
  rintro e w6 ⟨B6, rfl, hn6⟩
  have r6 := Hd.mk (r5.out.new_int hn6)
  have g6 := hn6.ge
  have s6 := hn6.bel.size
  try simp only [World.size_alloc] at g6 s6
  have l6 := r6.out.ilt upd_same
  have q6 := Hd.mk hn6.bel
  clear hn6 r5
  have hq := Hd.mk (IQuoRem_any _ (w.heap.size + 1 + 1) (w.heap.size + 1 + 1) B6 B5 x x E18 0 _ w6 r6.out.ints (by rw [upd_ne (by omega), upd_ne (by omega), upd_same]) (by rw [upd_ne (by omega), upd_ne (by omega), upd_same]) upd_same (by rw [upd_ne (by omega), upd_same]) (by omega) (divOK18 (by omega)))
  generalize hQ : x.tdiv E18 = Qv at *
  generalize hR : x.tmod E18 = R at *
  replace hQ := Hd.mk hQ
  replace hR := Hd.mk hR
  go_wp2_with fail
  refine (hq.out).mono ?_
  rintro e w7 ⟨rfl, hk7, hI7⟩
  have s7 := hk7.size
  try simp only [World.size_alloc] at s7
  have r7 := Hd.mk (r6.out.op hk7 hI7)
  clear hk7 hI7 r6
  clear hq
  have r8 := Hd.mk (r7.out.box #[.pointer none] 71)
  clear r7
  have hs8 := Sign_any _ B5 R _ _ r8.out.ints upd_same
  have g7 : w.heap.size + 3 ≤ w7.heap.size := by omega
  by_cases hR3 : R ≤ 0
  · rw [if_pos hR3] at hdef
    subst hdef
    by_cases hR0 : R = 0
    · have hd0 : (sgn R == 0) = true := by rw [sgn_0]; exact decide_eq_true hR0
      generalize sgn R = s3' at *
      replace hs8 := Hd.mk hs8
      replace hR0 := Hd.mk hR0
      replace hR3 := Hd.mk hR3
      go_wp2_with fail
      refine hs8.out.mono ?_
      rintro e w' ⟨rfl, rfl⟩
      clear hs8
      go_wp2_with fail
      refine (NewDecBig_any _ (w.heap.size + 1 + 1) z _ _ r8.out.ints (by rw [upd_ne (by omega), upd_same]) hwz).mono ?_
      rintro e w11 ⟨B11, rfl, g11, hk11, hI11⟩
      have s11 := hk11.size
      try simp only [World.size_alloc] at g11 s11
      have r11 := Hd.mk (r8.out.op hk11 hI11)
      have l11 := r11.out.ilt upd_same
      clear hk11 hI11 r8
      have r12 := Hd.mk (r11.out.set1 (b := w7.heap.size) (v := .pointer none) (v' := ptr B11) updX_same)
      obtain ⟨c11, c11z, c11l⟩ := r11.out.cell (b := w7.heap.size) updX_same
      have ha := Hd.mk (assertIn_any _ B11 (z * E18) _ _ r12.out.ints upd_same hwr hr)
      go_wp2_with fail
      refine (ha.out).mono ?_
      rintro e w13 ⟨rfl, hk13, hI13⟩
      have s13 := hk13.size
      try simp only [World.size_alloc] at s13
      have r13 := Hd.mk (r12.out.op hk13 hI13)
      clear hk13 hI13 r12
      obtain ⟨c13, c13z, c13l⟩ := r13.out.cell (b := w7.heap.size) updX_same
      obtain ⟨d13, d13z, d13l⟩ := r13.out.cell (b := (w.heap.size + 1)) (by rw [updX_ne (by omega), updX_ne (by omega), updX_same])
      go_wp2
      have r14 := r13.out.set1 (b := w.heap.size + 1) (v := .pointer none) (v' := ptr B11) (by rw [updX_ne (by omega), updX_ne (by omega), updX_same])
      refine bodyPost_ret (v := .agg #[ptr B11]) (by simp [results, Tryz.results80, go_sem, d13, d13z, d13l]) rfl ⟨_, rfl, by omega, r14.fin.1, r14.fin.2.sub fun k z hk => ?_⟩
      rcases upd_cases hk with ⟨rfl, rfl⟩ | ⟨hne, hk⟩
      · repeat first | exact upd_same | rw [upd_ne (by omega)]
      · have hkl := hlo.out.lt hk
        repeat rw [upd_ne (by first | exact hne | ((try simp only [World.size_alloc]); omega))]
        exact hk
    · have hd0 : (sgn R == 0) = false := by rw [sgn_0]; exact decide_eq_false hR0
      have hd1 : (sgn R == -1) = true := by rw [sgn_m1]; exact decide_eq_true (by omega)
      generalize sgn R = s3' at *
      replace hs8 := Hd.mk hs8
      replace hR0 := Hd.mk hR0
      replace hR3 := Hd.mk hR3
      go_wp2_with fail
      refine hs8.out.mono ?_
      rintro e w' ⟨rfl, rfl⟩
      clear hs8
      go_wp2_with fail
      refine (NewDecBig_any _ (w.heap.size + 1 + 1) z _ _ r8.out.ints (by rw [upd_ne (by omega), upd_same]) hwz).mono ?_
      rintro e w11 ⟨B11, rfl, g11, hk11, hI11⟩
      have s11 := hk11.size
      try simp only [World.size_alloc] at g11 s11
      have r11 := Hd.mk (r8.out.op hk11 hI11)
      have l11 := r11.out.ilt upd_same
      clear hk11 hI11 r8
      have r12 := Hd.mk (r11.out.set1 (b := w7.heap.size) (v := .pointer none) (v' := ptr B11) updX_same)
      obtain ⟨c11, c11z, c11l⟩ := r11.out.cell (b := w7.heap.size) updX_same
      have ha := Hd.mk (assertIn_any _ B11 (z * E18) _ _ r12.out.ints upd_same hwr hr)
      go_wp2_with fail
      refine (ha.out).mono ?_
      rintro e w13 ⟨rfl, hk13, hI13⟩
      have s13 := hk13.size
      try simp only [World.size_alloc] at s13
      have r13 := Hd.mk (r12.out.op hk13 hI13)
      clear hk13 hI13 r12
      obtain ⟨c13, c13z, c13l⟩ := r13.out.cell (b := w7.heap.size) updX_same
      obtain ⟨d13, d13z, d13l⟩ := r13.out.cell (b := (w.heap.size + 1)) (by rw [updX_ne (by omega), updX_ne (by omega), updX_same])
      go_wp2
      have r14 := r13.out.set1 (b := w.heap.size + 1) (v := .pointer none) (v' := ptr B11) (by rw [updX_ne (by omega), updX_ne (by omega), updX_same])
      refine bodyPost_ret (v := .agg #[ptr B11]) (by simp [results, Tryz.results80, go_sem, d13, d13z, d13l]) rfl ⟨_, rfl, by omega, r14.fin.1, r14.fin.2.sub fun k z hk => ?_⟩
      rcases upd_cases hk with ⟨rfl, rfl⟩ | ⟨hne, hk⟩
      · repeat first | exact upd_same | rw [upd_ne (by omega)]
      · have hkl := hlo.out.lt hk
        repeat rw [upd_ne (by first | exact hne | ((try simp only [World.size_alloc]); omega))]
        exact hk
  · rw [if_neg hR3] at hdef
    have hd0 : (sgn R == 0) = false := by rw [sgn_0]; exact decide_eq_false (by omega)
    have hd1 : (sgn R == -1) = false := by rw [sgn_m1]; exact decide_eq_false (by omega)
    generalize sgn R = s3' at *
    replace hs8 := Hd.mk hs8
    replace hR3 := Hd.mk hR3
    go_wp2_with fail
    refine hs8.out.mono ?_
    rintro e w' ⟨rfl, rfl⟩
    clear hs8
    go_wp2_with fail
    refine (oneInt_any _).mono ?_
    rintro e w9 ⟨B9, rfl, hn9⟩
    have r9 := Hd.mk (r8.out.new_int hn9)
    have g9 := hn9.ge
    have s9 := hn9.bel.size
    try simp only [World.size_alloc] at g9 s9
    have l9 := r9.out.ilt upd_same
    have q9 := Hd.mk hn9.bel
    clear hn9 r8
    have hm := IAdd_any _ (w.heap.size + 1 + 1) (w.heap.size + 1 + 1) B9 Qv Qv 1 _ w9 r9.out.ints (by rw [upd_ne (by omega), upd_ne (by omega), upd_same]) (by rw [upd_ne (by omega), upd_ne (by omega), upd_same]) upd_same (by omega) (wl (n := 1) (by decide) (by decide))
    rw [← hdef] at hm
    replace hm := Hd.mk hm
    replace hdef := Hd.mk hdef
    go_wp2_with fail
    refine (hm.out).mono ?_
    rintro e w10 ⟨rfl, hk10, hI10⟩
    have s10 := hk10.size
    try simp only [World.size_alloc] at s10
    have r10 := Hd.mk (r9.out.op hk10 hI10)
    clear hk10 hI10 r9
    go_wp2_with fail
    refine (NewDecBig_any _ (w.heap.size + 1 + 1) z _ _ r10.out.ints upd_same hwz).mono ?_
    rintro e w11 ⟨B11, rfl, g11, hk11, hI11⟩
    have s11 := hk11.size
    try simp only [World.size_alloc] at g11 s11
    have r11 := Hd.mk (r10.out.op hk11 hI11)
    have l11 := r11.out.ilt upd_same
    clear hk11 hI11 r10
    have r12 := Hd.mk (r11.out.set1 (b := w7.heap.size) (v := .pointer none) (v' := ptr B11) updX_same)
    obtain ⟨c11, c11z, c11l⟩ := r11.out.cell (b := w7.heap.size) updX_same
    have ha := Hd.mk (assertIn_any _ B11 (z * E18) _ _ r12.out.ints upd_same hwr hr)
    go_wp2_with fail
    refine (ha.out).mono ?_
    rintro e w13 ⟨rfl, hk13, hI13⟩
    have s13 := hk13.size
    try simp only [World.size_alloc] at s13
    have r13 := Hd.mk (r12.out.op hk13 hI13)
    clear hk13 hI13 r12
    obtain ⟨c13, c13z, c13l⟩ := r13.out.cell (b := w7.heap.size) updX_same
    obtain ⟨d13, d13z, d13l⟩ := r13.out.cell (b := (w.heap.size + 1)) (by rw [updX_ne (by omega), updX_ne (by omega), updX_same])
    go_wp2
    have r14 := r13.out.set1 (b := w.heap.size + 1) (v := .pointer none) (v' := ptr B11) (by rw [updX_ne (by omega), updX_ne (by omega), updX_same])
    refine bodyPost_ret (v := .agg #[ptr B11]) (by simp [results, Tryz.results80, go_sem, d13, d13z, d13l]) rfl ⟨_, rfl, by omega, r14.fin.1, r14.fin.2.sub fun k z hk => ?_⟩
    rcases upd_cases hk with ⟨rfl, rfl⟩ | ⟨hne, hk⟩
    · repeat first | exact upd_same | rw [upd_ne (by omega)]
    · have hkl := hlo.out.lt hk
      repeat rw [upd_ne (by first | exact hne | ((try simp only [World.size_alloc]); omega))]
      exact hk
end Go.Proofs.YtpabbnogfflgpaaGreatDoor
end

section
namespace Go.Proofs.YtpabbnogfflgpaaGreatDoor
open Go.RowKit
set_option maxRecDepth 100000
/-- The boxes of impl.DecOne. -/
abbrev oneW (w : World) (k : Int) (a : ByteArray) (m : Bool) : World := ((((w.alloc (.cells #[.int .i64 k] 3)).alloc (.cells #[.string a] 9)).alloc (.cells #[.bool m] 4)).alloc (.cells #[.string (ByteArray.mk #[])] 9))
theorem oneW_size (w : World) (k : Int) (a : ByteArray) (m : Bool) : (oneW w k a m).heap.size = w.heap.size + 4 := by simp only [World.size_alloc]
theorem oneW_below (w : World) (k : Int) (a : ByteArray) (m : Bool) : Below w.heap.size w (oneW w k a m) :=
  (((((Below.refl _ _).alloc (Nat.le_refl _) _).alloc (by simp only [World.size_alloc]; omega) _).alloc (by simp only [World.size_alloc]; omega) _).alloc (by simp only [World.size_alloc]; omega) _)
theorem oneW_blk (w : World) (k : Int) (a : ByteArray) (m : Bool) : Blk (oneW w k a m) w.heap.size 3 [.int .i64 k] ∧ Blk (oneW w k a m) (w.heap.size + 1) 9 [.string a] ∧ Blk (oneW w k a m) (w.heap.size + 2) 4 [.bool m] ∧ Blk (oneW w k a m) (w.heap.size + 3) 9 [.string (ByteArray.mk #[])] := by
  have h1 := Blk.new w #[.int .i64 k] 3
  have h2 := Blk.new (w.alloc (.cells #[.int .i64 k] 3)) #[.string a] 9
  have h3 := Blk.new ((w.alloc (.cells #[.int .i64 k] 3)).alloc (.cells #[.string a] 9)) #[.bool m] 4
  have h4 := Blk.new (((w.alloc (.cells #[.int .i64 k] 3)).alloc (.cells #[.string a] 9)).alloc (.cells #[.bool m] 4)) #[.string (ByteArray.mk #[])] 9
  simp only [World.size_alloc] at h1 h2 h3 h4
  exact ⟨(((h1.alloc _).alloc _).alloc _), ((h2.alloc _).alloc _), (h3.alloc _), h4⟩
/-- What the closure of impl.DecOne is asked. -/
def oneCl (k : Int) (a : ByteArray) (m : Bool) (R : Ending → World → Nat → Prop) : Prop := ∀ bk ba bm bu w, Ok w → Er w → Blk w bk 3 [.int .i64 k] → Blk w ba 9 [.string a] → Blk w bm 4 [.bool m] → Blk w bu 9 [.string (ByteArray.mk #[])] →
  (bk ≠ bu ∧ ba ≠ bu ∧ bm ≠ bu) → 18 ≤ bu →
  Calls Tryz.prog 75 #[ptr ba, ptr bk, ptr bm, ptr bu] w fun e w' => Keep (fun k => k < w.heap.size ∧ k ≠ bu) w w' ∧ R e w' bu
set_option maxHeartbeats 2000000 in
theorem one_ok (k : Int) (a : ByteArray) (m : Bool) (z : ByteArray) (w : World) (hok : Ok w) (her : Er w) (hcl : oneCl k a m fun e w' bu => e = .returned (.tuple #[]) ∧ Blk w' bu 9 [.string z]) :
    Calls Tryz.prog 29 #[.int .i64 k, .string a, .bool m] w fun e w' => e = .returned (.tuple #[.string z, .bool true]) ∧ Below w.heap.size w w' := by
  obtain ⟨h1, h2, h3, h4⟩ := oneW_blk w k a m
  have hb1 := oneW_below w k a m
  have hs1 := oneW_size w k a m
  have h100 := hok.2
  generalize hW : oneW w k a m = w1 at *
  have hb2 : Below w1.heap.size w1 (okW w1) := (Below.refl _ _).alloc (Nat.le_refl _) _
  have hb3 := hb1.trans (hb2.mono hb1.size)
  have hs2 : (okW w1).heap.size = w1.heap.size + 1 := World.size_alloc _ _
  have hc := hcl w.heap.size (w.heap.size + 1) (w.heap.size + 2) (w.heap.size + 3) (okW w1) (hok.below hb3) (her.below hb3) (h1.alloc _) (h2.alloc _) (h3.alloc _) (h4.alloc _) (by omega) (by omega)
  have hsf := Hd.mk (safe_ok 75 _ w1 (fun w2 => Keep (fun k => k < (okW w1).heap.size ∧ k ≠ (w.heap.size + 3)) (okW w1) w2 ∧ Blk w2 (w.heap.size + 3) 9 [.string z]) (enters Tryz.func75 (by kernel_rfl) (by kernel_rfl)) (hc.mono fun e w2 ⟨q1, q2, q3⟩ => ⟨q2, q1.block _ ⟨by omega, by omega⟩ (by omega), q1, q3⟩))
  have hfin : Hd (∀ w2 w3, Keep (fun k => k < (okW w1).heap.size ∧ k ≠ (w.heap.size + 3)) (okW w1) w2 → Put w2 w3 w1.heap.size 4 [.bool true] → Below w.heap.size w w3) := ⟨fun w2 w3 q1 q2 => q2.bel (hb3.trans ⟨q1.os, q1.tape, q1.output, q1.size, fun k hk => q1.block k ⟨Nat.lt_of_lt_of_le hk hb3.size, by omega⟩ (Nat.lt_of_lt_of_le hk hb3.size)⟩) hb1.size⟩
  have hmf : ∀ (fn : Fn) (first cap : Array Value) (w : World), (Instr.makeFunc fn first cap).run Tryz.prog w = .ok (.func fn first cap) w := fun _ _ _ _ => rfl
  have hne : w.heap.size + 3 ≠ w1.heap.size := by omega
  clear hcl hc h1 h2 h3 h4 hb1 hb2 hb3 hok her
  go_enter Tryz.func29, Tryz.ntmps29
  go_wp2_with fail
  refine hsf.out.mono ?_
  rintro e w3 ⟨rfl, w2, ⟨hc2, hu2⟩, hp3⟩
  have hb3 := Hd.mk (hfin.out w2 w3 hc2 hp3)
  have hu3 := hp3.blk hu2 hne
  have cu : w3.cell? ⟨w.heap.size + 1 + 1 + 1, 0, none⟩ = some (.string z) := hu3.cell 0
  have zu : w3.frozen? ⟨w.heap.size + 1 + 1 + 1, 0, none⟩ = false := hu3.frozen 0
  have lu : w.heap.size + 1 + 1 + 1 < w3.heap.size := hu3.lt
  clear hu3 hu2 hc2 hp3 hsf hfin
  go_wp2
  refine bodyPost_ret (v := .tuple #[.string z, .bool true]) (by simp [results, Tryz.results29, go_sem, cu, zu, lu]) rfl ⟨rfl, ?_⟩
  (repeat first | exact hb3.out | refine Below.setCell ?_ (by dsimp only; omega) _)
set_option maxHeartbeats 2000000 in
theorem one_pan (k : Int) (a : ByteArray) (m : Bool) (w : World) (hok : Ok w) (her : Er w) (hcl : oneCl k a m fun e w' bu => Pan e ∧ ∃ z, Blk w' bu 9 [.string z]) :
    Calls Tryz.prog 29 #[.int .i64 k, .string a, .bool m] w fun e w' => e = .returned (.tuple #[.string (ByteArray.mk #[]), .bool false]) ∧ Below w.heap.size w w' := by
  obtain ⟨h1, h2, h3, h4⟩ := oneW_blk w k a m
  have hb1 := oneW_below w k a m
  have hs1 := oneW_size w k a m
  have h100 := hok.2
  generalize hW : oneW w k a m = w1 at *
  have hb2 : Below w1.heap.size w1 (okW w1) := (Below.refl _ _).alloc (Nat.le_refl _) _
  have hb3 := hb1.trans (hb2.mono hb1.size)
  have hs2 : (okW w1).heap.size = w1.heap.size + 1 := World.size_alloc _ _
  have hc := hcl w.heap.size (w.heap.size + 1) (w.heap.size + 2) (w.heap.size + 3) (okW w1) (hok.below hb3) (her.below hb3) (h1.alloc _) (h2.alloc _) (h3.alloc _) (h4.alloc _) (by omega) (by omega)
  have hsf := Hd.mk (safe_pan 75 _ w1 (fun w2 => Keep (fun k => k < (okW w1).heap.size ∧ k ≠ (w.heap.size + 3)) (okW w1) w2 ∧ ∃ z, Blk w2 (w.heap.size + 3) 9 [.string z]) (enters Tryz.func75 (by kernel_rfl) (by kernel_rfl)) (hc.mono fun e w2 ⟨q1, q2, q3⟩ => ⟨q2, q1.block _ ⟨by omega, by omega⟩ (by omega), q1, q3⟩))
  have hfin : Hd (∀ w2 w3, Keep (fun k => k < (okW w1).heap.size ∧ k ≠ (w.heap.size + 3)) (okW w1) w2 → Put w2 w3 w1.heap.size 4 [.bool false] → Below w.heap.size w w3) := ⟨fun w2 w3 q1 q2 => q2.bel (hb3.trans ⟨q1.os, q1.tape, q1.output, q1.size, fun k hk => q1.block k ⟨Nat.lt_of_lt_of_le hk hb3.size, by omega⟩ (Nat.lt_of_lt_of_le hk hb3.size)⟩) hb1.size⟩
  have hmf : ∀ (fn : Fn) (first cap : Array Value) (w : World), (Instr.makeFunc fn first cap).run Tryz.prog w = .ok (.func fn first cap) w := fun _ _ _ _ => rfl
  have hne : w.heap.size + 3 ≠ w1.heap.size := by omega
  clear hcl hc h1 h2 h3 h4 hb1 hb2 hb3 hok her
  go_enter Tryz.func29, Tryz.ntmps29
  go_wp2_with fail
  refine hsf.out.mono ?_
  rintro e w3 ⟨rfl, w2, ⟨hc2, ⟨z, hu2⟩⟩, hp3⟩
  have hb3 := Hd.mk (hfin.out w2 w3 hc2 hp3)
  have hu3 := hp3.blk hu2 hne
  have cu : w3.cell? ⟨w.heap.size + 1 + 1 + 1, 0, none⟩ = some (.string z) := hu3.cell 0
  have zu : w3.frozen? ⟨w.heap.size + 1 + 1 + 1, 0, none⟩ = false := hu3.frozen 0
  have lu : w.heap.size + 1 + 1 + 1 < w3.heap.size := hu3.lt
  clear hu3 hu2 hc2 hp3 hsf hfin
  go_wp2
  refine bodyPost_ret (v := .tuple #[.string (ByteArray.mk #[]), .bool false]) (by simp [results, Tryz.results29, go_sem, cu, zu, lu]) rfl ⟨rfl, ?_⟩
  (repeat first | exact hb3.out | refine Below.setCell ?_ (by dsimp only; omega) _)
/-- The boxes of impl.DecPower. -/
abbrev powW (w : World) (a : ByteArray) (n : Int) (m : Bool) : World := ((((w.alloc (.cells #[.string a] 9)).alloc (.cells #[.int .u64 n] 45)).alloc (.cells #[.bool m] 4)).alloc (.cells #[.string (ByteArray.mk #[])] 9))
theorem powW_size (w : World) (a : ByteArray) (n : Int) (m : Bool) : (powW w a n m).heap.size = w.heap.size + 4 := by simp only [World.size_alloc]
theorem powW_below (w : World) (a : ByteArray) (n : Int) (m : Bool) : Below w.heap.size w (powW w a n m) :=
  (((((Below.refl _ _).alloc (Nat.le_refl _) _).alloc (by simp only [World.size_alloc]; omega) _).alloc (by simp only [World.size_alloc]; omega) _).alloc (by simp only [World.size_alloc]; omega) _)
theorem powW_blk (w : World) (a : ByteArray) (n : Int) (m : Bool) : Blk (powW w a n m) w.heap.size 9 [.string a] ∧ Blk (powW w a n m) (w.heap.size + 1) 45 [.int .u64 n] ∧ Blk (powW w a n m) (w.heap.size + 2) 4 [.bool m] ∧ Blk (powW w a n m) (w.heap.size + 3) 9 [.string (ByteArray.mk #[])] := by
  have h1 := Blk.new w #[.string a] 9
  have h2 := Blk.new (w.alloc (.cells #[.string a] 9)) #[.int .u64 n] 45
  have h3 := Blk.new ((w.alloc (.cells #[.string a] 9)).alloc (.cells #[.int .u64 n] 45)) #[.bool m] 4
  have h4 := Blk.new (((w.alloc (.cells #[.string a] 9)).alloc (.cells #[.int .u64 n] 45)).alloc (.cells #[.bool m] 4)) #[.string (ByteArray.mk #[])] 9
  simp only [World.size_alloc] at h1 h2 h3 h4
  exact ⟨(((h1.alloc _).alloc _).alloc _), ((h2.alloc _).alloc _), (h3.alloc _), h4⟩
/-- What the closure of impl.DecPower is asked. -/
def powCl (a : ByteArray) (n : Int) (m : Bool) (R : Ending → World → Nat → Prop) : Prop := ∀ ba bn bm bu w, Ok w → Er w → Blk w ba 9 [.string a] → Blk w bn 45 [.int .u64 n] → Blk w bm 4 [.bool m] → Blk w bu 9 [.string (ByteArray.mk #[])] →
  (ba ≠ bu ∧ bn ≠ bu ∧ bm ≠ bu) → 18 ≤ bu →
  Calls Tryz.prog 64 #[ptr bm, ptr ba, ptr bn, ptr bu] w fun e w' => Keep (fun k => k < w.heap.size ∧ k ≠ bu) w w' ∧ R e w' bu
set_option maxHeartbeats 2000000 in
theorem pow_ok (a : ByteArray) (n : Int) (m : Bool) (z : ByteArray) (w : World) (hok : Ok w) (her : Er w) (hcl : powCl a n m fun e w' bu => e = .returned (.tuple #[]) ∧ Blk w' bu 9 [.string z]) :
    Calls Tryz.prog 22 #[.string a, .int .u64 n, .bool m] w fun e w' => e = .returned (.tuple #[.string z, .bool true]) ∧ Below w.heap.size w w' := by
  obtain ⟨h1, h2, h3, h4⟩ := powW_blk w a n m
  have hb1 := powW_below w a n m
  have hs1 := powW_size w a n m
  have h100 := hok.2
  generalize hW : powW w a n m = w1 at *
  have hb2 : Below w1.heap.size w1 (okW w1) := (Below.refl _ _).alloc (Nat.le_refl _) _
  have hb3 := hb1.trans (hb2.mono hb1.size)
  have hs2 : (okW w1).heap.size = w1.heap.size + 1 := World.size_alloc _ _
  have hc := hcl w.heap.size (w.heap.size + 1) (w.heap.size + 2) (w.heap.size + 3) (okW w1) (hok.below hb3) (her.below hb3) (h1.alloc _) (h2.alloc _) (h3.alloc _) (h4.alloc _) (by omega) (by omega)
  have hsf := Hd.mk (safe_ok 64 _ w1 (fun w2 => Keep (fun k => k < (okW w1).heap.size ∧ k ≠ (w.heap.size + 3)) (okW w1) w2 ∧ Blk w2 (w.heap.size + 3) 9 [.string z]) (enters Tryz.func64 (by kernel_rfl) (by kernel_rfl)) (hc.mono fun e w2 ⟨q1, q2, q3⟩ => ⟨q2, q1.block _ ⟨by omega, by omega⟩ (by omega), q1, q3⟩))
  have hfin : Hd (∀ w2 w3, Keep (fun k => k < (okW w1).heap.size ∧ k ≠ (w.heap.size + 3)) (okW w1) w2 → Put w2 w3 w1.heap.size 4 [.bool true] → Below w.heap.size w w3) := ⟨fun w2 w3 q1 q2 => q2.bel (hb3.trans ⟨q1.os, q1.tape, q1.output, q1.size, fun k hk => q1.block k ⟨Nat.lt_of_lt_of_le hk hb3.size, by omega⟩ (Nat.lt_of_lt_of_le hk hb3.size)⟩) hb1.size⟩
  have hmf : ∀ (fn : Fn) (first cap : Array Value) (w : World), (Instr.makeFunc fn first cap).run Tryz.prog w = .ok (.func fn first cap) w := fun _ _ _ _ => rfl
  have hne : w.heap.size + 3 ≠ w1.heap.size := by omega
  clear hcl hc h1 h2 h3 h4 hb1 hb2 hb3 hok her
  go_enter Tryz.func22, Tryz.ntmps22
  go_wp2_with fail
  refine hsf.out.mono ?_
  rintro e w3 ⟨rfl, w2, ⟨hc2, hu2⟩, hp3⟩
  have hb3 := Hd.mk (hfin.out w2 w3 hc2 hp3)
  have hu3 := hp3.blk hu2 hne
  have cu : w3.cell? ⟨w.heap.size + 1 + 1 + 1, 0, none⟩ = some (.string z) := hu3.cell 0
  have zu : w3.frozen? ⟨w.heap.size + 1 + 1 + 1, 0, none⟩ = false := hu3.frozen 0
  have lu : w.heap.size + 1 + 1 + 1 < w3.heap.size := hu3.lt
  clear hu3 hu2 hc2 hp3 hsf hfin
  go_wp2
  refine bodyPost_ret (v := .tuple #[.string z, .bool true]) (by simp [results, Tryz.results22, go_sem, cu, zu, lu]) rfl ⟨rfl, ?_⟩
  (repeat first | exact hb3.out | refine Below.setCell ?_ (by dsimp only; omega) _)
set_option maxHeartbeats 2000000 in
theorem pow_pan (a : ByteArray) (n : Int) (m : Bool) (w : World) (hok : Ok w) (her : Er w) (hcl : powCl a n m fun e w' bu => Pan e ∧ ∃ z, Blk w' bu 9 [.string z]) :
    Calls Tryz.prog 22 #[.string a, .int .u64 n, .bool m] w fun e w' => e = .returned (.tuple #[.string (ByteArray.mk #[]), .bool false]) ∧ Below w.heap.size w w' := by
  obtain ⟨h1, h2, h3, h4⟩ := powW_blk w a n m
  have hb1 := powW_below w a n m
  have hs1 := powW_size w a n m
  have h100 := hok.2
  generalize hW : powW w a n m = w1 at *
  have hb2 : Below w1.heap.size w1 (okW w1) := (Below.refl _ _).alloc (Nat.le_refl _) _
  have hb3 := hb1.trans (hb2.mono hb1.size)
  have hs2 : (okW w1).heap.size = w1.heap.size + 1 := World.size_alloc _ _
  have hc := hcl w.heap.size (w.heap.size + 1) (w.heap.size + 2) (w.heap.size + 3) (okW w1) (hok.below hb3) (her.below hb3) (h1.alloc _) (h2.alloc _) (h3.alloc _) (h4.alloc _) (by omega) (by omega)
  have hsf := Hd.mk (safe_pan 64 _ w1 (fun w2 => Keep (fun k => k < (okW w1).heap.size ∧ k ≠ (w.heap.size + 3)) (okW w1) w2 ∧ ∃ z, Blk w2 (w.heap.size + 3) 9 [.string z]) (enters Tryz.func64 (by kernel_rfl) (by kernel_rfl)) (hc.mono fun e w2 ⟨q1, q2, q3⟩ => ⟨q2, q1.block _ ⟨by omega, by omega⟩ (by omega), q1, q3⟩))
  have hfin : Hd (∀ w2 w3, Keep (fun k => k < (okW w1).heap.size ∧ k ≠ (w.heap.size + 3)) (okW w1) w2 → Put w2 w3 w1.heap.size 4 [.bool false] → Below w.heap.size w w3) := ⟨fun w2 w3 q1 q2 => q2.bel (hb3.trans ⟨q1.os, q1.tape, q1.output, q1.size, fun k hk => q1.block k ⟨Nat.lt_of_lt_of_le hk hb3.size, by omega⟩ (Nat.lt_of_lt_of_le hk hb3.size)⟩) hb1.size⟩
  have hmf : ∀ (fn : Fn) (first cap : Array Value) (w : World), (Instr.makeFunc fn first cap).run Tryz.prog w = .ok (.func fn first cap) w := fun _ _ _ _ => rfl
  have hne : w.heap.size + 3 ≠ w1.heap.size := by omega
  clear hcl hc h1 h2 h3 h4 hb1 hb2 hb3 hok her
  go_enter Tryz.func22, Tryz.ntmps22
  go_wp2_with fail
  refine hsf.out.mono ?_
  rintro e w3 ⟨rfl, w2, ⟨hc2, ⟨z, hu2⟩⟩, hp3⟩
  have hb3 := Hd.mk (hfin.out w2 w3 hc2 hp3)
  have hu3 := hp3.blk hu2 hne
  have cu : w3.cell? ⟨w.heap.size + 1 + 1 + 1, 0, none⟩ = some (.string z) := hu3.cell 0
  have zu : w3.frozen? ⟨w.heap.size + 1 + 1 + 1, 0, none⟩ = false := hu3.frozen 0
  have lu : w.heap.size + 1 + 1 + 1 < w3.heap.size := hu3.lt
  clear hu3 hu2 hc2 hp3 hsf hfin
  go_wp2
  refine bodyPost_ret (v := .tuple #[.string (ByteArray.mk #[]), .bool false]) (by simp [results, Tryz.results22, go_sem, cu, zu, lu]) rfl ⟨rfl, ?_⟩
  (repeat first | exact hb3.out | refine Below.setCell ?_ (by dsimp only; omega) _)
/-- The boxes of impl.DecMake. -/
abbrev makW (w : World) (k : Int) (s : ByteArray) (p : Int) : World := ((((w.alloc (.cells #[.int .i64 k] 3)).alloc (.cells #[.string s] 9)).alloc (.cells #[.int .i64 p] 2)).alloc (.cells #[.string (ByteArray.mk #[])] 9))
theorem makW_size (w : World) (k : Int) (s : ByteArray) (p : Int) : (makW w k s p).heap.size = w.heap.size + 4 := by simp only [World.size_alloc]
theorem makW_below (w : World) (k : Int) (s : ByteArray) (p : Int) : Below w.heap.size w (makW w k s p) :=
  (((((Below.refl _ _).alloc (Nat.le_refl _) _).alloc (by simp only [World.size_alloc]; omega) _).alloc (by simp only [World.size_alloc]; omega) _).alloc (by simp only [World.size_alloc]; omega) _)
theorem makW_blk (w : World) (k : Int) (s : ByteArray) (p : Int) : Blk (makW w k s p) w.heap.size 3 [.int .i64 k] ∧ Blk (makW w k s p) (w.heap.size + 1) 9 [.string s] ∧ Blk (makW w k s p) (w.heap.size + 2) 2 [.int .i64 p] ∧ Blk (makW w k s p) (w.heap.size + 3) 9 [.string (ByteArray.mk #[])] := by
  have h1 := Blk.new w #[.int .i64 k] 3
  have h2 := Blk.new (w.alloc (.cells #[.int .i64 k] 3)) #[.string s] 9
  have h3 := Blk.new ((w.alloc (.cells #[.int .i64 k] 3)).alloc (.cells #[.string s] 9)) #[.int .i64 p] 2
  have h4 := Blk.new (((w.alloc (.cells #[.int .i64 k] 3)).alloc (.cells #[.string s] 9)).alloc (.cells #[.int .i64 p] 2)) #[.string (ByteArray.mk #[])] 9
  simp only [World.size_alloc] at h1 h2 h3 h4
  exact ⟨(((h1.alloc _).alloc _).alloc _), ((h2.alloc _).alloc _), (h3.alloc _), h4⟩
/-- What the closure of impl.DecMake is asked. -/
def makCl (k : Int) (s : ByteArray) (p : Int) (R : Ending → World → Nat → Prop) : Prop := ∀ bk bs bp bu w, Ok w → Er w → Blk w bk 3 [.int .i64 k] → Blk w bs 9 [.string s] → Blk w bp 2 [.int .i64 p] → Blk w bu 9 [.string (ByteArray.mk #[])] →
  (bk ≠ bu ∧ bs ≠ bu ∧ bp ≠ bu) → 18 ≤ bu →
  Calls Tryz.prog 39 #[ptr bk, ptr bs, ptr bp, ptr bu] w fun e w' => Keep (fun k => k < w.heap.size ∧ k ≠ bu) w w' ∧ R e w' bu
set_option maxHeartbeats 2000000 in
theorem mak_ok (k : Int) (s : ByteArray) (p : Int) (z : ByteArray) (w : World) (hok : Ok w) (her : Er w) (hcl : makCl k s p fun e w' bu => e = .returned (.tuple #[]) ∧ Blk w' bu 9 [.string z]) :
    Calls Tryz.prog 14 #[.int .i64 k, .string s, .int .i64 p] w fun e w' => e = .returned (.tuple #[.string z, .bool true]) ∧ Below w.heap.size w w' := by
  obtain ⟨h1, h2, h3, h4⟩ := makW_blk w k s p
  have hb1 := makW_below w k s p
  have hs1 := makW_size w k s p
  have h100 := hok.2
  generalize hW : makW w k s p = w1 at *
  have hb2 : Below w1.heap.size w1 (okW w1) := (Below.refl _ _).alloc (Nat.le_refl _) _
  have hb3 := hb1.trans (hb2.mono hb1.size)
  have hs2 : (okW w1).heap.size = w1.heap.size + 1 := World.size_alloc _ _
  have hc := hcl w.heap.size (w.heap.size + 1) (w.heap.size + 2) (w.heap.size + 3) (okW w1) (hok.below hb3) (her.below hb3) (h1.alloc _) (h2.alloc _) (h3.alloc _) (h4.alloc _) (by omega) (by omega)
  have hsf := Hd.mk (safe_ok 39 _ w1 (fun w2 => Keep (fun k => k < (okW w1).heap.size ∧ k ≠ (w.heap.size + 3)) (okW w1) w2 ∧ Blk w2 (w.heap.size + 3) 9 [.string z]) (enters Tryz.func39 (by kernel_rfl) (by kernel_rfl)) (hc.mono fun e w2 ⟨q1, q2, q3⟩ => ⟨q2, q1.block _ ⟨by omega, by omega⟩ (by omega), q1, q3⟩))
  have hfin : Hd (∀ w2 w3, Keep (fun k => k < (okW w1).heap.size ∧ k ≠ (w.heap.size + 3)) (okW w1) w2 → Put w2 w3 w1.heap.size 4 [.bool true] → Below w.heap.size w w3) := ⟨fun w2 w3 q1 q2 => q2.bel (hb3.trans ⟨q1.os, q1.tape, q1.output, q1.size, fun k hk => q1.block k ⟨Nat.lt_of_lt_of_le hk hb3.size, by omega⟩ (Nat.lt_of_lt_of_le hk hb3.size)⟩) hb1.size⟩
  have hmf : ∀ (fn : Fn) (first cap : Array Value) (w : World), (Instr.makeFunc fn first cap).run Tryz.prog w = .ok (.func fn first cap) w := fun _ _ _ _ => rfl
  have hne : w.heap.size + 3 ≠ w1.heap.size := by omega
  clear hcl hc h1 h2 h3 h4 hb1 hb2 hb3 hok her
  go_enter Tryz.func14, Tryz.ntmps14
  go_wp2_with fail
  refine hsf.out.mono ?_
  rintro e w3 ⟨rfl, w2, ⟨hc2, hu2⟩, hp3⟩
  have hb3 := Hd.mk (hfin.out w2 w3 hc2 hp3)
  have hu3 := hp3.blk hu2 hne
  have cu : w3.cell? ⟨w.heap.size + 1 + 1 + 1, 0, none⟩ = some (.string z) := hu3.cell 0
  have zu : w3.frozen? ⟨w.heap.size + 1 + 1 + 1, 0, none⟩ = false := hu3.frozen 0
  have lu : w.heap.size + 1 + 1 + 1 < w3.heap.size := hu3.lt
  clear hu3 hu2 hc2 hp3 hsf hfin
  go_wp2
  refine bodyPost_ret (v := .tuple #[.string z, .bool true]) (by simp [results, Tryz.results14, go_sem, cu, zu, lu]) rfl ⟨rfl, ?_⟩
  (repeat first | exact hb3.out | refine Below.setCell ?_ (by dsimp only; omega) _)
set_option maxHeartbeats 2000000 in
theorem mak_pan (k : Int) (s : ByteArray) (p : Int) (w : World) (hok : Ok w) (her : Er w) (hcl : makCl k s p fun e w' bu => Pan e ∧ ∃ z, Blk w' bu 9 [.string z]) :
    Calls Tryz.prog 14 #[.int .i64 k, .string s, .int .i64 p] w fun e w' => e = .returned (.tuple #[.string (ByteArray.mk #[]), .bool false]) ∧ Below w.heap.size w w' := by
  obtain ⟨h1, h2, h3, h4⟩ := makW_blk w k s p
  have hb1 := makW_below w k s p
  have hs1 := makW_size w k s p
  have h100 := hok.2
  generalize hW : makW w k s p = w1 at *
  have hb2 : Below w1.heap.size w1 (okW w1) := (Below.refl _ _).alloc (Nat.le_refl _) _
  have hb3 := hb1.trans (hb2.mono hb1.size)
  have hs2 : (okW w1).heap.size = w1.heap.size + 1 := World.size_alloc _ _
  have hc := hcl w.heap.size (w.heap.size + 1) (w.heap.size + 2) (w.heap.size + 3) (okW w1) (hok.below hb3) (her.below hb3) (h1.alloc _) (h2.alloc _) (h3.alloc _) (h4.alloc _) (by omega) (by omega)
  have hsf := Hd.mk (safe_pan 39 _ w1 (fun w2 => Keep (fun k => k < (okW w1).heap.size ∧ k ≠ (w.heap.size + 3)) (okW w1) w2 ∧ ∃ z, Blk w2 (w.heap.size + 3) 9 [.string z]) (enters Tryz.func39 (by kernel_rfl) (by kernel_rfl)) (hc.mono fun e w2 ⟨q1, q2, q3⟩ => ⟨q2, q1.block _ ⟨by omega, by omega⟩ (by omega), q1, q3⟩))
  have hfin : Hd (∀ w2 w3, Keep (fun k => k < (okW w1).heap.size ∧ k ≠ (w.heap.size + 3)) (okW w1) w2 → Put w2 w3 w1.heap.size 4 [.bool false] → Below w.heap.size w w3) := ⟨fun w2 w3 q1 q2 => q2.bel (hb3.trans ⟨q1.os, q1.tape, q1.output, q1.size, fun k hk => q1.block k ⟨Nat.lt_of_lt_of_le hk hb3.size, by omega⟩ (Nat.lt_of_lt_of_le hk hb3.size)⟩) hb1.size⟩
  have hmf : ∀ (fn : Fn) (first cap : Array Value) (w : World), (Instr.makeFunc fn first cap).run Tryz.prog w = .ok (.func fn first cap) w := fun _ _ _ _ => rfl
  have hne : w.heap.size + 3 ≠ w1.heap.size := by omega
  clear hcl hc h1 h2 h3 h4 hb1 hb2 hb3 hok her
  go_enter Tryz.func14, Tryz.ntmps14
  go_wp2_with fail
  refine hsf.out.mono ?_
  rintro e w3 ⟨rfl, w2, ⟨hc2, ⟨z, hu2⟩⟩, hp3⟩
  have hb3 := Hd.mk (hfin.out w2 w3 hc2 hp3)
  have hu3 := hp3.blk hu2 hne
  have cu : w3.cell? ⟨w.heap.size + 1 + 1 + 1, 0, none⟩ = some (.string z) := hu3.cell 0
  have zu : w3.frozen? ⟨w.heap.size + 1 + 1 + 1, 0, none⟩ = false := hu3.frozen 0
  have lu : w.heap.size + 1 + 1 + 1 < w3.heap.size := hu3.lt
  clear hu3 hu2 hc2 hp3 hsf hfin
  go_wp2
  refine bodyPost_ret (v := .tuple #[.string (ByteArray.mk #[]), .bool false]) (by simp [results, Tryz.results14, go_sem, cu, zu, lu]) rfl ⟨rfl, ?_⟩
  (repeat first | exact hb3.out | refine Below.setCell ?_ (by dsimp only; omega) _)
end Go.Proofs.YtpabbnogfflgpaaGreatDoor
end
