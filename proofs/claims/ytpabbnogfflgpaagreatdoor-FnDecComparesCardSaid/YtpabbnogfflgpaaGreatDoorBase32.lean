/- Decimals: products. Conditions: those that each theorem states. -/
import Derived.Deep.DeepCutAuto
import Derived.Test.YtpabbnogfflgpaaGreatDoorBase13
import Derived.Test.YtpabbnogfflgpaaGreatDoorBase25
set_option linter.all false

namespace Go.Proofs.YtpabbnogfflgpaaGreatDoor
open Go.RowKit
set_option maxRecDepth 100000
set_option maxHeartbeats 2000000 in
theorem chopU_any (P : Nat → Prop) (bd : Nat) (x : Int) (S : Nat → Option Int) (w : World) (hI : Ints P w S) (hx : S bd = some x) (hw : wlen x.natAbs < 40) :
    Calls Tryz.prog 158 #[ptr bd] w fun e w' => (∃ B, e = .returned (ptr B)) ∧ Keep P w w' ∧ Ints P w' (upd S bd (chopU x)) := by
  have r0 := Hd.mk (Run.start hI)
  have hlo := Hd.mk hI.low
  have hl := hI.lt hx
  have hsg := Hd.mk (Sign_any P bd x S w hI hx)
  have hsd : (sgn x == -1) = decide (x < 0) := sgn_m1
  generalize sgn x = sg at *
  clear hI
  have hxk := Hd.mk hx
  clear hx
  by_cases hn : x < 0
  · rw [decide_eq_true hn] at hsd
    have hfin : chopU x = -((-x).tdiv E18) := by unfold chopU; rw [if_pos hn, tdiv18 (by omega)]
    have hwn : wlen (-x).natAbs < 40 := by rw [Int.natAbs_neg]; exact hw
    have hwq : wlen ((-x).tdiv E18).natAbs < 40 := Nat.lt_of_le_of_lt (wlen_mono (by rw [Int.natAbs_tdiv]; exact Nat.div_le_self _ _)) hwn
    have hm1 := Hd.mk (INeg_any _ bd bd x x _ w r0.out.ints hxk.out hxk.out (by omega))
    have hm2 := Hd.mk fun (Q : Nat → Prop) S1 w1 (h : Ints Q w1 S1) (h1 : S1 bd = some (-x)) => chopT_any Q bd (-x) S1 w1 h h1 (by omega)
    have hm3 := Hd.mk fun (Q : Nat → Prop) S1 w1 (h : Ints Q w1 S1) (h1 : S1 bd = some ((-x).tdiv E18)) => INeg_any Q bd bd _ _ S1 w1 h h1 h1 (by omega)
    rw [← hfin] at hm3
    clear hfin hwn hwq hn
    generalize chopU x = z at *
    generalize (-x).tdiv E18 = zn at *
    generalize -x = xn at *
    go_enter Tryz.func158, Tryz.ntmps158
    go_wp2_with fail
    refine hsg.out.mono ?_
    rintro e w' ⟨rfl, rfl⟩
    go_wp2_with fail
    refine (hm1.out).mono ?_
    rintro e w1 ⟨rfl, hk1, hI1⟩
    have s1 := hk1.size
    try simp only [World.size_alloc] at s1
    have r1 := Hd.mk (r0.out.op hk1 hI1)
    clear hk1 hI1 r0
    go_wp2_with fail
    refine (hm2.out _ _ _ r1.out.ints upd_same).mono ?_
    rintro e w2 ⟨rfl, hk2, hI2⟩
    have s2 := hk2.size
    try simp only [World.size_alloc] at s2
    have r2 := Hd.mk (r1.out.op hk2 hI2)
    clear hk2 hI2 r1
    go_wp2_with fail
    refine (hm3.out _ _ _ r2.out.ints upd_same).mono ?_
    rintro e w3 ⟨rfl, hk3, hI3⟩
    have s3 := hk3.size
    try simp only [World.size_alloc] at s3
    have r3 := Hd.mk (r2.out.op hk3 hI3)
    clear hk3 hI3 r2
    go_wp2
    go_ret
    refine ⟨⟨_, rfl⟩, r3.out.fin.1, r3.out.fin.2.sub fun k z' hk => ?_⟩
    rw [upd_upd2, upd_upd2]
    exact hk
  · rw [decide_eq_false hn] at hsd
    have h0 : 0 ≤ x := by omega
    have hr0 : 0 ≤ x % E18 := Int.emod_nonneg _ (by decide)
    have hrl : x % E18 < 1000000000000000000 := Int.emod_lt_of_pos _ (by decide)
    have hwd := wl_div h0 hw
    have hdef : chopU x = if x % E18 = 0 then x / E18 else x / E18 + 1 := by unfold chopU; rw [if_neg hn]
    have e1 := tdiv18 h0
    have e2 := tmod18 h0
    go_enter Tryz.func158, Tryz.ntmps158
    go_wp2_with fail
    refine hsg.out.mono ?_
    rintro e w' ⟨rfl, rfl⟩
    clear hsg
    go_wp2_with fail
    refine (NewInt_any 0 _ (by decide) (by decide)).mono ?_
    rintro e w1 ⟨B1, rfl, hn1⟩
    have r1 := Hd.mk (r0.out.new_int hn1)
    have g1 := hn1.ge
    have s1 := hn1.bel.size
    try simp only [World.size_alloc] at g1 s1
    have l1 := r1.out.ilt upd_same
    have q1 := Hd.mk hn1.bel
    clear hn1 r0
    go_wp2_with fail
    refine (precisionReuse_any _ r1.out.ok).mono ?_
    rintro e w2 ⟨B2, rfl, hn2⟩
    have r2 := Hd.mk (r1.out.new_int hn2)
    have g2 := hn2.ge
    have s2 := hn2.bel.size
    try simp only [World.size_alloc] at g2 s2
    have l2 := r2.out.ilt upd_same
    have q2 := Hd.mk hn2.bel
    clear hn2 r1
    have hq := Hd.mk (IQuoRem_any _ bd bd B2 B1 x x E18 0 _ w2 r2.out.ints (by rw [upd_ne (by omega), upd_ne (by omega)]; exact hxk.out) (by rw [upd_ne (by omega), upd_ne (by omega)]; exact hxk.out) upd_same (by rw [upd_ne (by omega), upd_same]) (by omega) (divOK18 (by omega)))
    rw [e1, e2] at hq
    clear e1 e2
    generalize hR : x % E18 = R at *
    generalize hQ : x / E18 = Qv at *
    replace hR := Hd.mk hR
    replace hQ := Hd.mk hQ
    replace hdef := Hd.mk hdef
    go_wp2_with fail
    refine (hq.out).mono ?_
    rintro e w3 ⟨rfl, hk3, hI3⟩
    have s3 := hk3.size
    try simp only [World.size_alloc] at s3
    have r3 := Hd.mk (r2.out.op hk3 hI3)
    clear hk3 hI3 r2
    clear hq
    have hs3 := Sign_any _ B1 R _ w3 r3.out.ints upd_same
    by_cases hR0 : R = 0
    · have hd3 : (sgn R == 0) = true := by rw [sgn_0]; exact decide_eq_true hR0
      have hfin : chopU x = Qv := by rw [hdef.out, if_pos (by omega)]
      generalize sgn R = s3' at *
      replace hR0 := Hd.mk hR0
      replace hs3 := Hd.mk hs3
      replace hfin := Hd.mk hfin
      go_wp2_with fail
      refine hs3.out.mono ?_
      rintro e w' ⟨rfl, rfl⟩
      go_wp2
      go_ret
      rw [hfin.out]
      refine ⟨⟨_, rfl⟩, r3.out.fin.1, r3.out.fin.2.sub fun k z hk => ?_⟩
      rcases upd_cases hk with ⟨rfl, rfl⟩ | ⟨hne, hk⟩
      · repeat first | exact upd_same | rw [upd_ne (by omega)]
      · have hkl := hlo.out.lt hk
        repeat rw [upd_ne (by first | exact hne | ((try simp only [World.size_alloc]); omega))]
        exact hk
    · have hd3 : (sgn R == 0) = false := by rw [sgn_0]; exact decide_eq_false hR0
      have hfin : chopU x = Qv + 1 := by rw [hdef.out, if_neg hR0]
      generalize sgn R = s3' at *
      replace hs3 := Hd.mk hs3
      replace hfin := Hd.mk hfin
      replace hR0 := Hd.mk hR0
      go_wp2_with fail
      refine hs3.out.mono ?_
      rintro e w' ⟨rfl, rfl⟩
      clear hs3
      go_wp2_with fail
      refine (oneInt_any _).mono ?_
      rintro e w6 ⟨B6, rfl, hn6⟩
      have r6 := Hd.mk (r3.out.new_int hn6)
      have g6 := hn6.ge
      have s6 := hn6.bel.size
      try simp only [World.size_alloc] at g6 s6
      have l6 := r6.out.ilt upd_same
      have q6 := Hd.mk hn6.bel
      clear hn6 r3
      have hm := Hd.mk (IAdd_any _ bd bd B6 Qv Qv 1 _ w6 r6.out.ints (by rw [upd_ne (by omega), upd_ne (by omega), upd_same]) (by rw [upd_ne (by omega), upd_ne (by omega), upd_same]) upd_same (by omega) (wl (n := 1) (by decide) (by decide)))
      go_wp2_with fail
      refine (hm.out).mono ?_
      rintro e w7 ⟨rfl, hk7, hI7⟩
      have s7 := hk7.size
      try simp only [World.size_alloc] at s7
      have r7 := Hd.mk (r6.out.op hk7 hI7)
      clear hk7 hI7 r6
      go_wp2
      go_ret
      rw [hfin.out]
      refine ⟨⟨_, rfl⟩, r7.out.fin.1, r7.out.fin.2.sub fun k z hk => ?_⟩
      rcases upd_cases hk with ⟨rfl, rfl⟩ | ⟨hne, hk⟩
      · repeat first | exact upd_same | rw [upd_ne (by omega)]
      · have hkl := hlo.out.lt hk
        repeat rw [upd_ne (by first | exact hne | ((try simp only [World.size_alloc]); omega))]
        exact hk
theorem wl_mul {x y : Int} (hx : wlen x.natAbs < 12) (hy : wlen y.natAbs < 12) : wlen (x * y).natAbs < 40 := by
  have h1 : x.natAbs < BB ^ 11 := (wlen_le_iff 11 _).1 (by omega)
  have h2 : y.natAbs < BB ^ 11 := (wlen_le_iff 11 _).1 (by omega)
  have h3 : (x * y).natAbs < BB ^ 22 := by
    rw [Int.natAbs_mul, show BB ^ 22 = BB ^ 11 * BB ^ 11 from Nat.pow_add _ 11 11]
    exact Nat.mul_lt_mul'' h1 h2
  have := wlen_le h3
  omega
theorem chopP_bd {x : Int} (h : 0 ≤ x) : 0 ≤ chopP x ∧ chopP x ≤ x + 1 := by
  unfold chopP E18
  split
  · omega
  · split
    · omega
    · split <;> omega
theorem wl_near {x z : Int} (hx : wlen x.natAbs < 40) (h : z.natAbs ≤ x.natAbs + 1) : wlen z.natAbs < 800 := by
  have h1 : x.natAbs < BB ^ 39 := (wlen_le_iff 39 _).1 (by omega)
  have h2 : z.natAbs < BB ^ 40 := by
    have : BB ^ 39 * 2 ≤ BB ^ 39 * BB := Nat.mul_le_mul_left _ (by decide)
    rw [Nat.pow_succ]; omega
  exact Nat.lt_of_le_of_lt (wlen_le h2) (by decide)
theorem chopR_bd (x : Int) : (chopR x).natAbs ≤ x.natAbs + 1 := by
  unfold chopR
  split
  · have := chopP_bd (x := -x) (by omega); omega
  · have := chopP_bd (x := x) (by omega); omega
theorem chopU_bd (x : Int) : (chopU x).natAbs ≤ x.natAbs + 1 := by
  unfold chopU
  split
  · unfold E18; omega
  · unfold E18; split <;> omega
theorem tdiv_bd (x : Int) : (x.tdiv E18).natAbs ≤ x.natAbs + 1 := by
  have : (x.tdiv E18).natAbs ≤ x.natAbs := by rw [Int.natAbs_tdiv]; exact Nat.div_le_self _ _
  omega
theorem Put.same {w w' : World} {b : Nat} {E : TypeId} {xs : List Value} (hb : Blk w b E xs) (h : Put w w' b E xs) : Below w.heap.size w w' :=
  ⟨h.os, h.tape, h.output, Nat.le_of_eq h.size.symm, fun k _ => if e : k = b then (by subst e; exact h.here.trans hb.symm) else h.other k e⟩
set_option maxHeartbeats 4000000 in
theorem MulTruncateMut_ok (P : Nat → Prop) (bd be : Nat) (x y : Int) (S : Nat → Option Int) (w : World) (hI : Ints P w S) (hx : S bd = some x) (hy : S be = some y) (hwx : wlen x.natAbs < 12) (hwy : wlen y.natAbs < 12) (hr : inR ((x * y).tdiv E18) = true) :
    Calls Tryz.prog 96 #[.agg #[ptr bd], .agg #[ptr be]] w fun e w' => e = .returned (.agg #[ptr bd]) ∧ Keep P w w' ∧ Ints P w' (upd S bd ((x * y).tdiv E18)) := by
  have r0 := Hd.mk (Run.start hI)
  have hlo := Hd.mk hI.low
  have hl := hI.lt hx
  have hle := hI.lt hy
  clear hI
  have r1 := Hd.mk (r0.out.box #[ptr bd] 71)
  clear r0
  have r2 := Hd.mk (r1.out.box #[ptr be] 71)
  clear r1
  have r3 := Hd.mk (r2.out.box #[.pointer none] 71)
  clear r2
  simp only [World.size_alloc] at r3
  have hm := Hd.mk (IMul_any _ bd bd be x x y _ _ r3.out.ints hx hx hy (by omega) (by omega) (fun _ => hwx))
  have hwm := wl_mul hwx hwy
  have hwz := wl_near hwm (tdiv_bd (x * y))
  replace hx := Hd.mk hx
  replace hy := Hd.mk hy
  generalize hzz : (x * y).tdiv E18 = z at *
  have hch := Hd.mk fun (Q : Nat → Prop) S1 w1 (h : Ints Q w1 S1) (h1 : S1 bd = some (x * y)) => chopT_any Q bd (x * y) S1 w1 h h1 (by omega)
  rw [hzz] at hch
  replace hzz := Hd.mk hzz
  generalize x * y = p at *
  go_enter Tryz.func96, Tryz.ntmps96
  go_wp2_with fail
  refine (hm.out).mono ?_
  rintro e w4 ⟨rfl, hk4, hI4⟩
  have s4 := hk4.size
  try simp only [World.size_alloc] at s4
  have r4 := Hd.mk (r3.out.op hk4 hI4)
  clear hk4 hI4 r3
  obtain ⟨c4, c4z, c4l⟩ := r4.out.cell (b := w.heap.size) (by rw [updX_ne (by omega), updX_ne (by omega), updX_same])
  go_wp2_with fail
  refine (hch.out _ _ _ r4.out.ints upd_same).mono ?_
  rintro e w5 ⟨rfl, hk5, hI5⟩
  have s5 := hk5.size
  try simp only [World.size_alloc] at s5
  have r5 := Hd.mk (r4.out.op hk5 hI5)
  clear hk5 hI5 r4 c4 c4z c4l
  have e5 := upd_upd2 (S := S) (B := bd) (a := p) (b := z)
  rw [e5] at r5
  clear e5
  obtain ⟨c5, c5z, c5l⟩ := r5.out.cell (b := w.heap.size) (by rw [updX_ne (by omega), updX_ne (by omega), updX_same])
  have ha := Hd.mk (assertIn_any _ bd z _ w5 r5.out.ints upd_same hwz hr)
  go_wp2_with fail
  refine (ha.out).mono ?_
  rintro e w6 ⟨rfl, hk6, hI6⟩
  have s6 := hk6.size
  try simp only [World.size_alloc] at s6
  have r6 := Hd.mk (r5.out.op hk6 hI6)
  clear hk6 hI6 r5
  obtain ⟨c6, c6z, c6l⟩ := r6.out.cell (b := w.heap.size) (by rw [updX_ne (by omega), updX_ne (by omega), updX_same])
  obtain ⟨e6, e6z, e6l⟩ := r6.out.cell (b := (w.heap.size + 1 + 1)) updX_same
  go_wp2
  have r9 := r6.out.store updX_same (put1 (r6.out.bx _ _ _ updX_same) (v' := ptr bd))
  refine bodyPost_ret (v := .agg #[ptr bd]) (by simp [results, Tryz.results96, go_sem, e6, e6z, e6l]) rfl ⟨rfl, r9.fin.1, r9.fin.2.sub fun k z' hk => ?_⟩
  first | exact hk | (rw [hzz.out] at hk; exact hk)
set_option maxHeartbeats 4000000 in
theorem MulTruncateMut_pan (P : Nat → Prop) (bd be : Nat) (x y : Int) (S : Nat → Option Int) (w : World) (hI : Ints P w S) (hx : S bd = some x) (hy : S be = some y) (hwx : wlen x.natAbs < 12) (hwy : wlen y.natAbs < 12) (hr : inR ((x * y).tdiv E18) = false) :
    Calls Tryz.prog 96 #[.agg #[ptr bd], .agg #[ptr be]] w fun e w' => Pan e ∧ Keep P w w' := by
  have r0 := Hd.mk (Run.start hI)
  have hlo := Hd.mk hI.low
  have hl := hI.lt hx
  have hle := hI.lt hy
  clear hI
  have r1 := Hd.mk (r0.out.box #[ptr bd] 71)
  clear r0
  have r2 := Hd.mk (r1.out.box #[ptr be] 71)
  clear r1
  have r3 := Hd.mk (r2.out.box #[.pointer none] 71)
  clear r2
  simp only [World.size_alloc] at r3
  have hm := Hd.mk (IMul_any _ bd bd be x x y _ _ r3.out.ints hx hx hy (by omega) (by omega) (fun _ => hwx))
  have hwm := wl_mul hwx hwy
  have hwz := wl_near hwm (tdiv_bd (x * y))
  replace hx := Hd.mk hx
  replace hy := Hd.mk hy
  generalize hzz : (x * y).tdiv E18 = z at *
  have hch := Hd.mk fun (Q : Nat → Prop) S1 w1 (h : Ints Q w1 S1) (h1 : S1 bd = some (x * y)) => chopT_any Q bd (x * y) S1 w1 h h1 (by omega)
  rw [hzz] at hch
  replace hzz := Hd.mk hzz
  generalize x * y = p at *
  go_enter Tryz.func96, Tryz.ntmps96
  go_wp2_with fail
  refine (hm.out).mono ?_
  rintro e w4 ⟨rfl, hk4, hI4⟩
  have s4 := hk4.size
  try simp only [World.size_alloc] at s4
  have r4 := Hd.mk (r3.out.op hk4 hI4)
  clear hk4 hI4 r3
  obtain ⟨c4, c4z, c4l⟩ := r4.out.cell (b := w.heap.size) (by rw [updX_ne (by omega), updX_ne (by omega), updX_same])
  go_wp2_with fail
  refine (hch.out _ _ _ r4.out.ints upd_same).mono ?_
  rintro e w5 ⟨rfl, hk5, hI5⟩
  have s5 := hk5.size
  try simp only [World.size_alloc] at s5
  have r5 := Hd.mk (r4.out.op hk5 hI5)
  clear hk5 hI5 r4 c4 c4z c4l
  have e5 := upd_upd2 (S := S) (B := bd) (a := p) (b := z)
  rw [e5] at r5
  clear e5
  obtain ⟨c5, c5z, c5l⟩ := r5.out.cell (b := w.heap.size) (by rw [updX_ne (by omega), updX_ne (by omega), updX_same])
  have ha := Hd.mk (assertOut_any _ bd z _ w5 r5.out.ints upd_same hwz hr)
  go_wp2_with fail
  refine ha.out.mono ?_
  rintro e w9 ⟨⟨u9, v9, rfl⟩, hk9⟩
  have hf := Hd.mk (r5.out.keep.trans (hk9.sub fun k hk => .inl hk))
  clear hk9
  first | exact ⟨⟨_, _, rfl⟩, hf.out⟩ | exact ⟨rfl, ⟨_, _, rfl⟩, hf.out⟩ | (go_wp2; exact ⟨rfl, ⟨_, _, rfl⟩, hf.out⟩)
set_option maxHeartbeats 4000000 in
theorem MulRoundUpMut_ok (P : Nat → Prop) (bd be : Nat) (x y : Int) (S : Nat → Option Int) (w : World) (hI : Ints P w S) (hx : S bd = some x) (hy : S be = some y) (hwx : wlen x.natAbs < 12) (hwy : wlen y.natAbs < 12) (hr : inR (chopU (x * y)) = true) :
    Calls Tryz.prog 98 #[.agg #[ptr bd], .agg #[ptr be]] w fun e w' => e = .returned (.agg #[ptr bd]) ∧ Keep P w w' ∧ Ints P w' (upd S bd (chopU (x * y))) := by
  have r0 := Hd.mk (Run.start hI)
  have hlo := Hd.mk hI.low
  have hl := hI.lt hx
  have hle := hI.lt hy
  clear hI
  have r1 := Hd.mk (r0.out.box #[ptr bd] 71)
  clear r0
  have r2 := Hd.mk (r1.out.box #[ptr be] 71)
  clear r1
  have r3 := Hd.mk (r2.out.box #[.pointer none] 71)
  clear r2
  simp only [World.size_alloc] at r3
  have hm := Hd.mk (IMul_any _ bd bd be x x y _ _ r3.out.ints hx hx hy (by omega) (by omega) (fun _ => hwx))
  have hwm := wl_mul hwx hwy
  have hwz := wl_near hwm (chopU_bd (x * y))
  replace hx := Hd.mk hx
  replace hy := Hd.mk hy
  generalize hzz : chopU (x * y) = z at *
  have hch := Hd.mk fun (Q : Nat → Prop) S1 w1 (h : Ints Q w1 S1) (h1 : S1 bd = some (x * y)) => chopU_any Q bd (x * y) S1 w1 h h1 (by omega)
  rw [hzz] at hch
  replace hzz := Hd.mk hzz
  generalize x * y = p at *
  go_enter Tryz.func98, Tryz.ntmps98
  go_wp2_with fail
  refine (hm.out).mono ?_
  rintro e w4 ⟨rfl, hk4, hI4⟩
  have s4 := hk4.size
  try simp only [World.size_alloc] at s4
  have r4 := Hd.mk (r3.out.op hk4 hI4)
  clear hk4 hI4 r3
  obtain ⟨c4, c4z, c4l⟩ := r4.out.cell (b := w.heap.size) (by rw [updX_ne (by omega), updX_ne (by omega), updX_same])
  go_wp2_with fail
  refine (hch.out _ _ _ r4.out.ints upd_same).mono ?_
  rintro e w5 ⟨⟨B5, rfl⟩, hk5, hI5⟩
  have s5 := hk5.size
  try simp only [World.size_alloc] at s5
  have r5 := Hd.mk (r4.out.op hk5 hI5)
  clear hk5 hI5 r4 c4 c4z c4l
  have e5 := upd_upd2 (S := S) (B := bd) (a := p) (b := z)
  rw [e5] at r5
  clear e5
  obtain ⟨c5, c5z, c5l⟩ := r5.out.cell (b := w.heap.size) (by rw [updX_ne (by omega), updX_ne (by omega), updX_same])
  have ha := Hd.mk (assertIn_any _ bd z _ w5 r5.out.ints upd_same hwz hr)
  go_wp2_with fail
  refine (ha.out).mono ?_
  rintro e w6 ⟨rfl, hk6, hI6⟩
  have s6 := hk6.size
  try simp only [World.size_alloc] at s6
  have r6 := Hd.mk (r5.out.op hk6 hI6)
  clear hk6 hI6 r5
  obtain ⟨c6, c6z, c6l⟩ := r6.out.cell (b := w.heap.size) (by rw [updX_ne (by omega), updX_ne (by omega), updX_same])
  obtain ⟨e6, e6z, e6l⟩ := r6.out.cell (b := (w.heap.size + 1 + 1)) updX_same
  go_wp2
  have r9 := r6.out.store updX_same (put1 (r6.out.bx _ _ _ updX_same) (v' := ptr bd))
  refine bodyPost_ret (v := .agg #[ptr bd]) (by simp [results, Tryz.results98, go_sem, e6, e6z, e6l]) rfl ⟨rfl, r9.fin.1, r9.fin.2.sub fun k z' hk => ?_⟩
  first | exact hk | (rw [hzz.out] at hk; exact hk)
set_option maxHeartbeats 4000000 in
theorem MulRoundUpMut_pan (P : Nat → Prop) (bd be : Nat) (x y : Int) (S : Nat → Option Int) (w : World) (hI : Ints P w S) (hx : S bd = some x) (hy : S be = some y) (hwx : wlen x.natAbs < 12) (hwy : wlen y.natAbs < 12) (hr : inR (chopU (x * y)) = false) :
    Calls Tryz.prog 98 #[.agg #[ptr bd], .agg #[ptr be]] w fun e w' => Pan e ∧ Keep P w w' := by
  have r0 := Hd.mk (Run.start hI)
  have hlo := Hd.mk hI.low
  have hl := hI.lt hx
  have hle := hI.lt hy
  clear hI
  have r1 := Hd.mk (r0.out.box #[ptr bd] 71)
  clear r0
  have r2 := Hd.mk (r1.out.box #[ptr be] 71)
  clear r1
  have r3 := Hd.mk (r2.out.box #[.pointer none] 71)
  clear r2
  simp only [World.size_alloc] at r3
  have hm := Hd.mk (IMul_any _ bd bd be x x y _ _ r3.out.ints hx hx hy (by omega) (by omega) (fun _ => hwx))
  have hwm := wl_mul hwx hwy
  have hwz := wl_near hwm (chopU_bd (x * y))
  replace hx := Hd.mk hx
  replace hy := Hd.mk hy
  generalize hzz : chopU (x * y) = z at *
  have hch := Hd.mk fun (Q : Nat → Prop) S1 w1 (h : Ints Q w1 S1) (h1 : S1 bd = some (x * y)) => chopU_any Q bd (x * y) S1 w1 h h1 (by omega)
  rw [hzz] at hch
  replace hzz := Hd.mk hzz
  generalize x * y = p at *
  go_enter Tryz.func98, Tryz.ntmps98
  go_wp2_with fail
  refine (hm.out).mono ?_
  rintro e w4 ⟨rfl, hk4, hI4⟩
  have s4 := hk4.size
  try simp only [World.size_alloc] at s4
  have r4 := Hd.mk (r3.out.op hk4 hI4)
  clear hk4 hI4 r3
  obtain ⟨c4, c4z, c4l⟩ := r4.out.cell (b := w.heap.size) (by rw [updX_ne (by omega), updX_ne (by omega), updX_same])
  go_wp2_with fail
  refine (hch.out _ _ _ r4.out.ints upd_same).mono ?_
  rintro e w5 ⟨⟨B5, rfl⟩, hk5, hI5⟩
  have s5 := hk5.size
  try simp only [World.size_alloc] at s5
  have r5 := Hd.mk (r4.out.op hk5 hI5)
  clear hk5 hI5 r4 c4 c4z c4l
  have e5 := upd_upd2 (S := S) (B := bd) (a := p) (b := z)
  rw [e5] at r5
  clear e5
  obtain ⟨c5, c5z, c5l⟩ := r5.out.cell (b := w.heap.size) (by rw [updX_ne (by omega), updX_ne (by omega), updX_same])
  have ha := Hd.mk (assertOut_any _ bd z _ w5 r5.out.ints upd_same hwz hr)
  go_wp2_with fail
  refine ha.out.mono ?_
  rintro e w9 ⟨⟨u9, v9, rfl⟩, hk9⟩
  have hf := Hd.mk (r5.out.keep.trans (hk9.sub fun k hk => .inl hk))
  clear hk9
  first | exact ⟨⟨_, _, rfl⟩, hf.out⟩ | exact ⟨rfl, ⟨_, _, rfl⟩, hf.out⟩ | (go_wp2; exact ⟨rfl, ⟨_, _, rfl⟩, hf.out⟩)
set_option maxHeartbeats 4000000 in
theorem MulMut_ok (P : Nat → Prop) (bd be : Nat) (x y : Int) (S : Nat → Option Int) (w : World) (hI : Ints P w S) (hx : S bd = some x) (hy : S be = some y) (hwx : wlen x.natAbs < 12) (hwy : wlen y.natAbs < 12) (hr : inR (chopR (x * y)) = true) :
    Calls Tryz.prog 94 #[.agg #[ptr bd], .agg #[ptr be]] w fun e w' => e = .returned (.agg #[ptr bd]) ∧ Keep P w w' ∧ Ints P w' (upd S bd (chopR (x * y))) := by
  have r0 := Hd.mk (Run.start hI)
  have hlo := Hd.mk hI.low
  have hl := hI.lt hx
  have hle := hI.lt hy
  clear hI
  have r1 := Hd.mk (r0.out.box #[ptr bd] 71)
  clear r0
  have r2 := Hd.mk (r1.out.box #[ptr be] 71)
  clear r1
  have r3 := Hd.mk (r2.out.box #[.pointer none] 71)
  clear r2
  simp only [World.size_alloc] at r3
  have hm := Hd.mk (IMul_any _ bd bd be x x y _ _ r3.out.ints hx hx hy (by omega) (by omega) (fun _ => hwx))
  have hwm := wl_mul hwx hwy
  have hwz := wl_near hwm (chopR_bd (x * y))
  replace hx := Hd.mk hx
  replace hy := Hd.mk hy
  generalize hzz : chopR (x * y) = z at *
  have hch := Hd.mk fun (Q : Nat → Prop) S1 w1 (h : Ints Q w1 S1) (h1 : S1 bd = some (x * y)) => chopR_any Q bd (x * y) S1 w1 h h1 (by omega)
  rw [hzz] at hch
  replace hzz := Hd.mk hzz
  generalize x * y = p at *
  go_enter Tryz.func94, Tryz.ntmps94
  go_wp2_with fail
  refine (hm.out).mono ?_
  rintro e w4 ⟨rfl, hk4, hI4⟩
  have s4 := hk4.size
  try simp only [World.size_alloc] at s4
  have r4 := Hd.mk (r3.out.op hk4 hI4)
  clear hk4 hI4 r3
  obtain ⟨c4, c4z, c4l⟩ := r4.out.cell (b := w.heap.size) (by rw [updX_ne (by omega), updX_ne (by omega), updX_same])
  go_wp2_with fail
  refine (hch.out _ _ _ r4.out.ints upd_same).mono ?_
  rintro e w5 ⟨rfl, hk5, hI5⟩
  have s5 := hk5.size
  try simp only [World.size_alloc] at s5
  have r5 := Hd.mk (r4.out.op hk5 hI5)
  clear hk5 hI5 r4 c4 c4z c4l
  have e5 := upd_upd2 (S := S) (B := bd) (a := p) (b := z)
  rw [e5] at r5
  clear e5
  obtain ⟨c5, c5z, c5l⟩ := r5.out.cell (b := w.heap.size) (by rw [updX_ne (by omega), updX_ne (by omega), updX_same])
  obtain ⟨own5, hst5⟩ := r5.out.ints
  obtain ⟨v5, hbk5, hns5⟩ := hst5.at_ bd z upd_same
  obtain ⟨A5, cap5, rfl, -⟩ := hns5
  have k50 := hbk5.cell 0
  have k51 := hbk5.cell 1
  simp only [List.getElem?_cons_succ, List.getElem?_cons_zero] at k50 k51
  have k5z := hbk5.frozen 0
  have k5y := hbk5.frozen 1
  have k5l := hbk5.lt
  replace hbk5 := Hd.mk hbk5

  replace hst5 := Hd.mk hst5
  go_upto_region 3 with fail
  go_cut [] (fun wx => Hd (Below w5.heap.size w5 wx))
  case first =>
    go_region
    all_goals
      go_wp2_with fail
      go_meet
      first
        | exact ⟨Put.same hbk5.out (((Put.refl hbk5.out).set 0 _).set 1 _)⟩
        | exact ⟨below_drew' (Put.same hbk5.out (((Put.refl hbk5.out).set 0 _).set 1 _))⟩
  case rest =>
  have r5' := Hd.mk (r5.out.below hcut.out)
  have s5' := Nat.le_trans s5 hcut.out.size
  clear s5 r5 hcut k50 k51 k5z k5y k5l hbk5 hst5 c5 c5z c5l w5
  have r5 := r5'
  have s5 := s5'
  clear r5' s5'
  generalize wc = w5 at *
  obtain ⟨c5, c5z, c5l⟩ := r5.out.cell (b := w.heap.size) (by rw [updX_ne (by omega), updX_ne (by omega), updX_same])
  have ha := Hd.mk (assertIn_any _ bd z _ w5 r5.out.ints upd_same hwz hr)
  go_wp2_with fail
  refine (ha.out).mono ?_
  rintro e w6 ⟨rfl, hk6, hI6⟩
  have s6 := hk6.size
  try simp only [World.size_alloc] at s6
  have r6 := Hd.mk (r5.out.op hk6 hI6)
  clear hk6 hI6 r5
  obtain ⟨c6, c6z, c6l⟩ := r6.out.cell (b := w.heap.size) (by rw [updX_ne (by omega), updX_ne (by omega), updX_same])
  obtain ⟨e6, e6z, e6l⟩ := r6.out.cell (b := (w.heap.size + 1 + 1)) updX_same
  go_wp2
  have r9 := r6.out.store updX_same (put1 (r6.out.bx _ _ _ updX_same) (v' := ptr bd))
  refine bodyPost_ret (v := .agg #[ptr bd]) (by simp [results, Tryz.results94, go_sem, e6, e6z, e6l]) rfl ⟨rfl, r9.fin.1, r9.fin.2.sub fun k z' hk => ?_⟩
  first | exact hk | (rw [hzz.out] at hk; exact hk)
set_option maxHeartbeats 4000000 in
theorem MulMut_pan (P : Nat → Prop) (bd be : Nat) (x y : Int) (S : Nat → Option Int) (w : World) (hI : Ints P w S) (hx : S bd = some x) (hy : S be = some y) (hwx : wlen x.natAbs < 12) (hwy : wlen y.natAbs < 12) (hr : inR (chopR (x * y)) = false) :
    Calls Tryz.prog 94 #[.agg #[ptr bd], .agg #[ptr be]] w fun e w' => Pan e ∧ Keep P w w' := by
  have r0 := Hd.mk (Run.start hI)
  have hlo := Hd.mk hI.low
  have hl := hI.lt hx
  have hle := hI.lt hy
  clear hI
  have r1 := Hd.mk (r0.out.box #[ptr bd] 71)
  clear r0
  have r2 := Hd.mk (r1.out.box #[ptr be] 71)
  clear r1
  have r3 := Hd.mk (r2.out.box #[.pointer none] 71)
  clear r2
  simp only [World.size_alloc] at r3
  have hm := Hd.mk (IMul_any _ bd bd be x x y _ _ r3.out.ints hx hx hy (by omega) (by omega) (fun _ => hwx))
  have hwm := wl_mul hwx hwy
  have hwz := wl_near hwm (chopR_bd (x * y))
  replace hx := Hd.mk hx
  replace hy := Hd.mk hy
  generalize hzz : chopR (x * y) = z at *
  have hch := Hd.mk fun (Q : Nat → Prop) S1 w1 (h : Ints Q w1 S1) (h1 : S1 bd = some (x * y)) => chopR_any Q bd (x * y) S1 w1 h h1 (by omega)
  rw [hzz] at hch
  replace hzz := Hd.mk hzz
  generalize x * y = p at *
  go_enter Tryz.func94, Tryz.ntmps94
  go_wp2_with fail
  refine (hm.out).mono ?_
  rintro e w4 ⟨rfl, hk4, hI4⟩
  have s4 := hk4.size
  try simp only [World.size_alloc] at s4
  have r4 := Hd.mk (r3.out.op hk4 hI4)
  clear hk4 hI4 r3
  obtain ⟨c4, c4z, c4l⟩ := r4.out.cell (b := w.heap.size) (by rw [updX_ne (by omega), updX_ne (by omega), updX_same])
  go_wp2_with fail
  refine (hch.out _ _ _ r4.out.ints upd_same).mono ?_
  rintro e w5 ⟨rfl, hk5, hI5⟩
  have s5 := hk5.size
  try simp only [World.size_alloc] at s5
  have r5 := Hd.mk (r4.out.op hk5 hI5)
  clear hk5 hI5 r4 c4 c4z c4l
  have e5 := upd_upd2 (S := S) (B := bd) (a := p) (b := z)
  rw [e5] at r5
  clear e5
  obtain ⟨c5, c5z, c5l⟩ := r5.out.cell (b := w.heap.size) (by rw [updX_ne (by omega), updX_ne (by omega), updX_same])
  obtain ⟨own5, hst5⟩ := r5.out.ints
  obtain ⟨v5, hbk5, hns5⟩ := hst5.at_ bd z upd_same
  obtain ⟨A5, cap5, rfl, -⟩ := hns5
  have k50 := hbk5.cell 0
  have k51 := hbk5.cell 1
  simp only [List.getElem?_cons_succ, List.getElem?_cons_zero] at k50 k51
  have k5z := hbk5.frozen 0
  have k5y := hbk5.frozen 1
  have k5l := hbk5.lt
  replace hbk5 := Hd.mk hbk5

  replace hst5 := Hd.mk hst5
  go_upto_region 3 with fail
  go_cut [] (fun wx => Hd (Below w5.heap.size w5 wx))
  case first =>
    go_region
    all_goals
      go_wp2_with fail
      go_meet
      first
        | exact ⟨Put.same hbk5.out (((Put.refl hbk5.out).set 0 _).set 1 _)⟩
        | exact ⟨below_drew' (Put.same hbk5.out (((Put.refl hbk5.out).set 0 _).set 1 _))⟩
  case rest =>
  have r5' := Hd.mk (r5.out.below hcut.out)
  have s5' := Nat.le_trans s5 hcut.out.size
  clear s5 r5 hcut k50 k51 k5z k5y k5l hbk5 hst5 c5 c5z c5l w5
  have r5 := r5'
  have s5 := s5'
  clear r5' s5'
  generalize wc = w5 at *
  obtain ⟨c5, c5z, c5l⟩ := r5.out.cell (b := w.heap.size) (by rw [updX_ne (by omega), updX_ne (by omega), updX_same])
  have ha := Hd.mk (assertOut_any _ bd z _ w5 r5.out.ints upd_same hwz hr)
  go_wp2_with fail
  refine ha.out.mono ?_
  rintro e w9 ⟨⟨u9, v9, rfl⟩, hk9⟩
  have hf := Hd.mk (r5.out.keep.trans (hk9.sub fun k hk => .inl hk))
  clear hk9
  first | exact ⟨⟨_, _, rfl⟩, hf.out⟩ | exact ⟨rfl, ⟨_, _, rfl⟩, hf.out⟩ | (go_wp2; exact ⟨rfl, ⟨_, _, rfl⟩, hf.out⟩)
end Go.Proofs.YtpabbnogfflgpaaGreatDoor
