/- Decimals: rounding and cutting of the places. Decimals: rounding, cutting, asking. Decimals: sums and differences, products. Conditions: those that each theorem states. -/
import Derived.Test.YtdbjdpooggaonaaGreatDoorBase12
import Derived.Test.YtdbjdpooggaonaaGreatDoorBase11
set_option linter.all false

section
namespace Go.Proofs.YtdbjdpooggaonaaGreatDoor
open Go.RowKit
set_option maxRecDepth 100000
theorem dig0_mod (a : Nat) : dig a 0 % 2 = a % 2 := by
  unfold dig BB; simp
set_option maxHeartbeats 400000 in
theorem IBit0_any (P : Nat → Prop) (bd : Nat) (x : Int) (S : Nat → Option Int) (w : World) (hI : Ints P w S) (hx : S bd = some x) :
    Calls Tryz.prog 225 #[ptr bd, .int .i64 0] w fun e w' => e = .returned (.int .u64 ((x.natAbs % 2 : Nat) : Int)) ∧ w = w' := by
  obtain ⟨own, hst⟩ := hI
  obtain ⟨A, cap, hb, hn, g0, g1, h3, h4⟩ := (hst.at_ bd x hx).open
  by_cases h0 : wlen x.natAbs = 0
  · have hx0 : x.natAbs = 0 := wlen_eq_zero.1 h0
    have hd : decide (0 < wlen x.natAbs) = false := by rw [h0]; rfl
    have hr := Hd.mk hx0
    replace hn := Hd.mk hn
    replace hb := Hd.mk hb
    replace h0 := Hd.mk h0
    replace hx0 := Hd.mk hx0
    replace hst := Hd.mk hst
    go_enter Tryz.func225, Tryz.ntmps225
    go_wp2
    go_ret
    exact ⟨by rw [hr.out]; rfl, rfl⟩
  · have hd : decide (0 < wlen x.natAbs) = true := decide_eq_true (by omega)
    obtain ⟨K, xs, hv, ho, h5, h6, h7, h8⟩ := hn.pos (fun h => h0 (wlen_eq_zero.2 h))
    cases hv
    have k1 := h8 0 (by omega)
    simp only [Nat.add_zero] at k1
    have e4 := and_one (dig_lt x.natAbs 0)
    rw [dig0_mod] at e4
    generalize dig x.natAbs 0 = t at *
    replace hn := Hd.mk hn
    replace hb := Hd.mk hb
    replace hst := Hd.mk hst
    replace h7 := Hd.mk h7
    replace h8 := Hd.mk h8
    replace ho := Hd.mk ho
    have hpos : (0 : Int) < (wlen x.natAbs : Int) := by omega
    go_enter Tryz.func225, Tryz.ntmps225
    go_wp2
    go_ret
    exact ⟨rfl, rfl⟩
abbrev E18 : Int := 1000000000000000000
/-- x without its places, rounded to the nearest, of two to the even one, for x from 0 on. -/
def chopP (x : Int) : Int := if x % E18 < 500000000000000000 then x / E18 else if 500000000000000000 < x % E18 then x / E18 + 1 else if x / E18 % 2 = 0 then x / E18 else x / E18 + 1
def chopR (x : Int) : Int := if x < 0 then -chopP (-x) else chopP x
/-- The same, taken up. -/
def chopU (x : Int) : Int := if x < 0 then -(-x / E18) else if x % E18 = 0 then x / E18 else x / E18 + 1
theorem E18_wl : wlen (Int.natAbs E18) = 1 := w18_1
theorem divOK18 {x : Int} (h : wlen x.natAbs < 800) : DivOK x.natAbs (Int.natAbs E18) := ⟨by decide, h, .inl E18_wl⟩
theorem tdiv18 {x : Int} (h : 0 ≤ x) : x.tdiv E18 = x / E18 := Int.tdiv_eq_ediv_of_nonneg h
theorem tmod18 {x : Int} (h : 0 ≤ x) : x.tmod E18 = x % E18 := Int.tmod_eq_emod_of_nonneg h
theorem sgn_m1 {z : Int} : (sgn z == -1) = decide (z < 0) := by
  unfold sgn; by_cases h : z < 0 <;> by_cases h2 : z = 0 <;> simp [h, h2]
theorem sgn_0 {z : Int} : (sgn z == 0) = decide (z = 0) := by
  unfold sgn; by_cases h : z < 0 <;> by_cases h2 : z = 0 <;> simp [h, h2]
theorem sgn_1 {z : Int} : (sgn z == 1) = decide (0 < z) := by
  unfold sgn; by_cases h : z < 0 <;> by_cases h2 : z = 0 <;> simp [h, h2] <;> omega
theorem wl_div {x : Int} (h : 0 ≤ x) {k : Nat} (hw : wlen x.natAbs < k) : wlen (x / E18).natAbs < k := Nat.lt_of_le_of_lt (wlen_mono (by
  have : 0 ≤ x / E18 := Int.ediv_nonneg h (by decide)
  have : x / E18 ≤ x := Int.ediv_le_self _ h
  omega)) hw
set_option maxHeartbeats 4000000 in
theorem chopPos_any (P : Nat → Prop) (bd : Nat) (x : Int) (S : Nat → Option Int) (w : World) (hI : Ints P w S) (hx : S bd = some x) (hw : wlen x.natAbs < 40) (h0 : 0 ≤ x) :
    Calls Tryz.prog 185 #[ptr bd] w fun e w' => e = .returned (ptr bd) ∧ Keep P w w' ∧ Ints P w' (upd S bd (chopP x)) := by
  have r0 := Hd.mk (Run.start hI)
  have hlo := Hd.mk hI.low
  have hl := hI.lt hx
  have hsg := Hd.mk (Sign_any P bd x S w hI hx)
  have hd1 : (sgn x == -1) = false := by rw [sgn_m1]; exact decide_eq_false (by omega)
  generalize sgn x = sg at *
  clear hI
  have hxk := Hd.mk hx
  clear hx
  have hr0 : 0 ≤ x % E18 := Int.emod_nonneg _ (by decide)
  have hrl : x % E18 < 1000000000000000000 := Int.emod_lt_of_pos _ (by decide)
  have hwd := wl_div h0 hw
  have hdn : 0 ≤ x / E18 := Int.ediv_nonneg h0 (by decide)
  have hdef : chopP x = if x % E18 < 500000000000000000 then x / E18 else if 500000000000000000 < x % E18 then x / E18 + 1 else if x / E18 % 2 = 0 then x / E18 else x / E18 + 1 := rfl
  have e1 := tdiv18 h0
  have e2 := tmod18 h0
  go_enter Tryz.func185, Tryz.ntmps185
  go_wp2_with fail
  refine hsg.out.mono ?_
  rintro e w' ⟨rfl, rfl⟩
  clear hsg
  go_wp2_with fail
  refine (NewInt_any 0 _ (by decide) (by decide)).mono ?_
  rintro e w1 ⟨B1, rfl, hn1⟩
  have r1 := Hd.mk (r0.out.new_int hn1)
  have g1 := hn1.ge
  have s1 := hn1.bel.size
  try simp only [World.size_alloc] at g1 s1
  have l1 := r1.out.ilt upd_same
  have q1 := Hd.mk hn1.bel
  clear hn1 r0
  go_wp2_with fail
  refine (precisionReuse_any _ r1.out.ok).mono ?_
  rintro e w2 ⟨B2, rfl, hn2⟩
  have r2 := Hd.mk (r1.out.new_int hn2)
  have g2 := hn2.ge
  have s2 := hn2.bel.size
  try simp only [World.size_alloc] at g2 s2
  have l2 := r2.out.ilt upd_same
  have q2 := Hd.mk hn2.bel
  clear hn2 r1
  have hq := Hd.mk (IQuoRem_any _ bd bd B2 B1 x x E18 0 _ w2 r2.out.ints (by rw [upd_ne (by omega), upd_ne (by omega)]; exact hxk.out) (by rw [upd_ne (by omega), upd_ne (by omega)]; exact hxk.out) upd_same (by rw [upd_ne (by omega), upd_same]) (by omega) (divOK18 (by omega)))
  rw [e1, e2] at hq
  clear e1 e2
  generalize hR : x % E18 = R at *
  generalize hQ : x / E18 = Qv at *
  replace hR := Hd.mk hR
  replace hQ := Hd.mk hQ
  replace hdef := Hd.mk hdef
  go_wp2_with fail
  refine (hq.out).mono ?_
  rintro e w3 ⟨rfl, hk3, hI3⟩
  have s3 := hk3.size
  try simp only [World.size_alloc] at s3
  have r3 := Hd.mk (r2.out.op hk3 hI3)
  clear hk3 hI3 r2
  clear hq
  have hs3 := Sign_any _ B1 R _ w3 r3.out.ints upd_same
  by_cases hR0 : R = 0
  · have hd3 : (sgn R == 0) = true := by rw [sgn_0]; exact decide_eq_true hR0
    have hfin : chopP x = Qv := by rw [hdef.out, if_pos (by omega)]
    generalize sgn R = s3' at *
    replace hR0 := Hd.mk hR0
    replace hs3 := Hd.mk hs3
    replace hfin := Hd.mk hfin
    go_wp2_with fail
    refine hs3.out.mono ?_
    rintro e w' ⟨rfl, rfl⟩
    go_wp2
    go_ret
    rw [hfin.out]
    refine ⟨rfl, r3.out.fin.1, r3.out.fin.2.sub fun k z hk => ?_⟩
    rcases upd_cases hk with ⟨rfl, rfl⟩ | ⟨hne, hk⟩
    · repeat first | exact upd_same | rw [upd_ne (by omega)]
    · have hkl := hlo.out.lt hk
      repeat rw [upd_ne (by first | exact hne | ((try simp only [World.size_alloc]); omega))]
      exact hk
  · have hd3 : (sgn R == 0) = false := by rw [sgn_0]; exact decide_eq_false hR0
    generalize sgn R = s3' at *
    replace hs3 := Hd.mk hs3
    go_wp2_with fail
    refine hs3.out.mono ?_
    rintro e w' ⟨rfl, rfl⟩
    clear hs3
    go_wp2_with fail
    refine (fivePrec_any _ r3.out.ok).mono ?_
    rintro e w4 ⟨B4, rfl, hn4⟩
    have r4 := Hd.mk (r3.out.new_int hn4)
    have g4 := hn4.ge
    have s4 := hn4.bel.size
    try simp only [World.size_alloc] at g4 s4
    have l4 := r4.out.ilt upd_same
    have q4 := Hd.mk hn4.bel
    clear hn4 r3
    have hc4 := Hd.mk (ICmp_any _ B1 B4 R 500000000000000000 _ w4 r4.out.ints (by rw [upd_ne (by omega), upd_same]) upd_same (wl (n := 1) (by unfold BB; omega) (by decide)))
    by_cases hlt : R < 500000000000000000
    · have hfin : chopP x = Qv := by rw [hdef.out, if_pos hlt]
      rw [cmpI_lt hlt] at hc4
      replace hfin := Hd.mk hfin
      go_wp2_with fail
      refine hc4.out.mono ?_
      rintro e w5 ⟨rfl, q5, rfl⟩
      have r5 := Hd.mk (r4.out.drewN q5)
      go_wp2
      go_ret
      rw [hfin.out]
      refine ⟨rfl, r5.out.fin.1, r5.out.fin.2.sub fun k z hk => ?_⟩
      rcases upd_cases hk with ⟨rfl, rfl⟩ | ⟨hne, hk⟩
      · repeat first | exact upd_same | rw [upd_ne (by omega)]
      · have hkl := hlo.out.lt hk
        repeat rw [upd_ne (by first | exact hne | ((try simp only [World.size_alloc]); omega))]
        exact hk
    · by_cases hgt : 500000000000000000 < R
      · have hfin : chopP x = Qv + 1 := by rw [hdef.out, if_neg hlt, if_pos hgt]
        rw [cmpI_gt hgt] at hc4
        replace hfin := Hd.mk hfin
        go_wp2_with fail
        refine hc4.out.mono ?_
        rintro e w5 ⟨rfl, q5, rfl⟩
        have r5 := Hd.mk (r4.out.drewN q5)
        clear r4
        go_wp2_with fail
        refine (oneInt_any _).mono ?_
        rintro e w6 ⟨B6, rfl, hn6⟩
        have r6 := Hd.mk (r5.out.new_int hn6)
        have g6 : w4.heap.size ≤ B6 := hn6.ge
        have l6 := r6.out.ilt upd_same
        clear hn6 r5
        have hm := Hd.mk (IAdd_any _ bd bd B6 Qv Qv 1 _ w6 r6.out.ints (by rw [upd_ne (by omega), upd_ne (by omega), upd_ne (by omega), upd_same]) (by rw [upd_ne (by omega), upd_ne (by omega), upd_ne (by omega), upd_same]) upd_same (by omega) (wl (n := 1) (by decide) (by decide)))
        go_wp2_with fail
        refine (hm.out).mono ?_
        rintro e w7 ⟨rfl, hk7, hI7⟩
        have s7 := hk7.size
        try simp only [World.size_alloc] at s7
        have r7 := Hd.mk (r6.out.op hk7 hI7)
        clear hk7 hI7 r6
        go_wp2
        go_ret
        rw [hfin.out]
        refine ⟨rfl, r7.out.fin.1, r7.out.fin.2.sub fun k z hk => ?_⟩
        rcases upd_cases hk with ⟨rfl, rfl⟩ | ⟨hne, hk⟩
        · repeat first | exact upd_same | rw [upd_ne (by omega)]
        · have hkl := hlo.out.lt hk
          repeat rw [upd_ne (by first | exact hne | ((try simp only [World.size_alloc]); omega))]
          exact hk
      · have hRe : R = 500000000000000000 := by omega
        rw [hRe, cmpI_eq] at hc4
        by_cases hev : Qv % 2 = 0
        · have hfin : chopP x = Qv := by rw [hdef.out, if_neg hlt, if_neg hgt, if_pos hev]
          replace hfin := Hd.mk hfin
          have hb5 := fun q => IBit0_any _ bd Qv _ (w4.drewN q) (r4.out.drewN q).ints (by rw [upd_ne (by omega), upd_ne (by omega), upd_same])
          have hd5 : (((Qv.natAbs % 2 : Nat) : Int) == 0) = true := by simp; omega
          rw [show Qv.natAbs % 2 = 0 by omega] at hb5
          clear hd5
          replace hb5 := Hd.mk hb5
          replace hRe := Hd.mk hRe
          go_wp2_with fail
          refine hc4.out.mono ?_
          rintro e w5 ⟨rfl, q5, rfl⟩
          have r5 := Hd.mk (r4.out.drewN q5)
          go_wp2_with fail
          refine (hb5.out q5).mono ?_
          rintro e w6 ⟨rfl, rfl⟩
          go_wp2
          go_ret
          rw [hfin.out]
          refine ⟨rfl, r5.out.fin.1, r5.out.fin.2.sub fun k z hk => ?_⟩
          rcases upd_cases hk with ⟨rfl, rfl⟩ | ⟨hne, hk⟩
          · repeat first | exact upd_same | rw [upd_ne (by omega)]
          · have hkl := hlo.out.lt hk
            repeat rw [upd_ne (by first | exact hne | ((try simp only [World.size_alloc]); omega))]
            exact hk
        · have hfin : chopP x = Qv + 1 := by rw [hdef.out, if_neg hlt, if_neg hgt, if_neg hev]
          replace hfin := Hd.mk hfin
          have hb5 := fun q => IBit0_any _ bd Qv _ (w4.drewN q) (r4.out.drewN q).ints (by rw [upd_ne (by omega), upd_ne (by omega), upd_same])
          rw [show Qv.natAbs % 2 = 1 by omega] at hb5
          replace hb5 := Hd.mk hb5
          replace hRe := Hd.mk hRe
          go_wp2_with fail
          refine hc4.out.mono ?_
          rintro e w5 ⟨rfl, q5, rfl⟩
          have r5 := Hd.mk (r4.out.drewN q5)
          go_wp2_with fail
          refine (hb5.out q5).mono ?_
          rintro e w6 ⟨rfl, rfl⟩
          clear r4
          go_wp2_with fail
          refine (oneInt_any _).mono ?_
          rintro e w6 ⟨B6, rfl, hn6⟩
          have r6 := Hd.mk (r5.out.new_int hn6)
          have g6 : w4.heap.size ≤ B6 := hn6.ge
          have l6 := r6.out.ilt upd_same
          clear hn6 r5
          have hm := Hd.mk (IAdd_any _ bd bd B6 Qv Qv 1 _ w6 r6.out.ints (by rw [upd_ne (by omega), upd_ne (by omega), upd_ne (by omega), upd_same]) (by rw [upd_ne (by omega), upd_ne (by omega), upd_ne (by omega), upd_same]) upd_same (by omega) (wl (n := 1) (by decide) (by decide)))
          go_wp2_with fail
          refine (hm.out).mono ?_
          rintro e w7 ⟨rfl, hk7, hI7⟩
          have s7 := hk7.size
          try simp only [World.size_alloc] at s7
          have r7 := Hd.mk (r6.out.op hk7 hI7)
          clear hk7 hI7 r6
          go_wp2
          go_ret
          rw [hfin.out]
          refine ⟨rfl, r7.out.fin.1, r7.out.fin.2.sub fun k z hk => ?_⟩
          rcases upd_cases hk with ⟨rfl, rfl⟩ | ⟨hne, hk⟩
          · repeat first | exact upd_same | rw [upd_ne (by omega)]
          · have hkl := hlo.out.lt hk
            repeat rw [upd_ne (by first | exact hne | ((try simp only [World.size_alloc]); omega))]
            exact hk
end Go.Proofs.YtdbjdpooggaonaaGreatDoor
end

section
namespace Go.Proofs.YtdbjdpooggaonaaGreatDoor
open Go.RowKit
set_option maxRecDepth 100000
theorem upd_upd2 {S : Nat → Option Int} {B : Nat} {a b : Int} : upd (upd S B a) B b = upd S B b := upd_upd
set_option maxHeartbeats 1000000 in
theorem chopR_any (P : Nat → Prop) (bd : Nat) (x : Int) (S : Nat → Option Int) (w : World) (hI : Ints P w S) (hx : S bd = some x) (hw : wlen x.natAbs < 40) :
    Calls Tryz.prog 185 #[ptr bd] w fun e w' => e = .returned (ptr bd) ∧ Keep P w w' ∧ Ints P w' (upd S bd (chopR x)) := by
  by_cases h0 : x < 0
  · have hdef : chopR x = -chopP (-x) := if_pos h0
    rw [hdef]
    have r0 := Hd.mk (Run.start hI)
    have hsg := Hd.mk (Sign_any P bd x S w hI hx)
    have hd1 : (sgn x == -1) = true := by rw [sgn_m1]; exact decide_eq_true h0
    generalize sgn x = sg at *
    have hn := Hd.mk (INeg_any _ bd bd x x S w r0.out.ints hx hx (by omega))
    have hwn : wlen (-x).natAbs < 40 := by rw [Int.natAbs_neg]; exact hw
    have hwc : wlen (chopP (-x)).natAbs < 800 := by
      have h1 : chopP (-x) ≤ -x / E18 + 1 := by unfold chopP; split <;> (try split) <;> (try split) <;> omega
      have h2 : -x / E18 ≤ -x := Int.ediv_le_self _ (by omega)
      have h3 : 0 ≤ -x / E18 := Int.ediv_nonneg (by omega) (by decide)
      have h4 : 0 ≤ chopP (-x) := by unfold chopP; split <;> (try split) <;> (try split) <;> omega
      have h5 : (chopP (-x)).natAbs ≤ (-x).natAbs + 1 := by omega
      have h6 : (-x).natAbs < BB ^ 40 := (wlen_le_iff 40 _).1 (by omega)
      exact wl (n := 41) (Nat.lt_of_le_of_lt h5 (by rw [Nat.pow_succ BB 40]; have := BBp 40; unfold BB at *; omega)) (by decide)
    clear hI hdef
    replace hx := Hd.mk hx
    go_enter Tryz.func185, Tryz.ntmps185
    go_wp2_with fail
    refine hsg.out.mono ?_
    rintro e w' ⟨rfl, rfl⟩
    go_wp2_with fail
    refine (hn.out).mono ?_
    rintro e w1 ⟨rfl, hk1, hI1⟩
    have s1 := hk1.size
    try simp only [World.size_alloc] at s1
    have r1 := Hd.mk (r0.out.op hk1 hI1)
    clear hk1 hI1 r0
    have hc := Hd.mk (chopPos_any _ bd (-x) _ w1 r1.out.ints upd_same hwn (by omega))
    go_wp2_with fail
    refine (hc.out).mono ?_
    rintro e w2 ⟨rfl, hk2, hI2⟩
    have s2 := hk2.size
    try simp only [World.size_alloc] at s2
    have r2 := Hd.mk (r1.out.op hk2 hI2)
    clear hk2 hI2 r1
    have hn2 := Hd.mk (INeg_any _ bd bd _ _ _ w2 r2.out.ints upd_same upd_same hwc)
    go_wp2_with fail
    refine (hn2.out).mono ?_
    rintro e w3 ⟨rfl, hk3, hI3⟩
    have s3 := hk3.size
    try simp only [World.size_alloc] at s3
    have r3 := Hd.mk (r2.out.op hk3 hI3)
    clear hk3 hI3 r2
    have hf := r3.out.fin
    rw [upd_upd, upd_upd] at hf
    replace hf := Hd.mk hf
    go_wp2
    go_ret
    exact ⟨rfl, hf.out.1, hf.out.2⟩
  · have hdef : chopR x = chopP x := if_neg h0
    rw [hdef]
    exact chopPos_any P bd x S w hI hx hw (by omega)
set_option maxHeartbeats 1000000 in
theorem chopT_any (P : Nat → Prop) (bd : Nat) (x : Int) (S : Nat → Option Int) (w : World) (hI : Ints P w S) (hx : S bd = some x) (hw : wlen x.natAbs < 800) :
    Calls Tryz.prog 186 #[ptr bd] w fun e w' => e = .returned (.tuple #[]) ∧ Keep P w w' ∧ Ints P w' (upd S bd (x.tdiv E18)) := by
  have r0 := Hd.mk (Run.start hI)
  have hlo := Hd.mk hI.low
  have hl := hI.lt hx
  clear hI
  have hxk := Hd.mk hx
  clear hx
  go_enter Tryz.func186, Tryz.ntmps186
  go_wp2_with fail
  refine (precisionReuse_any _ r0.out.ok).mono ?_
  rintro e w1 ⟨B1, rfl, hn1⟩
  have r1 := Hd.mk (r0.out.new_int hn1)
  have g1 := hn1.ge
  have s1 := hn1.bel.size
  try simp only [World.size_alloc] at g1 s1
  have l1 := r1.out.ilt upd_same
  have q1 := Hd.mk hn1.bel
  clear hn1 r0
  have hm := Hd.mk (IQuo_any _ bd bd B1 x x E18 _ w1 r1.out.ints (by rw [upd_ne (by omega)]; exact hxk.out) (by rw [upd_ne (by omega)]; exact hxk.out) upd_same (divOK18 hw))
  go_wp2_with fail
  refine (hm.out).mono ?_
  rintro e w2 ⟨rfl, hk2, hI2⟩
  have s2 := hk2.size
  try simp only [World.size_alloc] at s2
  have r2 := Hd.mk (r1.out.op hk2 hI2)
  clear hk2 hI2 r1
  have hf := Hd.mk r2.out.fin
  go_wp2
  go_end0
  refine ⟨rfl, hf.out.1, hf.out.2.sub fun k z hk => ?_⟩
  rcases upd_cases hk with ⟨rfl, rfl⟩ | ⟨hne, hk⟩
  · repeat first | exact upd_same | rw [upd_ne (by omega)]
  · have hkl := hlo.out.lt hk
    repeat rw [upd_ne (by first | exact hne | ((try simp only [World.size_alloc]); omega))]
    exact hk
set_option maxHeartbeats 1000000 in
theorem chopRN_any (P : Nat → Prop) (bd : Nat) (x : Int) (S : Nat → Option Int) (w : World) (hI : Ints P w S) (hx : S bd = some x) (hw : wlen x.natAbs < 40) :
    Calls Tryz.prog 173 #[ptr bd] w fun e w' => ∃ B, e = .returned (ptr B) ∧ w.heap.size ≤ B ∧ Keep P w w' ∧ Ints P w' (upd S B (chopR x)) := by
  have r0 := Hd.mk (Run.start hI)
  have hlo := Hd.mk hI.low
  have hl := hI.lt hx
  clear hI
  have r1 := Hd.mk (r0.out.new_int (NewI.of_new _))
  clear r0
  have hm := Hd.mk (ISet_any _ w.heap.size bd 0 x _ _ r1.out.ints upd_same (by rw [upd_ne (by omega)]; exact hx) (by omega))
  replace hx := Hd.mk hx
  go_enter Tryz.func173, Tryz.ntmps173
  go_wp2_with fail
  refine (hm.out).mono ?_
  rintro e w2 ⟨rfl, hk2, hI2⟩
  have s2 := hk2.size
  try simp only [World.size_alloc] at s2
  have r2 := Hd.mk (r1.out.op hk2 hI2)
  clear hk2 hI2 r1
  have hc := Hd.mk (chopR_any _ w.heap.size x _ w2 r2.out.ints upd_same (by omega))
  go_wp2_with fail
  refine (hc.out).mono ?_
  rintro e w3 ⟨rfl, hk3, hI3⟩
  have s3 := hk3.size
  try simp only [World.size_alloc] at s3
  have r3 := Hd.mk (r2.out.op hk3 hI3)
  clear hk3 hI3 r2
  have hf := Hd.mk r3.out.fin
  go_wp2
  go_ret
  refine ⟨_, rfl, Nat.le_refl _, hf.out.1, hf.out.2.sub fun k z hk => ?_⟩
  rcases upd_cases hk with ⟨rfl, rfl⟩ | ⟨hne, hk⟩
  · repeat first | exact upd_same | rw [upd_ne (by omega)]
  · have hkl := hlo.out.lt hk
    repeat rw [upd_ne (by first | exact hne | ((try simp only [World.size_alloc]); omega))]
    exact hk
set_option maxHeartbeats 1000000 in
theorem chopTN_any (P : Nat → Prop) (bd : Nat) (x : Int) (S : Nat → Option Int) (w : World) (hI : Ints P w S) (hx : S bd = some x) (hw : wlen x.natAbs < 40) :
    Calls Tryz.prog 174 #[ptr bd] w fun e w' => ∃ B, e = .returned (ptr B) ∧ w.heap.size ≤ B ∧ Keep P w w' ∧ Ints P w' (upd S B (x.tdiv E18)) := by
  have r0 := Hd.mk (Run.start hI)
  have hlo := Hd.mk hI.low
  have hl := hI.lt hx
  clear hI
  have r1 := Hd.mk (r0.out.new_int (NewI.of_new _))
  clear r0
  have hm := Hd.mk (ISet_any _ w.heap.size bd 0 x _ _ r1.out.ints upd_same (by rw [upd_ne (by omega)]; exact hx) (by omega))
  replace hx := Hd.mk hx
  go_enter Tryz.func174, Tryz.ntmps174
  go_wp2_with fail
  refine (hm.out).mono ?_
  rintro e w2 ⟨rfl, hk2, hI2⟩
  have s2 := hk2.size
  try simp only [World.size_alloc] at s2
  have r2 := Hd.mk (r1.out.op hk2 hI2)
  clear hk2 hI2 r1
  have hc := Hd.mk (chopT_any _ w.heap.size x _ w2 r2.out.ints upd_same (by omega))
  go_wp2_with fail
  refine (hc.out).mono ?_
  rintro e w3 ⟨rfl, hk3, hI3⟩
  have s3 := hk3.size
  try simp only [World.size_alloc] at s3
  have r3 := Hd.mk (r2.out.op hk3 hI3)
  clear hk3 hI3 r2
  have hf := Hd.mk r3.out.fin
  go_wp2
  go_ret
  refine ⟨_, rfl, Nat.le_refl _, hf.out.1, hf.out.2.sub fun k z hk => ?_⟩
  rcases upd_cases hk with ⟨rfl, rfl⟩ | ⟨hne, hk⟩
  · repeat first | exact upd_same | rw [upd_ne (by omega)]
  · have hkl := hlo.out.lt hk
    repeat rw [upd_ne (by first | exact hne | ((try simp only [World.size_alloc]); omega))]
    exact hk
set_option maxHeartbeats 1000000 in
theorem dIsZero_any (P : Nat → Prop) (bd : Nat) (x : Int) (S : Nat → Option Int) (w : World) (hI : Ints P w S) (hx : S bd = some x) :
    Calls Tryz.prog 82 #[.agg #[ptr bd]] w fun e w' => e = .returned (.bool (decide (x = 0))) ∧ Keep P w w' ∧ Ints P w' S := by
  have r0 := Hd.mk (Run.start hI)
  have hc : (sgn x == 0) = (decide (x = 0)) := by exact sgn_0
  clear hI
  have r1 := Hd.mk (r0.out.box #[ptr bd] 68)
  clear r0
  have hm := Hd.mk (Sign_any _ bd x S _ r1.out.ints hx)
  generalize sgn x = sg at *
  replace hc := Hd.mk hc
  replace hx := Hd.mk hx
  go_enter Tryz.func82, Tryz.ntmps82
  go_wp2_with fail
  refine hm.out.mono ?_
  rintro e w' ⟨rfl, rfl⟩
  go_wp2
  go_ret
  exact ⟨by rw [← hc.out]; rfl, r1.out.fin.1, r1.out.fin.2⟩
set_option maxHeartbeats 1000000 in
theorem dIsNeg_any (P : Nat → Prop) (bd : Nat) (x : Int) (S : Nat → Option Int) (w : World) (hI : Ints P w S) (hx : S bd = some x) :
    Calls Tryz.prog 83 #[.agg #[ptr bd]] w fun e w' => e = .returned (.bool (decide (x < 0))) ∧ Keep P w w' ∧ Ints P w' S := by
  have r0 := Hd.mk (Run.start hI)
  have hc : (sgn x == -1) = (decide (x < 0)) := by exact sgn_m1
  clear hI
  have r1 := Hd.mk (r0.out.box #[ptr bd] 68)
  clear r0
  have hm := Hd.mk (Sign_any _ bd x S _ r1.out.ints hx)
  generalize sgn x = sg at *
  replace hc := Hd.mk hc
  replace hx := Hd.mk hx
  go_enter Tryz.func83, Tryz.ntmps83
  go_wp2_with fail
  refine hm.out.mono ?_
  rintro e w' ⟨rfl, rfl⟩
  go_wp2
  go_ret
  exact ⟨by rw [← hc.out]; rfl, r1.out.fin.1, r1.out.fin.2⟩
set_option maxHeartbeats 1000000 in
theorem dIsPos_any (P : Nat → Prop) (bd : Nat) (x : Int) (S : Nat → Option Int) (w : World) (hI : Ints P w S) (hx : S bd = some x) :
    Calls Tryz.prog 84 #[.agg #[ptr bd]] w fun e w' => e = .returned (.bool (decide (0 < x))) ∧ Keep P w w' ∧ Ints P w' S := by
  have r0 := Hd.mk (Run.start hI)
  have hc : (sgn x == 1) = (decide (0 < x)) := by exact sgn_1
  clear hI
  have r1 := Hd.mk (r0.out.box #[ptr bd] 68)
  clear r0
  have hm := Hd.mk (Sign_any _ bd x S _ r1.out.ints hx)
  generalize sgn x = sg at *
  replace hc := Hd.mk hc
  replace hx := Hd.mk hx
  go_enter Tryz.func84, Tryz.ntmps84
  go_wp2_with fail
  refine hm.out.mono ?_
  rintro e w' ⟨rfl, rfl⟩
  go_wp2
  go_ret
  exact ⟨by rw [← hc.out]; rfl, r1.out.fin.1, r1.out.fin.2⟩
set_option maxHeartbeats 2000000 in
theorem dIsInt_any (P : Nat → Prop) (bd : Nat) (x : Int) (S : Nat → Option Int) (w : World) (hI : Ints P w S) (hx : S bd = some x) (hw : wlen x.natAbs < 40) :
    Calls Tryz.prog 81 #[.agg #[ptr bd]] w fun e w' => e = .returned (.bool (decide (x.tmod E18 = 0))) ∧ Keep P w w' ∧ Ints P w' S := by
  have r0 := Hd.mk (Run.start hI)
  have hlo := Hd.mk hI.low
  have hl := hI.lt hx
  clear hI
  have r1 := Hd.mk (r0.out.box #[ptr bd] 68)
  clear r0
  have r2 := Hd.mk (r1.out.drew.new_int (NewI.of_new _))
  have hxk := Hd.mk hx
  clear hx
  have hc := Hd.mk (sgn_0 (z := x.tmod E18))
  go_enter Tryz.func81, Tryz.ntmps81
  go_wp2
  go_region_law (first | (go_simp; go_at_call 138; refine (precisionReuse_any _ r2.out.ok).mono ?_; rintro e w3 ⟨B3, rfl, hn3⟩; have r3 := Hd.mk (r2.out.new_int hn3); have g3 : w.heap.size + 1 + 1 ≤ B3 := (by have := hn3.ge; rw [World.size_alloc] at this; change (w.alloc _).heap.size + 1 ≤ B3 at this; rwa [World.size_alloc] at this); have l3 := r3.out.ilt upd_same; obtain ⟨c3, c3z, c3l⟩ := r3.out.cell (b := w.heap.size) updX_same; clear hn3) | (go_simp; go_at_call 138; refine (precisionReuse_any _ r1.out.drew.ok).mono ?_; rintro e w3 ⟨B3, rfl, hn3⟩; have r3b := Hd.mk (r1.out.drew.new_int hn3); have g3 : w.heap.size + 1 ≤ B3 := (by have := hn3.ge; change (w.alloc _).heap.size ≤ B3 at this; rwa [World.size_alloc] at this); have l3 := r3b.out.ilt upd_same; obtain ⟨c3, c3z, c3l⟩ := r3b.out.cell (b := w.heap.size) updX_same; clear hn3) | (go_simp; go_at_call 168; refine (IRem_any _ (w.heap.size + 1) bd B3 0 x E18 _ w3 r3.out.ints (by rw [upd_ne (by omega)]; exact (World.size_alloc w _) ▸ upd_same) (by rw [upd_ne (by omega), upd_ne (by change bd ≠ (w.alloc _).heap.size; rw [World.size_alloc]; omega)]; exact hxk.out) upd_same (divOK18 (by omega))).mono ?_; rintro e w4 ⟨rfl, hk4, hI4⟩; have s4 := hk4.size; have r4 := Hd.mk (r3.out.op hk4 hI4); clear hk4 hI4) | (go_simp; go_at_call 168; refine (IRem_any _ w3.heap.size bd B3 0 x E18 _ _ (r3b.out.new_int (NewI.of_new _)).ints upd_same (by rw [upd_ne (by omega), upd_ne (by omega)]; exact hxk.out) (by rw [upd_ne (by omega)]; exact upd_same) (divOK18 (by omega))).mono ?_; rintro e w4 ⟨rfl, hk4, hI4⟩; have s4 := hk4.size; have r4b := Hd.mk ((r3b.out.new_int (NewI.of_new _)).op hk4 hI4); clear hk4 hI4) | (go_simp; go_at_call 169; refine (Sign_any _ (w.heap.size + 1) _ _ w4 r4.out.ints upd_same).mono ?_; rintro e w5 ⟨rfl, rfl⟩) | (go_simp; go_at_call 169; refine (Sign_any _ w3.heap.size _ _ w4 r4b.out.ints upd_same).mono ?_; rintro e w5 ⟨rfl, rfl⟩))
  all_goals
    go_wp2
    go_ret
    refine ⟨by rw [← hc.out]; rfl, ?_⟩
    first
      | exact ⟨r4.out.fin.1, r4.out.fin.2.sub fun k z hk => by
          have hkl := hlo.out.lt hk
          rw [upd_ne (by omega), upd_ne (by omega), upd_ne (by change k ≠ (w.alloc _).heap.size; rw [World.size_alloc]; omega)]; exact hk⟩
      | exact ⟨r4b.out.fin.1, r4b.out.fin.2.sub fun k z hk => by
          have hkl := hlo.out.lt hk
          rw [upd_ne (by omega), upd_ne (by omega), upd_ne (by omega)]; exact hk⟩
end Go.Proofs.YtdbjdpooggaonaaGreatDoor
end

section
namespace Go.Proofs.YtdbjdpooggaonaaGreatDoor
open Go.RowKit
set_option maxRecDepth 100000
/-- The ending of a panic of the text's own. -/
def Pan (e : Ending) : Prop := ∃ u v, e = .panicked [{ v := .iface u v, recovered := false }]
theorem wl_addsub {x y z : Int} (hx : wlen x.natAbs < 100) (hy : wlen y.natAbs < 100) (hz : z.natAbs ≤ x.natAbs + y.natAbs) : wlen z.natAbs < 800 := by
  have h1 : x.natAbs < BB ^ 100 := (wlen_le_iff 100 _).1 (by omega)
  have h2 : y.natAbs < BB ^ 100 := (wlen_le_iff 100 _).1 (by omega)
  refine wl (n := 101) (Nat.lt_of_le_of_lt hz ?_) (by decide)
  have e : BB ^ 101 = BB ^ 100 * BB := Nat.pow_succ _ _
  have h3 : BB ^ 100 * 2 ≤ BB ^ 100 * BB := Nat.mul_le_mul_left _ (by decide)
  omega
set_option maxHeartbeats 2000000 in
theorem AddMut_ok (P : Nat → Prop) (bd be : Nat) (x y : Int) (S : Nat → Option Int) (w : World) (hI : Ints P w S) (hx : S bd = some x) (hy : S be = some y) (hwx : wlen x.natAbs < 100) (hwy : wlen y.natAbs < 100) (hr : inR (x + y) = true) :
    Calls Tryz.prog 96 #[.agg #[ptr bd], .agg #[ptr be]] w fun e w' => e = .returned (.agg #[ptr bd]) ∧ Keep P w w' ∧ Ints P w' (upd S bd (x + y)) := by
  have r0 := Hd.mk (Run.start hI)
  have hlo := Hd.mk hI.low
  have hl := hI.lt hx
  have hle := hI.lt hy
  clear hI
  have r1 := Hd.mk (r0.out.box #[ptr bd] 68)
  clear r0
  have r2 := Hd.mk (r1.out.box #[ptr be] 68)
  clear r1
  have r3 := Hd.mk (r2.out.box #[.pointer none] 68)
  clear r2
  simp only [World.size_alloc] at r3
  have hm := Hd.mk (IAdd_any _ bd bd be x x y _ _ r3.out.ints hx hx hy (by omega) (by omega))
  replace hx := Hd.mk hx
  replace hy := Hd.mk hy
  go_enter Tryz.func96, Tryz.ntmps96
  go_wp2_with fail
  refine (hm.out).mono ?_
  rintro e w4 ⟨rfl, hk4, hI4⟩
  have s4 := hk4.size
  try simp only [World.size_alloc] at s4
  have r4 := Hd.mk (r3.out.op hk4 hI4)
  clear hk4 hI4 r3
  obtain ⟨c4, c4z, c4l⟩ := r4.out.cell (b := w.heap.size) (by rw [updX_ne (by omega), updX_ne (by omega), updX_same])
  obtain ⟨d4, d4z, d4l⟩ := r4.out.cell (b := (w.heap.size + 1)) (by rw [updX_ne (by omega), updX_same])
  have ha := Hd.mk (assertIn_any _ bd _ _ w4 r4.out.ints upd_same (wl_addsub hwx hwy (by omega)) hr)
  go_wp2_with fail
  refine (ha.out).mono ?_
  rintro e w5 ⟨rfl, hk5, hI5⟩
  have s5 := hk5.size
  try simp only [World.size_alloc] at s5
  have r5 := Hd.mk (r4.out.op hk5 hI5)
  clear hk5 hI5 r4
  obtain ⟨c5, c5z, c5l⟩ := r5.out.cell (b := w.heap.size) (by rw [updX_ne (by omega), updX_ne (by omega), updX_same])
  obtain ⟨e5, e5z, e5l⟩ := r5.out.cell (b := (w.heap.size + 1 + 1)) updX_same
  go_wp2
  have r9 := r5.out.store updX_same (put1 (r5.out.bx _ _ _ updX_same) (v' := ptr bd))
  refine bodyPost_ret (v := .agg #[ptr bd]) (by simp [results, Tryz.results96, go_sem, e5, e5z, e5l]) rfl ⟨rfl, r9.fin.1, r9.fin.2.sub fun k z hk => ?_⟩
  rcases upd_cases hk with ⟨rfl, rfl⟩ | ⟨hne, hk⟩
  · repeat first | exact upd_same | rw [upd_ne (by omega)]
  · have hkl := hlo.out.lt hk
    repeat rw [upd_ne (by first | exact hne | ((try simp only [World.size_alloc]); omega))]
    exact hk
set_option maxHeartbeats 2000000 in
theorem AddMut_pan (P : Nat → Prop) (bd be : Nat) (x y : Int) (S : Nat → Option Int) (w : World) (hI : Ints P w S) (hx : S bd = some x) (hy : S be = some y) (hwx : wlen x.natAbs < 100) (hwy : wlen y.natAbs < 100) (hr : inR (x + y) = false) :
    Calls Tryz.prog 96 #[.agg #[ptr bd], .agg #[ptr be]] w fun e w' => Pan e ∧ Keep P w w' := by
  have r0 := Hd.mk (Run.start hI)
  have hlo := Hd.mk hI.low
  have hl := hI.lt hx
  have hle := hI.lt hy
  clear hI
  have r1 := Hd.mk (r0.out.box #[ptr bd] 68)
  clear r0
  have r2 := Hd.mk (r1.out.box #[ptr be] 68)
  clear r1
  have r3 := Hd.mk (r2.out.box #[.pointer none] 68)
  clear r2
  simp only [World.size_alloc] at r3
  have hm := Hd.mk (IAdd_any _ bd bd be x x y _ _ r3.out.ints hx hx hy (by omega) (by omega))
  replace hx := Hd.mk hx
  replace hy := Hd.mk hy
  go_enter Tryz.func96, Tryz.ntmps96
  go_wp2_with fail
  refine (hm.out).mono ?_
  rintro e w4 ⟨rfl, hk4, hI4⟩
  have s4 := hk4.size
  try simp only [World.size_alloc] at s4
  have r4 := Hd.mk (r3.out.op hk4 hI4)
  clear hk4 hI4 r3
  obtain ⟨c4, c4z, c4l⟩ := r4.out.cell (b := w.heap.size) (by rw [updX_ne (by omega), updX_ne (by omega), updX_same])
  obtain ⟨d4, d4z, d4l⟩ := r4.out.cell (b := (w.heap.size + 1)) (by rw [updX_ne (by omega), updX_same])
  have ha := Hd.mk (assertOut_any _ bd _ _ w4 r4.out.ints upd_same (wl_addsub hwx hwy (by omega)) hr)
  go_wp2_with fail
  refine ha.out.mono ?_
  rintro e w9 ⟨⟨u9, v9, rfl⟩, hk9⟩
  have hf := Hd.mk (r4.out.keep.trans (hk9.sub fun k hk => .inl hk))
  clear hk9
  first | exact ⟨⟨_, _, rfl⟩, hf.out⟩ | exact ⟨rfl, ⟨_, _, rfl⟩, hf.out⟩ | (go_wp2; exact ⟨rfl, ⟨_, _, rfl⟩, hf.out⟩)
set_option maxHeartbeats 2000000 in
theorem SubMut_ok (P : Nat → Prop) (bd be : Nat) (x y : Int) (S : Nat → Option Int) (w : World) (hI : Ints P w S) (hx : S bd = some x) (hy : S be = some y) (hwx : wlen x.natAbs < 100) (hwy : wlen y.natAbs < 100) (hr : inR (x - y) = true) :
    Calls Tryz.prog 98 #[.agg #[ptr bd], .agg #[ptr be]] w fun e w' => e = .returned (.agg #[ptr bd]) ∧ Keep P w w' ∧ Ints P w' (upd S bd (x - y)) := by
  have r0 := Hd.mk (Run.start hI)
  have hlo := Hd.mk hI.low
  have hl := hI.lt hx
  have hle := hI.lt hy
  clear hI
  have r1 := Hd.mk (r0.out.box #[ptr bd] 68)
  clear r0
  have r2 := Hd.mk (r1.out.box #[ptr be] 68)
  clear r1
  have r3 := Hd.mk (r2.out.box #[.pointer none] 68)
  clear r2
  simp only [World.size_alloc] at r3
  have hm := Hd.mk (ISub_any _ bd bd be x x y _ _ r3.out.ints hx hx hy (by omega) (by omega))
  replace hx := Hd.mk hx
  replace hy := Hd.mk hy
  go_enter Tryz.func98, Tryz.ntmps98
  go_wp2_with fail
  refine (hm.out).mono ?_
  rintro e w4 ⟨rfl, hk4, hI4⟩
  have s4 := hk4.size
  try simp only [World.size_alloc] at s4
  have r4 := Hd.mk (r3.out.op hk4 hI4)
  clear hk4 hI4 r3
  obtain ⟨c4, c4z, c4l⟩ := r4.out.cell (b := w.heap.size) (by rw [updX_ne (by omega), updX_ne (by omega), updX_same])
  obtain ⟨d4, d4z, d4l⟩ := r4.out.cell (b := (w.heap.size + 1)) (by rw [updX_ne (by omega), updX_same])
  have ha := Hd.mk (assertIn_any _ bd _ _ w4 r4.out.ints upd_same (wl_addsub hwx hwy (by omega)) hr)
  go_wp2_with fail
  refine (ha.out).mono ?_
  rintro e w5 ⟨rfl, hk5, hI5⟩
  have s5 := hk5.size
  try simp only [World.size_alloc] at s5
  have r5 := Hd.mk (r4.out.op hk5 hI5)
  clear hk5 hI5 r4
  obtain ⟨c5, c5z, c5l⟩ := r5.out.cell (b := w.heap.size) (by rw [updX_ne (by omega), updX_ne (by omega), updX_same])
  obtain ⟨e5, e5z, e5l⟩ := r5.out.cell (b := (w.heap.size + 1 + 1)) updX_same
  go_wp2
  have r9 := r5.out.store updX_same (put1 (r5.out.bx _ _ _ updX_same) (v' := ptr bd))
  refine bodyPost_ret (v := .agg #[ptr bd]) (by simp [results, Tryz.results98, go_sem, e5, e5z, e5l]) rfl ⟨rfl, r9.fin.1, r9.fin.2.sub fun k z hk => ?_⟩
  rcases upd_cases hk with ⟨rfl, rfl⟩ | ⟨hne, hk⟩
  · repeat first | exact upd_same | rw [upd_ne (by omega)]
  · have hkl := hlo.out.lt hk
    repeat rw [upd_ne (by first | exact hne | ((try simp only [World.size_alloc]); omega))]
    exact hk
set_option maxHeartbeats 2000000 in
theorem SubMut_pan (P : Nat → Prop) (bd be : Nat) (x y : Int) (S : Nat → Option Int) (w : World) (hI : Ints P w S) (hx : S bd = some x) (hy : S be = some y) (hwx : wlen x.natAbs < 100) (hwy : wlen y.natAbs < 100) (hr : inR (x - y) = false) :
    Calls Tryz.prog 98 #[.agg #[ptr bd], .agg #[ptr be]] w fun e w' => Pan e ∧ Keep P w w' := by
  have r0 := Hd.mk (Run.start hI)
  have hlo := Hd.mk hI.low
  have hl := hI.lt hx
  have hle := hI.lt hy
  clear hI
  have r1 := Hd.mk (r0.out.box #[ptr bd] 68)
  clear r0
  have r2 := Hd.mk (r1.out.box #[ptr be] 68)
  clear r1
  have r3 := Hd.mk (r2.out.box #[.pointer none] 68)
  clear r2
  simp only [World.size_alloc] at r3
  have hm := Hd.mk (ISub_any _ bd bd be x x y _ _ r3.out.ints hx hx hy (by omega) (by omega))
  replace hx := Hd.mk hx
  replace hy := Hd.mk hy
  go_enter Tryz.func98, Tryz.ntmps98
  go_wp2_with fail
  refine (hm.out).mono ?_
  rintro e w4 ⟨rfl, hk4, hI4⟩
  have s4 := hk4.size
  try simp only [World.size_alloc] at s4
  have r4 := Hd.mk (r3.out.op hk4 hI4)
  clear hk4 hI4 r3
  obtain ⟨c4, c4z, c4l⟩ := r4.out.cell (b := w.heap.size) (by rw [updX_ne (by omega), updX_ne (by omega), updX_same])
  obtain ⟨d4, d4z, d4l⟩ := r4.out.cell (b := (w.heap.size + 1)) (by rw [updX_ne (by omega), updX_same])
  have ha := Hd.mk (assertOut_any _ bd _ _ w4 r4.out.ints upd_same (wl_addsub hwx hwy (by omega)) hr)
  go_wp2_with fail
  refine ha.out.mono ?_
  rintro e w9 ⟨⟨u9, v9, rfl⟩, hk9⟩
  have hf := Hd.mk (r4.out.keep.trans (hk9.sub fun k hk => .inl hk))
  clear hk9
  first | exact ⟨⟨_, _, rfl⟩, hf.out⟩ | exact ⟨rfl, ⟨_, _, rfl⟩, hf.out⟩ | (go_wp2; exact ⟨rfl, ⟨_, _, rfl⟩, hf.out⟩)
end Go.Proofs.YtdbjdpooggaonaaGreatDoor
end
