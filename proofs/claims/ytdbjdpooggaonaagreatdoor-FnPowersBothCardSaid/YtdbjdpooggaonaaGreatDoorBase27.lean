/- Decimals: the nearest whole number, the one towards 0, as Ints and as int64. Ints that are int64. Decimals: the nearest int64, the one towards 0. The thin package: what a decimal tells. Conditions: those that each theorem states. -/
import Derived.Test.YtdbjdpooggaonaaGreatDoorBase22
import Derived.Test.YtdbjdpooggaonaaGreatDoorBase13
import Derived.Test.YtdbjdpooggaonaaGreatDoorBase23
import Derived.Test.YtdbjdpooggaonaaGreatDoorBase26
import Derived.Test.YtdbjdpooggaonaaGreatDoorBase12
set_option linter.all false

section
namespace Go.Proofs.YtdbjdpooggaonaaGreatDoor
open Go.RowKit
set_option maxRecDepth 100000
theorem wl256 {z : Int} (h : z.natAbs < 2 ^ 256) : wlen z.natAbs ≤ 4 := wlen_le (n := 4) (Nat.lt_of_lt_of_le h (by decide))
set_option maxHeartbeats 1000000 in
theorem overflows_no (P : Nat → Prop) (B : Nat) (z : Int) (S : Nat → Option Int) (w : World) (hI : Ints P w S) (hB : S B = some z) (hz : z.natAbs < 2 ^ 256) :
    Calls Tryz.prog 196 #[ptr B] w fun e w' => e = .returned (.bool false) ∧ w = w' := by
  obtain ⟨own, hst⟩ := hI
  obtain ⟨A, cap, hb, hn, g0, g1, h3, h4⟩ := (hst.at_ B z hB).open
  have hd : decide ((4 : Int) < (wlen z.natAbs : Int)) = false := decide_eq_false (by have := wl256 hz; omega)
  clear hst hn
  replace hz := Hd.mk hz
  generalize wlen z.natAbs = n at *
  go_enter Tryz.func196, Tryz.ntmps196
  go_wp2
  go_ret
  exact ⟨rfl, rfl⟩
set_option maxHeartbeats 1000000 in
theorem NewIntMut_ok (P : Nat → Prop) (B : Nat) (z : Int) (S : Nat → Option Int) (w : World) (hI : Ints P w S) (hB : S B = some z) (hz : z.natAbs < 2 ^ 256) :
    Calls Tryz.prog 172 #[ptr B] w fun e w' => e = .returned (.agg #[ptr B]) ∧ Keep P w w' ∧ Ints P w' S := by
  have r0 := Hd.mk (Run.start hI)
  have rb := Hd.mk (r0.out.box #[ptr B] 65).fin
  clear hI
  have r1 := Hd.mk (r0.out.box #[.pointer none] 65)
  clear r0
  have hov := Hd.mk (overflows_no _ B z _ _ r1.out.ints hB hz)
  replace hz := Hd.mk hz
  replace hB := Hd.mk hB
  go_enter Tryz.func172, Tryz.ntmps172
  go_wp2_with (go_at_call 196; refine hov.out.mono ?_; rintro e w2 ⟨rfl, rfl⟩)
  refine bodyPost_ret (v := .agg #[ptr B]) (by simp [results, Tryz.results172, go_sem]) rfl ⟨rfl, rb.out⟩
set_option maxHeartbeats 2000000 in
theorem RoundInt_ok (P : Nat → Prop) (bd : Nat) (x : Int) (S : Nat → Option Int) (w : World) (hI : Ints P w S) (hx : S bd = some x) (hw : wlen x.natAbs < 40) (hz : (chopR x).natAbs < 2 ^ 256) :
    Calls Tryz.prog 86 #[.agg #[ptr bd]] w fun e w' => ∃ B, e = .returned (.agg #[ptr B]) ∧ w.heap.size ≤ B ∧ Keep P w w' ∧ Ints P w' (upd S B (chopR x)) := by
  have r0 := Hd.mk (Run.start hI)
  have hlo := Hd.mk hI.low
  have hl := hI.lt hx
  clear hI
  have r1 := Hd.mk (r0.out.box #[ptr bd] 68)
  clear r0
  have r2 := Hd.mk (r1.out.box #[.pointer none] 65)
  clear r1
  simp only [World.size_alloc] at r2
  have hc := Hd.mk (chopRN_any _ bd x _ _ r2.out.ints hx hw)
  have hni := Hd.mk fun (Q : Nat → Prop) B S1 w1 (h : Ints Q w1 S1) (h1 : S1 B = some (chopR x)) => NewIntMut_ok Q B _ S1 w1 h h1 hz
  replace hz := Hd.mk hz
  replace hx := Hd.mk hx
  generalize chopR x = v at *
  go_enter Tryz.func86, Tryz.ntmps86
  go_wp2_with (first
    | (go_at_call 173; refine hc.out.mono ?_; rintro e w3 ⟨B3, rfl, g3, hk3, hI3⟩; have r3 := Hd.mk (r2.out.op hk3 hI3); simp only [World.size_alloc] at g3; clear hk3 hI3)
    | (go_at_call 172; refine (hni.out _ B3 _ _ r3.out.ints upd_same).mono ?_; rintro e w4 ⟨rfl, hk4, hI4⟩; have r4 := Hd.mk (r3.out.op hk4 hI4); clear hk4 hI4; obtain ⟨e4, e4z, e4l⟩ := r4.out.cell (b := w.heap.size + 1) updX_same))
  have r9 := r4.out.store updX_same (put1 (r4.out.bx _ _ _ updX_same) (v' := ptr B3))
  refine bodyPost_ret (v := .agg #[ptr B3]) (by simp [results, Tryz.results86, go_sem, e4, e4z, e4l]) rfl ⟨_, rfl, by omega, r9.fin.1, r9.fin.2.sub fun k z hk => ?_⟩
  rcases upd_cases hk with ⟨rfl, rfl⟩ | ⟨hne, hk⟩
  · repeat first | exact upd_same | rw [upd_ne (by omega)]
  · have hkl := hlo.out.lt hk
    repeat rw [upd_ne (by first | exact hne | ((try simp only [World.size_alloc]); omega))]
    exact hk
set_option maxHeartbeats 2000000 in
theorem TruncateInt_ok (P : Nat → Prop) (bd : Nat) (x : Int) (S : Nat → Option Int) (w : World) (hI : Ints P w S) (hx : S bd = some x) (hw : wlen x.natAbs < 40) (hz : (x.tdiv E18).natAbs < 2 ^ 256) :
    Calls Tryz.prog 87 #[.agg #[ptr bd]] w fun e w' => ∃ B, e = .returned (.agg #[ptr B]) ∧ w.heap.size ≤ B ∧ Keep P w w' ∧ Ints P w' (upd S B (x.tdiv E18)) := by
  have r0 := Hd.mk (Run.start hI)
  have hlo := Hd.mk hI.low
  have hl := hI.lt hx
  clear hI
  have r1 := Hd.mk (r0.out.box #[ptr bd] 68)
  clear r0
  have r2 := Hd.mk (r1.out.box #[.pointer none] 65)
  clear r1
  simp only [World.size_alloc] at r2
  have hc := Hd.mk (chopTN_any _ bd x _ _ r2.out.ints hx hw)
  have hni := Hd.mk fun (Q : Nat → Prop) B S1 w1 (h : Ints Q w1 S1) (h1 : S1 B = some (x.tdiv E18)) => NewIntMut_ok Q B _ S1 w1 h h1 hz
  replace hz := Hd.mk hz
  replace hx := Hd.mk hx
  generalize x.tdiv E18 = v at *
  go_enter Tryz.func87, Tryz.ntmps87
  go_wp2_with (first
    | (go_at_call 174; refine hc.out.mono ?_; rintro e w3 ⟨B3, rfl, g3, hk3, hI3⟩; have r3 := Hd.mk (r2.out.op hk3 hI3); simp only [World.size_alloc] at g3; clear hk3 hI3)
    | (go_at_call 172; refine (hni.out _ B3 _ _ r3.out.ints upd_same).mono ?_; rintro e w4 ⟨rfl, hk4, hI4⟩; have r4 := Hd.mk (r3.out.op hk4 hI4); clear hk4 hI4; obtain ⟨e4, e4z, e4l⟩ := r4.out.cell (b := w.heap.size + 1) updX_same))
  have r9 := r4.out.store updX_same (put1 (r4.out.bx _ _ _ updX_same) (v' := ptr B3))
  refine bodyPost_ret (v := .agg #[ptr B3]) (by simp [results, Tryz.results87, go_sem, e4, e4z, e4l]) rfl ⟨_, rfl, by omega, r9.fin.1, r9.fin.2.sub fun k z hk => ?_⟩
  rcases upd_cases hk with ⟨rfl, rfl⟩ | ⟨hne, hk⟩
  · repeat first | exact upd_same | rw [upd_ne (by omega)]
  · have hkl := hlo.out.lt hk
    repeat rw [upd_ne (by first | exact hne | ((try simp only [World.size_alloc]); omega))]
    exact hk
set_option maxHeartbeats 1000000 in
theorem cIntString_any (P : Nat → Prop) (B : Nat) (x : Int) (S : Nat → Option Int) (w : World) (hI : Ints P w S) (hx : S B = some x) (hw : wlen x.natAbs ≤ 8) :
    Calls Tryz.prog 60 #[.agg #[ptr B]] w fun e w' => e = .returned (.string (zT x)) ∧ Keep P w w' ∧ Ints P w' S := by
  have r0 := Hd.mk (Run.start hI)
  have hl := hI.lt hx
  clear hI
  have r1 := Hd.mk (r0.out.box #[ptr B] 65)
  clear r0
  have hm := Hd.mk (IString_any _ B x _ _ r1.out.ints hx hw)
  generalize zT x = s at *
  replace hx := Hd.mk hx
  go_enter Tryz.func60, Tryz.ntmps60
  go_wp2_with (go_at_call 136; refine hm.out.mono ?_; rintro e w2 ⟨rfl, hb2⟩; have r2 := Hd.mk (r1.out.below hb2); clear hb2)
  go_ret
  exact ⟨rfl, r2.out.fin⟩
/-- The whole numbers of an int64. -/
def is64 (z : Int) : Bool := decide (-9223372036854775808 ≤ z ∧ z ≤ 9223372036854775807)
end Go.Proofs.YtdbjdpooggaonaaGreatDoor
end

section
namespace Go.Proofs.YtdbjdpooggaonaaGreatDoor
open Go.RowKit
set_option maxRecDepth 100000
theorem dig_small {m : Nat} (h : m < BB) : dig m 0 = m := by
  unfold dig
  rw [Nat.pow_zero, Nat.div_one, Nat.mod_eq_of_lt h]
theorem wrap_hi {m : Nat} (h1 : 9223372036854775808 ≤ m) (h2 : m < 18446744073709551616) : IntKind.i64.wrap (m : Int) = (m : Int) - 18446744073709551616 := by
  simp only [IntKind.wrap_i64]
  omega
set_option maxHeartbeats 2000000 in
theorem IsInt64_any (P : Nat → Prop) (B : Nat) (z : Int) (S : Nat → Option Int) (w : World) (hI : Ints P w S) (hB : S B = some z) (hw : wlen z.natAbs < 800) :
    Calls Tryz.prog 175 #[ptr B] w fun e w' => e = .returned (.bool (is64 z)) ∧ w = w' := by
  obtain ⟨own, hst⟩ := hI
  obtain ⟨A, cap, hb, hn, g0, g1, h3, h4⟩ := (hst.at_ B z hB).open
  have hlo := Hd.mk (low64_any _ z.natAbs (own B) w hn hw)
  clear hst hn hb
  by_cases h1 : wlen z.natAbs ≤ 1
  · have hm : z.natAbs < 18446744073709551616 := by have := (wlen_le_iff 1 _).1 h1; simpa [BB] using this
    rw [dig_small (by unfold BB; omega)] at hlo
    have hle : decide ((wlen z.natAbs : Int) ≤ 1) = true := decide_eq_true (by omega)
    have hz : z = if z < 0 then -(z.natAbs : Int) else (z.natAbs : Int) := by split <;> omega
    generalize wlen z.natAbs = n at *
    by_cases h2 : z.natAbs < 9223372036854775808
    · have hr : is64 z = true := decide_eq_true (by omega)
      rw [hr]
      have hw1 : IntKind.i64.wrap (z.natAbs : Int) = (z.natAbs : Int) := IntWalk.i64_in _ (by omega)
      have hge : decide ((0 : Int) ≤ (z.natAbs : Int)) = true := decide_eq_true (by omega)
      replace hz := Hd.mk hz
      replace hr := Hd.mk hr
      generalize decide (z < 0) = nb at *
      generalize z.natAbs = m at *
      go_enter Tryz.func175, Tryz.ntmps175
      go_wp2_with (go_at_call 220; refine hlo.out.mono ?_; rintro e w2 ⟨rfl, rfl⟩)
      go_ret
      exact ⟨rfl, rfl⟩
    · have hw1 : IntKind.i64.wrap (z.natAbs : Int) = (z.natAbs : Int) - 18446744073709551616 := wrap_hi (by omega) hm
      have hge : decide ((0 : Int) ≤ (z.natAbs : Int) - 18446744073709551616) = false := decide_eq_false (by omega)
      by_cases hneg : z < 0
      · rw [decide_eq_true hneg] at g0
        by_cases h63 : z.natAbs = 9223372036854775808
        · have hr : is64 z = true := decide_eq_true (by omega)
          rw [hr]
          rw [h63] at hlo
          have hw63 : IntKind.i64.wrap 9223372036854775808 = -9223372036854775808 := by decide
          clear hw1 hge
          replace hz := Hd.mk hz
          replace hr := Hd.mk hr
          replace h63 := Hd.mk h63
          go_enter Tryz.func175, Tryz.ntmps175
          go_wp2_with (go_at_call 220; refine hlo.out.mono ?_; rintro e w2 ⟨rfl, rfl⟩)
          go_ret
          exact ⟨rfl, rfl⟩
        · have hr : is64 z = false := decide_eq_false (by omega)
          rw [hr]
          have hw2 : IntKind.i64.wrap (-((z.natAbs : Int) - 18446744073709551616)) = 18446744073709551616 - (z.natAbs : Int) := by rw [IntWalk.i64_in _ (by omega)]; omega
          obtain ⟨v, hv⟩ : ∃ v, v = (z.natAbs : Int) - 18446744073709551616 := ⟨_, rfl⟩
          obtain ⟨u, hu⟩ : ∃ u, u = 18446744073709551616 - (z.natAbs : Int) := ⟨_, rfl⟩
          have heq : (v == u) = false := beq_false_of_ne (by omega)
          rw [← hv] at hw1 hge hw2
          rw [← hu] at hw2
          replace hv := Hd.mk hv
          replace hu := Hd.mk hu
          replace hz := Hd.mk hz
          replace hr := Hd.mk hr
          replace h63 := Hd.mk h63
          generalize z.natAbs = m at *
          go_enter Tryz.func175, Tryz.ntmps175
          go_wp2_with (go_at_call 220; refine hlo.out.mono ?_; rintro e w2 ⟨rfl, rfl⟩)
          go_ret
          exact ⟨rfl, rfl⟩
      · rw [decide_eq_false hneg] at g0
        have hr : is64 z = false := decide_eq_false (by omega)
        rw [hr]
        obtain ⟨v, hv⟩ : ∃ v, v = (z.natAbs : Int) - 18446744073709551616 := ⟨_, rfl⟩
        rw [← hv] at hw1 hge
        replace hv := Hd.mk hv
        replace hz := Hd.mk hz
        replace hr := Hd.mk hr
        generalize z.natAbs = m at *
        go_enter Tryz.func175, Tryz.ntmps175
        go_wp2_with (go_at_call 220; refine hlo.out.mono ?_; rintro e w2 ⟨rfl, rfl⟩)
        go_ret
        exact ⟨rfl, rfl⟩
  · have hm : 18446744073709551616 ≤ z.natAbs := by
      rcases Nat.lt_or_ge z.natAbs 18446744073709551616 with h | h
      · exact absurd (wlen_le (n := 1) (by simpa [BB] using h)) h1
      · exact h
    have hr : is64 z = false := decide_eq_false (by omega)
    rw [hr]
    have hle : decide ((wlen z.natAbs : Int) ≤ 1) = false := decide_eq_false (by omega)
    replace hr := Hd.mk hr
    replace h1 := Hd.mk h1
    generalize wlen z.natAbs = n at *
    go_enter Tryz.func175, Tryz.ntmps175
    go_wp2_with (go_at_call 220; refine hlo.out.mono ?_; rintro e w2 ⟨rfl, rfl⟩)
    go_ret
    exact ⟨rfl, rfl⟩
set_option maxHeartbeats 2000000 in
theorem Int64_any (P : Nat → Prop) (B : Nat) (z : Int) (S : Nat → Option Int) (w : World) (hI : Ints P w S) (hB : S B = some z) (hz : is64 z = true) :
    Calls Tryz.prog 176 #[ptr B] w fun e w' => e = .returned (.int .i64 z) ∧ w = w' := by
  have hz' := of_decide_eq_true hz
  obtain ⟨own, hst⟩ := hI
  obtain ⟨A, cap, hb, hn, g0, g1, h3, h4⟩ := (hst.at_ B z hB).open
  have hm : z.natAbs < BB := by unfold BB; omega
  have hlo := Hd.mk (low64_any _ z.natAbs (own B) w hn (by have := wlen_le (n := 1) (by simpa using hm); omega))
  rw [dig_small hm] at hlo
  clear hst hn hb
  by_cases hneg : z < 0
  · rw [decide_eq_true hneg] at g0
    have hfin : IntKind.i64.wrap (-(IntKind.i64.wrap (z.natAbs : Int))) = z := by
      by_cases h : z.natAbs < 9223372036854775808
      · rw [IntWalk.i64_in (z.natAbs : Int) (by omega), IntWalk.i64_in _ (by omega)]; omega
      · rw [show z.natAbs = 9223372036854775808 by omega]
        rw [show z = -9223372036854775808 by omega]; rfl
    obtain ⟨v1, hv1⟩ : ∃ v1, IntKind.i64.wrap (z.natAbs : Int) = v1 := ⟨_, rfl⟩
    rw [hv1] at hfin
    generalize wlen z.natAbs = n at *
    generalize z.natAbs = m at *
    replace hz' := Hd.mk hz'
    replace hz := Hd.mk hz
    go_enter Tryz.func176, Tryz.ntmps176
    go_wp2_with (go_at_call 220; refine hlo.out.mono ?_; rintro e w2 ⟨rfl, rfl⟩)
    go_ret
    exact ⟨rfl, rfl⟩
  · rw [decide_eq_false hneg] at g0
    have hw1 : IntKind.i64.wrap (z.natAbs : Int) = z := by rw [IntWalk.i64_in _ (by omega)]; omega
    generalize wlen z.natAbs = n at *
    generalize z.natAbs = m at *
    replace hz' := Hd.mk hz'
    replace hz := Hd.mk hz
    go_enter Tryz.func176, Tryz.ntmps176
    go_wp2_with (go_at_call 220; refine hlo.out.mono ?_; rintro e w2 ⟨rfl, rfl⟩)
    go_ret
    exact ⟨rfl, rfl⟩
end Go.Proofs.YtdbjdpooggaonaaGreatDoor
end

section
namespace Go.Proofs.YtdbjdpooggaonaaGreatDoor
open Go.RowKit
set_option maxRecDepth 100000
set_option maxHeartbeats 2000000 in
theorem RoundInt64_ok (P : Nat → Prop) (bd : Nat) (x : Int) (S : Nat → Option Int) (w : World) (hI : Ints P w S) (hx : S bd = some x) (hw : wlen x.natAbs < 40) (hz : is64 (chopR x) = true) :
    Calls Tryz.prog 89 #[.agg #[ptr bd]] w fun e w' => e = .returned (.int .i64 (chopR x)) ∧ Keep P w w' ∧ Ints P w' S := by
  have r0 := Hd.mk (Run.start hI)
  have hlo := Hd.mk hI.low
  have hl := hI.lt hx
  clear hI
  have r1 := Hd.mk (r0.out.box #[ptr bd] 68)
  clear r0
  have hc := Hd.mk (chopRN_any _ bd x _ _ r1.out.ints hx hw)
  have hwv : wlen (chopR x).natAbs < 800 := by
    have h := of_decide_eq_true hz
    have := wlen_le (n := 1) (m := (chopR x).natAbs) (by unfold BB; omega)
    omega
  have his := Hd.mk fun (Q : Nat → Prop) B S1 w1 (h : Ints Q w1 S1) (h1 : S1 B = some (chopR x)) => IsInt64_any Q B _ S1 w1 h h1 hwv
  have hit := Hd.mk fun (Q : Nat → Prop) B S1 w1 (h : Ints Q w1 S1) (h1 : S1 B = some (chopR x)) => Int64_any Q B _ S1 w1 h h1 hz
  rw [hz] at his
  replace hz := Hd.mk hz
  replace hwv := Hd.mk hwv
  replace hx := Hd.mk hx
  generalize chopR x = v at *
  go_enter Tryz.func89, Tryz.ntmps89
  go_wp2_with (first
    | (go_at_call 173; refine hc.out.mono ?_; rintro e w3 ⟨B3, rfl, g3, hk3, hI3⟩; have r3 := Hd.mk (r1.out.op hk3 hI3); simp only [World.size_alloc] at g3; clear hk3 hI3)
    | (go_at_call 175; refine (his.out _ B3 _ _ r3.out.ints upd_same).mono ?_; rintro e w4 ⟨rfl, rfl⟩)
    | (go_at_call 176; refine (hit.out _ B3 _ _ r3.out.ints upd_same).mono ?_; rintro e w5 ⟨rfl, rfl⟩))
  go_ret
  exact ⟨rfl, r3.out.fin.1, r3.out.fin.2.sub fun k z hk => by
    have hkl := hlo.out.lt hk
    rw [upd_ne (by omega)]
    exact hk⟩
set_option maxHeartbeats 2000000 in
theorem RoundInt64_pan (P : Nat → Prop) (bd : Nat) (x : Int) (S : Nat → Option Int) (w : World) (hI : Ints P w S) (hx : S bd = some x) (hw : wlen x.natAbs < 40) (hwv : wlen (chopR x).natAbs < 800) (hz : is64 (chopR x) = false) :
    Calls Tryz.prog 89 #[.agg #[ptr bd]] w fun e w' => Pan e ∧ Keep P w w' ∧ Ints P w' S := by
  have r0 := Hd.mk (Run.start hI)
  have hlo := Hd.mk hI.low
  have hl := hI.lt hx
  clear hI
  have r1 := Hd.mk (r0.out.box #[ptr bd] 68)
  clear r0
  have hc := Hd.mk (chopRN_any _ bd x _ _ r1.out.ints hx hw)
  have his := Hd.mk fun (Q : Nat → Prop) B S1 w1 (h : Ints Q w1 S1) (h1 : S1 B = some (chopR x)) => IsInt64_any Q B _ S1 w1 h h1 hwv
  rw [hz] at his
  replace hz := Hd.mk hz
  replace hwv := Hd.mk hwv
  replace hx := Hd.mk hx
  generalize chopR x = v at *
  go_enter Tryz.func89, Tryz.ntmps89
  go_wp2_with (first
    | (go_at_call 173; refine hc.out.mono ?_; rintro e w3 ⟨B3, rfl, g3, hk3, hI3⟩; have r3 := Hd.mk (r1.out.op hk3 hI3); simp only [World.size_alloc] at g3; clear hk3 hI3)
    | (go_at_call 175; refine (his.out _ B3 _ _ r3.out.ints upd_same).mono ?_; rintro e w4 ⟨rfl, rfl⟩))
  have hf : Hd (Keep P w w3 ∧ Ints P w3 S) := ⟨r3.out.fin.1, r3.out.fin.2.sub fun k z hk => by
    have hkl := hlo.out.lt hk
    rw [upd_ne (by omega)]
    exact hk⟩
  first | exact ⟨⟨_, _, rfl⟩, hf.out⟩ | exact ⟨rfl, ⟨_, _, rfl⟩, hf.out⟩
set_option maxHeartbeats 2000000 in
theorem TruncateInt64_ok (P : Nat → Prop) (bd : Nat) (x : Int) (S : Nat → Option Int) (w : World) (hI : Ints P w S) (hx : S bd = some x) (hw : wlen x.natAbs < 40) (hz : is64 (x.tdiv E18) = true) :
    Calls Tryz.prog 91 #[.agg #[ptr bd]] w fun e w' => e = .returned (.int .i64 (x.tdiv E18)) ∧ Keep P w w' ∧ Ints P w' S := by
  have r0 := Hd.mk (Run.start hI)
  have hlo := Hd.mk hI.low
  have hl := hI.lt hx
  clear hI
  have r1 := Hd.mk (r0.out.box #[ptr bd] 68)
  clear r0
  have hc := Hd.mk (chopTN_any _ bd x _ _ r1.out.ints hx hw)
  have hwv : wlen (x.tdiv E18).natAbs < 800 := by
    have h := of_decide_eq_true hz
    have := wlen_le (n := 1) (m := (x.tdiv E18).natAbs) (by unfold BB; omega)
    omega
  have his := Hd.mk fun (Q : Nat → Prop) B S1 w1 (h : Ints Q w1 S1) (h1 : S1 B = some (x.tdiv E18)) => IsInt64_any Q B _ S1 w1 h h1 hwv
  have hit := Hd.mk fun (Q : Nat → Prop) B S1 w1 (h : Ints Q w1 S1) (h1 : S1 B = some (x.tdiv E18)) => Int64_any Q B _ S1 w1 h h1 hz
  rw [hz] at his
  replace hz := Hd.mk hz
  replace hwv := Hd.mk hwv
  replace hx := Hd.mk hx
  generalize x.tdiv E18 = v at *
  go_enter Tryz.func91, Tryz.ntmps91
  go_wp2_with (first
    | (go_at_call 174; refine hc.out.mono ?_; rintro e w3 ⟨B3, rfl, g3, hk3, hI3⟩; have r3 := Hd.mk (r1.out.op hk3 hI3); simp only [World.size_alloc] at g3; clear hk3 hI3)
    | (go_at_call 175; refine (his.out _ B3 _ _ r3.out.ints upd_same).mono ?_; rintro e w4 ⟨rfl, rfl⟩)
    | (go_at_call 176; refine (hit.out _ B3 _ _ r3.out.ints upd_same).mono ?_; rintro e w5 ⟨rfl, rfl⟩))
  go_ret
  exact ⟨rfl, r3.out.fin.1, r3.out.fin.2.sub fun k z hk => by
    have hkl := hlo.out.lt hk
    rw [upd_ne (by omega)]
    exact hk⟩
set_option maxHeartbeats 2000000 in
theorem TruncateInt64_pan (P : Nat → Prop) (bd : Nat) (x : Int) (S : Nat → Option Int) (w : World) (hI : Ints P w S) (hx : S bd = some x) (hw : wlen x.natAbs < 40) (hwv : wlen (x.tdiv E18).natAbs < 800) (hz : is64 (x.tdiv E18) = false) :
    Calls Tryz.prog 91 #[.agg #[ptr bd]] w fun e w' => Pan e ∧ Keep P w w' ∧ Ints P w' S := by
  have r0 := Hd.mk (Run.start hI)
  have hlo := Hd.mk hI.low
  have hl := hI.lt hx
  clear hI
  have r1 := Hd.mk (r0.out.box #[ptr bd] 68)
  clear r0
  have hc := Hd.mk (chopTN_any _ bd x _ _ r1.out.ints hx hw)
  have his := Hd.mk fun (Q : Nat → Prop) B S1 w1 (h : Ints Q w1 S1) (h1 : S1 B = some (x.tdiv E18)) => IsInt64_any Q B _ S1 w1 h h1 hwv
  rw [hz] at his
  replace hz := Hd.mk hz
  replace hwv := Hd.mk hwv
  replace hx := Hd.mk hx
  generalize x.tdiv E18 = v at *
  go_enter Tryz.func91, Tryz.ntmps91
  go_wp2_with (first
    | (go_at_call 174; refine hc.out.mono ?_; rintro e w3 ⟨B3, rfl, g3, hk3, hI3⟩; have r3 := Hd.mk (r1.out.op hk3 hI3); simp only [World.size_alloc] at g3; clear hk3 hI3)
    | (go_at_call 175; refine (his.out _ B3 _ _ r3.out.ints upd_same).mono ?_; rintro e w4 ⟨rfl, rfl⟩))
  have hf : Hd (Keep P w w3 ∧ Ints P w3 S) := ⟨r3.out.fin.1, r3.out.fin.2.sub fun k z hk => by
    have hkl := hlo.out.lt hk
    rw [upd_ne (by omega)]
    exact hk⟩
  first | exact ⟨⟨_, _, rfl⟩, hf.out⟩ | exact ⟨rfl, ⟨_, _, rfl⟩, hf.out⟩
set_option maxHeartbeats 2000000 in
theorem RoundInt64C_ok (Q : Nat → Prop) (b2 bx B : Nat) (L : List Value) (u0 : Value) (x : Int) (S : Nat → Option Int) (w : World) (hI : Ints Q w S) (hx : S B = some x) (hw : wlen x.natAbs < 40) (hz : is64 (chopR x) = true) (hQ : Q bx) (hQ2 : Q b2) (h100 : 16 ≤ bx) (hb2 : Blk w b2 68 [ptr B]) (hbx : Blk w bx 48 L) (hL : L[8]? = some u0) :
    Calls Tryz.prog 88 #[ptr b2, ptr bx] w fun e w' => e = .returned (.tuple #[]) ∧ Keep (fun k => Q k ∧ k ≠ bx) w w' ∧ Ints Q w' S ∧ Blk w' bx 48 (L.set 8 (.int .i64 (chopR x))) := by
  have hm := Hd.mk (RoundInt64_ok Q B x S w hI hx hw hz)
  have hpg := Hd.mk hI.pg
  have c2 := hb2.cell 0
  simp only [List.getElem?_cons_zero] at c2
  generalize chopR x = v at *
  replace hI := Hd.mk hI
  replace hx := Hd.mk hx
  replace hz := Hd.mk hz
  replace hb2 := Hd.mk hb2
  replace hQ := Hd.mk hQ
  go_enter Tryz.func88, Tryz.ntmps88
  go_wp2_with (go_at_call 89; refine hm.out.mono ?_; rintro e w3 ⟨rfl, hk3, hI3⟩; have hbx3 := Hd.mk (hk3.blk hbx hQ.out); have d3 := hbx3.out.cell 8; rw [hL] at d3; have d3z := hbx3.out.frozen 8; replace hk3 := Hd.mk hk3; replace hI3 := Hd.mk hI3)
  have hp := (Put.refl hbx3.out).set 8 (.int .i64 v)
  go_end0
  exact ⟨rfl, (hk3.out.sub fun k hk => hk.1).put hp (fun h => h.2 rfl), hI3.out.poke hp hQ.out h100 hpg.out (fun k hk => hk), hp.here⟩
set_option maxHeartbeats 2000000 in
theorem RoundInt64C_pan (Q : Nat → Prop) (b2 bx B : Nat) (x : Int) (S : Nat → Option Int) (w : World) (hI : Ints Q w S) (hx : S B = some x) (hw : wlen x.natAbs < 40) (hwv : wlen (chopR x).natAbs < 800) (hz : is64 (chopR x) = false) (hb2 : Blk w b2 68 [ptr B]) :
    Calls Tryz.prog 88 #[ptr b2, ptr bx] w fun e w' => Pan e ∧ Keep Q w w' ∧ Ints Q w' S := by
  have hm := Hd.mk (RoundInt64_pan Q B x S w hI hx hw hwv hz)
  have c2 := hb2.cell 0
  simp only [List.getElem?_cons_zero] at c2
  generalize chopR x = v at *
  replace hI := Hd.mk hI
  replace hx := Hd.mk hx
  replace hz := Hd.mk hz
  replace hb2 := Hd.mk hb2
  go_enter Tryz.func88, Tryz.ntmps88
  go_wp2_with fail
  refine hm.out.mono ?_
  rintro e w3 ⟨⟨u3, v3, rfl⟩, hk3, hI3⟩
  have hf := Hd.mk (And.intro hk3 hI3)
  clear hk3 hI3
  first | exact ⟨⟨_, _, rfl⟩, hf.out⟩ | exact ⟨rfl, ⟨_, _, rfl⟩, hf.out⟩
set_option maxHeartbeats 2000000 in
theorem TruncateInt64C_ok (Q : Nat → Prop) (b2 bx B : Nat) (L : List Value) (u0 : Value) (x : Int) (S : Nat → Option Int) (w : World) (hI : Ints Q w S) (hx : S B = some x) (hw : wlen x.natAbs < 40) (hz : is64 (x.tdiv E18) = true) (hQ : Q bx) (hQ2 : Q b2) (h100 : 16 ≤ bx) (hb2 : Blk w b2 68 [ptr B]) (hbx : Blk w bx 48 L) (hL : L[9]? = some u0) :
    Calls Tryz.prog 90 #[ptr b2, ptr bx] w fun e w' => e = .returned (.tuple #[]) ∧ Keep (fun k => Q k ∧ k ≠ bx) w w' ∧ Ints Q w' S ∧ Blk w' bx 48 (L.set 9 (.int .i64 (x.tdiv E18))) := by
  have hm := Hd.mk (TruncateInt64_ok Q B x S w hI hx hw hz)
  have hpg := Hd.mk hI.pg
  have c2 := hb2.cell 0
  simp only [List.getElem?_cons_zero] at c2
  generalize x.tdiv E18 = v at *
  replace hI := Hd.mk hI
  replace hx := Hd.mk hx
  replace hz := Hd.mk hz
  replace hb2 := Hd.mk hb2
  replace hQ := Hd.mk hQ
  go_enter Tryz.func90, Tryz.ntmps90
  go_wp2_with (go_at_call 91; refine hm.out.mono ?_; rintro e w3 ⟨rfl, hk3, hI3⟩; have hbx3 := Hd.mk (hk3.blk hbx hQ.out); have d3 := hbx3.out.cell 9; rw [hL] at d3; have d3z := hbx3.out.frozen 9; replace hk3 := Hd.mk hk3; replace hI3 := Hd.mk hI3)
  have hp := (Put.refl hbx3.out).set 9 (.int .i64 v)
  go_end0
  exact ⟨rfl, (hk3.out.sub fun k hk => hk.1).put hp (fun h => h.2 rfl), hI3.out.poke hp hQ.out h100 hpg.out (fun k hk => hk), hp.here⟩
set_option maxHeartbeats 2000000 in
theorem TruncateInt64C_pan (Q : Nat → Prop) (b2 bx B : Nat) (x : Int) (S : Nat → Option Int) (w : World) (hI : Ints Q w S) (hx : S B = some x) (hw : wlen x.natAbs < 40) (hwv : wlen (x.tdiv E18).natAbs < 800) (hz : is64 (x.tdiv E18) = false) (hb2 : Blk w b2 68 [ptr B]) :
    Calls Tryz.prog 90 #[ptr b2, ptr bx] w fun e w' => Pan e ∧ Keep Q w w' ∧ Ints Q w' S := by
  have hm := Hd.mk (TruncateInt64_pan Q B x S w hI hx hw hwv hz)
  have c2 := hb2.cell 0
  simp only [List.getElem?_cons_zero] at c2
  generalize x.tdiv E18 = v at *
  replace hI := Hd.mk hI
  replace hx := Hd.mk hx
  replace hz := Hd.mk hz
  replace hb2 := Hd.mk hb2
  go_enter Tryz.func90, Tryz.ntmps90
  go_wp2_with fail
  refine hm.out.mono ?_
  rintro e w3 ⟨⟨u3, v3, rfl⟩, hk3, hI3⟩
  have hf := Hd.mk (And.intro hk3 hI3)
  clear hk3 hI3
  first | exact ⟨⟨_, _, rfl⟩, hf.out⟩ | exact ⟨rfl, ⟨_, _, rfl⟩, hf.out⟩
/-- A call that turns a box. -/
theorem Run.opx {P : Nat → Prop} {w0 w w' : World} {X : Bxs} {S S' : Nat → Option Int} {b : Nat} {T : TypeId} {L L' : List Value} (h : Run P w0 w X S) (hX : X b = some (T, L)) (hk : Keep (fun k => PB P X k ∧ k ≠ b) w w') (hI : Ints (PB P X) w' S') (hb : Blk w' b T L') : Run P w0 w' (updX X b (T, L')) S' := by
  have hn : X b ≠ none := by rw [hX]; exact fun h => by cases h
  refine ⟨h.keep.trans (hk.sub fun k hk => ⟨.inl hk, fun e => h.new b hn (e ▸ hk)⟩), hI.less (fun k hk => .inl (h.pg k hk)) (fun k hk => ?_), fun c T' vs e => ?_, fun c hc => ?_, h.pg⟩
  · rcases hk with hk | hk
    · exact .inl hk
    · by_cases e : k = b
      · exact .inr (e ▸ hn)
      · rw [updX_ne e] at hk; exact .inr hk
  · by_cases e' : c = b
    · subst e'; rw [updX_same] at e; cases e; exact hb
    · rw [updX_ne e'] at e
      exact hk.blk (h.bx c T' vs e) ⟨.inr (by rw [e]; exact fun h => by cases h), e'⟩
  · by_cases e' : c = b
    · exact e' ▸ h.new b hn
    · rw [updX_ne e'] at hc; exact h.new c hc
end Go.Proofs.YtdbjdpooggaonaaGreatDoor
end

section
namespace Go.Proofs.YtdbjdpooggaonaaGreatDoor
open Go.RowKit
set_option maxRecDepth 100000
set_option maxHeartbeats 1000000 in
theorem safeRoundInt64 (P : Nat → Prop) (b2 bx B : Nat) (L : List Value) (x : Int) (w0 w : World) (X : Bxs) (S : Nat → Option Int) (r : Run P w0 w X S) (h2 : X b2 = some (68, [ptr B])) (hX : X bx = some (48, L)) (hL : L[8]? = some (.int .i64 0)) (hx : S B = some x) (hw : wlen x.natAbs < 40) (hwv : wlen (chopR x).natAbs < 800) (hbb : b2 ≠ bx) :
    Calls Tryz.prog 33 #[.func (.func 88) #[] #[ptr b2, ptr bx]] w fun e w' => e = .returned (.bool (is64 (chopR x))) ∧ ∃ X', Run P w0 w' X' S ∧ X' b2 = some (68, [ptr B]) ∧ X' bx = some (48, L.set 8 (.int .i64 (if is64 (chopR x) = true then (chopR x) else 0))) := by
  have l2 := r.lt h2
  have lx := r.lt hX
  have r1 := r.box #[.bool false] 4
  have h2' : updX X w.heap.size (4, [Value.bool false]) b2 = some (68, [ptr B]) := by rw [updX_ne (by omega)]; exact h2
  have hX' : updX X w.heap.size (4, [Value.bool false]) bx = some (48, L) := by rw [updX_ne (by omega)]; exact hX
  have hox : updX X w.heap.size (4, [Value.bool false]) w.heap.size = some (4, [.bool false]) := updX_same
  have hbx := r1.bx bx _ _ hX'
  have hb2 := r1.bx b2 _ _ h2'
  have hQ : ∀ b c, updX X w.heap.size (4, [Value.bool false]) b = some c → PB P (updX X w.heap.size (4, [Value.bool false])) b := fun b c h => .inr (by rw [h]; exact fun h => by cases h)
  have h100 := r.big (b := bx) (by rw [hX]; exact fun h => by cases h)
  cases hz : is64 (chopR x) with
  | true =>
    rw [if_pos rfl]
    refine (safe_ok 88 _ w (fun w2 => Run P w0 w2 (updX (updX X w.heap.size (4, [Value.bool false])) bx (48, L.set 8 (.int .i64 (chopR x)))) S) (enters Tryz.func88 (by kernel_rfl) (by kernel_rfl)) ((RoundInt64C_ok _ b2 bx B L _ x S _ r1.ints hx hw hz (hQ _ _ hX') (hQ _ _ h2') h100 hb2 hbx hL).mono fun e w2 ⟨q1, q2, q3, q4⟩ => ⟨q1, q2.block _ ⟨hQ _ _ hox, by omega⟩ (by rw [World.size_alloc]; omega), r1.opx hX' q2 q3 q4⟩)).mono ?_
    rintro e w' ⟨rfl, w2, q1, q2⟩
    refine ⟨rfl, _, q1.store (b := w.heap.size) (by rw [updX_ne (by omega)]; exact hox) q2, ?_, ?_⟩
    · rw [updX_ne (by omega), updX_ne hbb, updX_ne (by omega)]; exact h2
    · rw [updX_ne (by omega), updX_same]
  | false =>
    rw [if_neg (by simp)]
    refine (safe_pan 88 _ w (fun w2 => Run P w0 w2 (updX X w.heap.size (4, [Value.bool false])) S) (enters Tryz.func88 (by kernel_rfl) (by kernel_rfl)) ((RoundInt64C_pan _ b2 bx B x S _ r1.ints hx hw hwv hz hb2).mono fun e w2 ⟨q1, q2, q3⟩ => ⟨q1, q2.block _ (hQ _ _ hox) (by rw [World.size_alloc]; omega), r1.op q2 q3⟩)).mono ?_
    rintro e w' ⟨rfl, w2, q1, q2⟩
    refine ⟨rfl, _, q1.store (b := w.heap.size) hox q2, ?_, ?_⟩
    · rw [updX_ne (by omega), updX_ne (by omega)]; exact h2
    · rw [updX_ne (by omega), updX_ne (by omega), hX]
      have : L.set 8 (.int .i64 0) = L := by
        apply List.ext_getElem?
        intro i
        rw [List.getElem?_set]
        split
        · next h => subst h; rw [hL]; have := (List.getElem?_eq_some_iff.1 hL).1; simp [this]
        · rfl
      rw [this]
set_option maxHeartbeats 1000000 in
theorem safeTruncateInt64 (P : Nat → Prop) (b2 bx B : Nat) (L : List Value) (x : Int) (w0 w : World) (X : Bxs) (S : Nat → Option Int) (r : Run P w0 w X S) (h2 : X b2 = some (68, [ptr B])) (hX : X bx = some (48, L)) (hL : L[9]? = some (.int .i64 0)) (hx : S B = some x) (hw : wlen x.natAbs < 40) (hwv : wlen (x.tdiv E18).natAbs < 800) (hbb : b2 ≠ bx) :
    Calls Tryz.prog 33 #[.func (.func 90) #[] #[ptr b2, ptr bx]] w fun e w' => e = .returned (.bool (is64 (x.tdiv E18))) ∧ ∃ X', Run P w0 w' X' S ∧ X' b2 = some (68, [ptr B]) ∧ X' bx = some (48, L.set 9 (.int .i64 (if is64 (x.tdiv E18) = true then (x.tdiv E18) else 0))) := by
  have l2 := r.lt h2
  have lx := r.lt hX
  have r1 := r.box #[.bool false] 4
  have h2' : updX X w.heap.size (4, [Value.bool false]) b2 = some (68, [ptr B]) := by rw [updX_ne (by omega)]; exact h2
  have hX' : updX X w.heap.size (4, [Value.bool false]) bx = some (48, L) := by rw [updX_ne (by omega)]; exact hX
  have hox : updX X w.heap.size (4, [Value.bool false]) w.heap.size = some (4, [.bool false]) := updX_same
  have hbx := r1.bx bx _ _ hX'
  have hb2 := r1.bx b2 _ _ h2'
  have hQ : ∀ b c, updX X w.heap.size (4, [Value.bool false]) b = some c → PB P (updX X w.heap.size (4, [Value.bool false])) b := fun b c h => .inr (by rw [h]; exact fun h => by cases h)
  have h100 := r.big (b := bx) (by rw [hX]; exact fun h => by cases h)
  cases hz : is64 (x.tdiv E18) with
  | true =>
    rw [if_pos rfl]
    refine (safe_ok 90 _ w (fun w2 => Run P w0 w2 (updX (updX X w.heap.size (4, [Value.bool false])) bx (48, L.set 9 (.int .i64 (x.tdiv E18)))) S) (enters Tryz.func90 (by kernel_rfl) (by kernel_rfl)) ((TruncateInt64C_ok _ b2 bx B L _ x S _ r1.ints hx hw hz (hQ _ _ hX') (hQ _ _ h2') h100 hb2 hbx hL).mono fun e w2 ⟨q1, q2, q3, q4⟩ => ⟨q1, q2.block _ ⟨hQ _ _ hox, by omega⟩ (by rw [World.size_alloc]; omega), r1.opx hX' q2 q3 q4⟩)).mono ?_
    rintro e w' ⟨rfl, w2, q1, q2⟩
    refine ⟨rfl, _, q1.store (b := w.heap.size) (by rw [updX_ne (by omega)]; exact hox) q2, ?_, ?_⟩
    · rw [updX_ne (by omega), updX_ne hbb, updX_ne (by omega)]; exact h2
    · rw [updX_ne (by omega), updX_same]
  | false =>
    rw [if_neg (by simp)]
    refine (safe_pan 90 _ w (fun w2 => Run P w0 w2 (updX X w.heap.size (4, [Value.bool false])) S) (enters Tryz.func90 (by kernel_rfl) (by kernel_rfl)) ((TruncateInt64C_pan _ b2 bx B x S _ r1.ints hx hw hwv hz hb2).mono fun e w2 ⟨q1, q2, q3⟩ => ⟨q1, q2.block _ (hQ _ _ hox) (by rw [World.size_alloc]; omega), r1.op q2 q3⟩)).mono ?_
    rintro e w' ⟨rfl, w2, q1, q2⟩
    refine ⟨rfl, _, q1.store (b := w.heap.size) hox q2, ?_, ?_⟩
    · rw [updX_ne (by omega), updX_ne (by omega)]; exact h2
    · rw [updX_ne (by omega), updX_ne (by omega), hX]
      have : L.set 9 (.int .i64 0) = L := by
        apply List.ext_getElem?
        intro i
        rw [List.getElem?_set]
        split
        · next h => subst h; rw [hL]; have := (List.getElem?_eq_some_iff.1 hL).1; simp [this]
        · rfl
      rw [this]
theorem Run.start1 {w : World} (hok : Ok w) {b : Nat} {T : TypeId} {L : List Value} (hb : Blk w b T L) (hb1 : 16 ≤ b) :
    Run (fun k => k < w.heap.size ∧ k ≠ b) w w (updX (fun _ => none) b (T, L)) (fun _ => none) := by
  refine ⟨Keep.refl _ _, hok.none.less (fun k hk => .inl ⟨by have := hok.2; omega, by omega⟩) (fun k hk => ?_), fun k T' vs e => ?_, fun k hk hP => ?_, fun k hk => ⟨by have := hok.2; omega, by omega⟩⟩
  · rcases hk with hk | hk
    · exact hk.1
    · by_cases e : k = b
      · rw [e]; exact hb.lt
      · rw [updX_ne e] at hk; exact absurd rfl hk
  · by_cases e1 : k = b
    · subst e1; rw [updX_same] at e; cases e; exact hb
    · rw [updX_ne e1] at e; cases e
  · rw [updX_ne hP.2] at hk; exact hk rfl
/-- What a decimal tells, as cells. -/
def abL (t : ByteArray) (b1 b2 b3 b4 b5 : Bool) (s6 s7 : ByteArray) (v8 v9 : Int) (b10 b11 : Bool) : List Value := [.string t, .bool b1, .bool b2, .bool b3, .bool b4, .bool b5, .string s6, .string s7, .int .i64 v8, .int .i64 v9, .bool b10, .bool b11]
set_option maxHeartbeats 4000000 in
theorem DecTellC_ok (ba bx : Nat) (x : Int) (w : World) (hok : Ok w) (her : Er w) (hx : inR x = true) (hr : (chopR x).natAbs < 2 ^ 256) (ht : (x.tdiv E18).natAbs < 2 ^ 256)
    (ha : Blk w ba 9 [.string (zT x)]) (hb : Blk w bx 48 (abL (ByteArray.mk #[]) false false false false false (ByteArray.mk #[]) (ByteArray.mk #[]) 0 0 false false)) (hab : ba ≠ bx) (h100 : 16 ≤ bx) :
    Calls Tryz.prog 79 #[ptr ba, ptr bx] w fun e w' => e = .returned (.tuple #[]) ∧ Keep (fun k => k < w.heap.size ∧ k ≠ bx) w w' ∧
      Blk w' bx 48 (abL (mkT (decL x)) (decide (x.tmod E18 = 0)) (decide (x = 0)) (decide (x < 0)) (decide (0 < x)) true (zT (chopR x)) (zT (x.tdiv E18)) (if is64 (chopR x) = true then chopR x else 0) (if is64 (x.tdiv E18) = true then x.tdiv E18 else 0) (is64 (chopR x)) (is64 (x.tdiv E18))) := by
  have r0 := Hd.mk (Run.start1 hok hb h100)
  have hwx := inR_wl hx
  have hd0 := Hd.mk (decimal_ok x w hok her (inR_130 hx))
  have ca := ha.cell 0
  simp only [List.getElem?_cons_zero] at ca
  have la := ha.lt
  have lx := hb.lt
  have hst := Hd.mk fun (Q : Nat → Prop) B S1 w1 (h : Ints Q w1 S1) (h1 : S1 B = some x) => dString_any Q B x S1 w1 h h1 (by omega)
  have hc1 := Hd.mk fun (Q : Nat → Prop) B S1 w1 (h : Ints Q w1 S1) (h1 : S1 B = some x) => dIsInt_any Q B x S1 w1 h h1 (by omega)
  have hc2 := Hd.mk fun (Q : Nat → Prop) B S1 w1 (h : Ints Q w1 S1) (h1 : S1 B = some x) => dIsZero_any Q B x S1 w1 h h1
  have hc3 := Hd.mk fun (Q : Nat → Prop) B S1 w1 (h : Ints Q w1 S1) (h1 : S1 B = some x) => dIsNeg_any Q B x S1 w1 h h1
  have hc4 := Hd.mk fun (Q : Nat → Prop) B S1 w1 (h : Ints Q w1 S1) (h1 : S1 B = some x) => dIsPos_any Q B x S1 w1 h h1
  have hc5 := Hd.mk fun (Q : Nat → Prop) B S1 w1 (h : Ints Q w1 S1) (h1 : S1 B = some x) => inRange_any Q B x S1 w1 h h1 (by omega)
  have hri := Hd.mk fun (Q : Nat → Prop) B S1 w1 (h : Ints Q w1 S1) (h1 : S1 B = some x) => RoundInt_ok Q B x S1 w1 h h1 (by omega) hr
  have hti := Hd.mk fun (Q : Nat → Prop) B S1 w1 (h : Ints Q w1 S1) (h1 : S1 B = some x) => TruncateInt_ok Q B x S1 w1 h h1 (by omega) ht
  have hwr := wl256 hr
  have hwt := wl256 ht
  have hsr := Hd.mk fun (Q : Nat → Prop) B S1 w1 (h : Ints Q w1 S1) (h1 : S1 B = some (chopR x)) => cIntString_any Q B _ S1 w1 h h1 (by omega)
  have hstt := Hd.mk fun (Q : Nat → Prop) B S1 w1 (h : Ints Q w1 S1) (h1 : S1 B = some (x.tdiv E18)) => cIntString_any Q B _ S1 w1 h h1 (by omega)
  have hs64 := Hd.mk fun P b2 bx B L w0 w X S r h2 hX hL hx hbb => safeRoundInt64 P b2 bx B L x w0 w X S r h2 hX hL hx (by omega) (by omega) hbb
  have ht64 := Hd.mk fun P b2 bx B L w0 w X S r h2 hX hL hx hbb => safeTruncateInt64 P b2 bx B L x w0 w X S r h2 hX hL hx (by omega) (by omega) hbb
  rw [hx] at hc5
  clear hwr hwt
  replace hr := Hd.mk hr
  replace ht := Hd.mk ht
  replace hx := Hd.mk hx
  generalize zT x = sx at *
  generalize mkT (decL x) = s0 at *
  generalize zT (chopR x) = s6 at *
  generalize zT (x.tdiv E18) = s7 at *
  generalize decide (x.tmod E18 = 0) = q1 at *
  generalize decide (x = 0) = q2 at *
  generalize decide (x < 0) = q3 at *
  generalize decide (0 < x) = q4 at *
  generalize is64 (chopR x) = q10 at *
  generalize is64 (x.tdiv E18) = q11 at *
  generalize chopR x = v6 at *
  generalize x.tdiv E18 = v7 at *
  generalize (if q10 = true then v6 else 0) = v8 at *
  generalize (if q11 = true then v7 else 0) = v9 at *
  replace ha := Hd.mk ha
  replace hb := Hd.mk hb
  have hmf : ∀ (fn : Fn) (first cap : Array Value) (w : World), (Instr.makeFunc fn first cap).run Tryz.prog w = .ok (.func fn first cap) w := fun _ _ _ _ => rfl
  go_enter Tryz.func79, Tryz.ntmps79
  go_upto_region 1 with (go_at_call 42; refine hd0.out.mono ?_; rintro e w2 ⟨B2, rfl, hn2⟩; have r2 := Hd.mk (r0.out.new_int hn2); have s2 := hn2.bel.size; have l2 := r2.out.ilt upd_same; clear hn2)
  have r3 := Hd.mk (r2.out.box #[ptr B2] 68)
  have hb2x : w2.heap.size ≠ bx := by omega
  obtain ⟨c3, c3z, c3l⟩ := r3.out.cell (b := w2.heap.size) updX_same
  have h2x := Hd.mk (p := updX (updX (fun _ => none) bx (48, (abL (ByteArray.mk #[]) false false false false false (ByteArray.mk #[]) (ByteArray.mk #[]) 0 0 false false))) w2.heap.size (68, [ptr B2]) w2.heap.size = some (68, [ptr B2])) updX_same
  have hxx := Hd.mk (p := updX (updX (fun _ => none) bx (48, (abL (ByteArray.mk #[]) false false false false false (ByteArray.mk #[]) (ByteArray.mk #[]) 0 0 false false))) w2.heap.size (68, [ptr B2]) bx = some (48, (abL (ByteArray.mk #[]) false false false false false (ByteArray.mk #[]) (ByteArray.mk #[]) 0 0 false false))) (by rw [updX_ne (fun e => hb2x e.symm)]; exact updX_same)
  have r3 := Hd.mk (p := Run (fun k => k < w.heap.size ∧ k ≠ bx) w (w2.alloc (.cells #[ptr B2] 68)) (updX (updX (fun _ => none) bx (48, (abL (ByteArray.mk #[]) false false false false false (ByteArray.mk #[]) (ByteArray.mk #[]) 0 0 false false))) w2.heap.size (68, [ptr B2])) _) r3.out
  have hS2 := Hd.mk (p := upd (fun _ => none) B2 x B2 = some x) upd_same
  generalize updX (updX (fun _ => none) bx (48, (abL (ByteArray.mk #[]) false false false false false (ByteArray.mk #[]) (ByteArray.mk #[]) 0 0 false false))) w2.heap.size (68, [ptr B2]) = X3 at *
  generalize upd (fun _ => none) B2 x = S2 at *
  generalize hbb : w2.heap.size = b2 at *
  replace hbb := Hd.mk hbb
  go_upto_region 2 with (go_at_call 80; refine (hst.out _ B2 _ _ r3.out.ints hS2.out).mono ?_; rintro e w4 ⟨rfl, hk4, hI4⟩; have r4 := Hd.mk (r3.out.op hk4 hI4); clear hk4 hI4; have hb4 := r4.out.bx bx _ _ hxx.out; have d4_0 := hb4.cell 0; simp only [abL, List.getElem?_cons_zero, List.getElem?_cons_succ] at d4_0; have z4_0 := hb4.frozen 0; replace hb4 := Hd.mk hb4)
  have r5 := Hd.mk (p := Run (fun k => k < w.heap.size ∧ k ≠ bx) w (w4.setCell ⟨bx, 0, none⟩ (.string s0)) (updX X3 bx (48, (abL s0 false false false false false (ByteArray.mk #[]) (ByteArray.mk #[]) 0 0 false false))) _) (r4.out.store hxx.out ((Put.refl hb4.out).set 0 (.string s0)))
  have h2x5 := Hd.mk (p := updX X3 bx (48, (abL s0 false false false false false (ByteArray.mk #[]) (ByteArray.mk #[]) 0 0 false false)) b2 = some (68, [ptr B2])) (by rw [updX_ne hb2x]; exact h2x.out)
  have hxx5 := Hd.mk (p := updX X3 bx (48, (abL s0 false false false false false (ByteArray.mk #[]) (ByteArray.mk #[]) 0 0 false false)) bx = some (48, (abL s0 false false false false false (ByteArray.mk #[]) (ByteArray.mk #[]) 0 0 false false))) updX_same
  generalize updX X3 bx (48, (abL s0 false false false false false (ByteArray.mk #[]) (ByteArray.mk #[]) 0 0 false false)) = X5 at *
  generalize (w4.setCell ⟨bx, 0, none⟩ (.string s0)) = w5 at *
  clear hxx h2x hb4 r4
  have hxx := hxx5; have h2x := h2x5; clear hxx5 h2x5
  have c5 : w5.cell? ⟨b2, 0, none⟩ = some (ptr B2) := (r5.out.bx _ _ _ h2x.out).cell 0
  have c5d : w5.drew.cell? ⟨b2, 0, none⟩ = some (ptr B2) := c5
  go_region_held3 (fun wx => wx.cell? ⟨b2, 0, none⟩ = some (ptr B2)) (first | with_reducible exact c5d | with_reducible exact c6 | with_reducible exact c7 | with_reducible exact c8 | with_reducible exact c9 | with_reducible exact c10 | ((repeat rw [World.cell?_setCell_far _ _ _ _ (show bx ≠ b2 from fun e => hb2x e.symm)]); exact c10)) (first | (go_at_call 81; refine (hc1.out _ B2 _ _ r5.out.drew.ints hS2.out).mono ?_; rintro e w6 ⟨rfl, hk6, hI6⟩; have r6 := Hd.mk (r5.out.drew.op hk6 hI6); clear hk6 hI6; have c6 : w6.cell? ⟨b2, 0, none⟩ = some (ptr B2) := (r6.out.bx _ _ _ h2x.out).cell 0) | (go_at_call 82; refine (hc2.out _ B2 _ _ r6.out.ints hS2.out).mono ?_; rintro e w7 ⟨rfl, hk7, hI7⟩; have r7 := Hd.mk (r6.out.op hk7 hI7); clear hk7 hI7; have c7 : w7.cell? ⟨b2, 0, none⟩ = some (ptr B2) := (r7.out.bx _ _ _ h2x.out).cell 0) | (go_at_call 83; refine (hc3.out _ B2 _ _ r7.out.ints hS2.out).mono ?_; rintro e w8 ⟨rfl, hk8, hI8⟩; have r8 := Hd.mk (r7.out.op hk8 hI8); clear hk8 hI8; have c8 : w8.cell? ⟨b2, 0, none⟩ = some (ptr B2) := (r8.out.bx _ _ _ h2x.out).cell 0) | (go_at_call 84; refine (hc4.out _ B2 _ _ r8.out.ints hS2.out).mono ?_; rintro e w9 ⟨rfl, hk9, hI9⟩; have r9 := Hd.mk (r8.out.op hk9 hI9); clear hk9 hI9; have c9 : w9.cell? ⟨b2, 0, none⟩ = some (ptr B2) := (r9.out.bx _ _ _ h2x.out).cell 0) | (go_at_call 85; refine (hc5.out _ B2 _ _ r9.out.ints hS2.out).mono ?_; rintro e w10 ⟨rfl, hk10, hI10⟩; have r10 := Hd.mk (r9.out.op hk10 hI10); clear hk10 hI10; have c10 : w10.cell? ⟨b2, 0, none⟩ = some (ptr B2) := (r10.out.bx _ _ _ h2x.out).cell 0; have hb10 := r10.out.bx bx _ _ hxx.out; have d10_1 := hb10.cell 1; simp only [abL, List.getElem?_cons_zero, List.getElem?_cons_succ] at d10_1; have z10_1 := hb10.frozen 1; have d10_2 := hb10.cell 2; simp only [abL, List.getElem?_cons_zero, List.getElem?_cons_succ] at d10_2; have z10_2 := hb10.frozen 2; have d10_3 := hb10.cell 3; simp only [abL, List.getElem?_cons_zero, List.getElem?_cons_succ] at d10_3; have z10_3 := hb10.frozen 3; have d10_4 := hb10.cell 4; simp only [abL, List.getElem?_cons_zero, List.getElem?_cons_succ] at d10_4; have z10_4 := hb10.frozen 4; have d10_5 := hb10.cell 5; simp only [abL, List.getElem?_cons_zero, List.getElem?_cons_succ] at d10_5; have z10_5 := hb10.frozen 5; replace hb10 := Hd.mk hb10))
  have r11 := Hd.mk (p := Run (fun k => k < w.heap.size ∧ k ≠ bx) w (((((w10.setCell ⟨bx, 1, none⟩ (.bool q1)).setCell ⟨bx, 2, none⟩ (.bool q2)).setCell ⟨bx, 3, none⟩ (.bool q3)).setCell ⟨bx, 4, none⟩ (.bool q4)).setCell ⟨bx, 5, none⟩ (.bool true)) (updX X5 bx (48, (abL s0 q1 q2 q3 q4 true (ByteArray.mk #[]) (ByteArray.mk #[]) 0 0 false false))) _) (r10.out.store hxx.out ((((((Put.refl hb10.out).set 1 (.bool q1)).set 2 (.bool q2)).set 3 (.bool q3)).set 4 (.bool q4)).set 5 (.bool true)))
  have h2x11 := Hd.mk (p := updX X5 bx (48, (abL s0 q1 q2 q3 q4 true (ByteArray.mk #[]) (ByteArray.mk #[]) 0 0 false false)) b2 = some (68, [ptr B2])) (by rw [updX_ne hb2x]; exact h2x.out)
  have hxx11 := Hd.mk (p := updX X5 bx (48, (abL s0 q1 q2 q3 q4 true (ByteArray.mk #[]) (ByteArray.mk #[]) 0 0 false false)) bx = some (48, (abL s0 q1 q2 q3 q4 true (ByteArray.mk #[]) (ByteArray.mk #[]) 0 0 false false))) updX_same
  generalize updX X5 bx (48, (abL s0 q1 q2 q3 q4 true (ByteArray.mk #[]) (ByteArray.mk #[]) 0 0 false false)) = X11 at *
  generalize (((((w10.setCell ⟨bx, 1, none⟩ (.bool q1)).setCell ⟨bx, 2, none⟩ (.bool q2)).setCell ⟨bx, 3, none⟩ (.bool q3)).setCell ⟨bx, 4, none⟩ (.bool q4)).setCell ⟨bx, 5, none⟩ (.bool true)) = w11 at *
  clear hxx h2x hb10 r10
  have hxx := hxx11; have h2x := h2x11; clear hxx11 h2x11
  clear c5 c6 c7 c8 c9 c10
  have c11 : w11.cell? ⟨b2, 0, none⟩ = some (ptr B2) := (r11.out.bx _ _ _ h2x.out).cell 0
  have c11d : w11.drew.cell? ⟨b2, 0, none⟩ = some (ptr B2) := c11
  have l11 := r11.out.ilt hS2.out
  go_wp2_with fail
  go_region_held3 (fun wx => wx.cell? ⟨b2, 0, none⟩ = some (ptr B2)) (first | with_reducible exact c11d | with_reducible exact c12 | with_reducible exact c13 | with_reducible exact c14 | with_reducible exact c15 | ((repeat rw [World.cell?_setCell_far _ _ _ _ (show bx ≠ b2 from fun e => hb2x e.symm)]); exact c15)) (first | (go_at_call 86; refine (hri.out _ B2 _ _ r11.out.drew.ints hS2.out).mono ?_; rintro e w12 ⟨B6, rfl, g6, hk12, hI12⟩; have r12 := Hd.mk (r11.out.drew.op hk12 hI12); have s12 := hk12.size; (try simp only [World.size_drew] at g6 s12); clear hk12 hI12; have c12 : w12.cell? ⟨b2, 0, none⟩ = some (ptr B2) := (r12.out.bx _ _ _ h2x.out).cell 0) | (go_at_call 60; (with_reducible show Calls _ _ #[Value.agg #[ptr B6]] _ _); refine (hsr.out _ B6 _ _ r12.out.ints upd_same).mono ?_; rintro e w13 ⟨rfl, hk13, hI13⟩; have r13 := Hd.mk (r12.out.op hk13 hI13); have s13 := hk13.size; clear hk13 hI13; have c13 : w13.cell? ⟨b2, 0, none⟩ = some (ptr B2) := (r13.out.bx _ _ _ h2x.out).cell 0) | (go_at_call 87; refine (hti.out _ B2 _ _ r13.out.ints (by rw [upd_ne (by omega)]; exact hS2.out)).mono ?_; rintro e w14 ⟨B7, rfl, g7, hk14, hI14⟩; have r14 := Hd.mk (r13.out.op hk14 hI14); clear hk14 hI14; have c14 : w14.cell? ⟨b2, 0, none⟩ = some (ptr B2) := (r14.out.bx _ _ _ h2x.out).cell 0) | (go_at_call 60; (with_reducible show Calls _ _ #[Value.agg #[ptr B7]] _ _); refine (hstt.out _ B7 _ _ r14.out.ints upd_same).mono ?_; rintro e w15 ⟨rfl, hk15, hI15⟩; have r15 := Hd.mk (r14.out.op hk15 hI15); clear hk15 hI15; have c15 : w15.cell? ⟨b2, 0, none⟩ = some (ptr B2) := (r15.out.bx _ _ _ h2x.out).cell 0; have l15 := r14.out.ilt upd_same; have hb15 := r15.out.bx bx _ _ hxx.out; have d15_6 := hb15.cell 6; simp only [abL, List.getElem?_cons_zero, List.getElem?_cons_succ] at d15_6; have z15_6 := hb15.frozen 6; have d15_7 := hb15.cell 7; simp only [abL, List.getElem?_cons_zero, List.getElem?_cons_succ] at d15_7; have z15_7 := hb15.frozen 7; replace hb15 := Hd.mk hb15))
  have r16 := Hd.mk (p := Run (fun k => k < w.heap.size ∧ k ≠ bx) w ((w15.setCell ⟨bx, 6, none⟩ (.string s6)).setCell ⟨bx, 7, none⟩ (.string s7)) (updX X11 bx (48, (abL s0 q1 q2 q3 q4 true s6 s7 0 0 false false))) _) (r15.out.store hxx.out (((Put.refl hb15.out).set 6 (.string s6)).set 7 (.string s7)))
  have h2x16 := Hd.mk (p := updX X11 bx (48, (abL s0 q1 q2 q3 q4 true s6 s7 0 0 false false)) b2 = some (68, [ptr B2])) (by rw [updX_ne hb2x]; exact h2x.out)
  have hxx16 := Hd.mk (p := updX X11 bx (48, (abL s0 q1 q2 q3 q4 true s6 s7 0 0 false false)) bx = some (48, (abL s0 q1 q2 q3 q4 true s6 s7 0 0 false false))) updX_same
  generalize updX X11 bx (48, (abL s0 q1 q2 q3 q4 true s6 s7 0 0 false false)) = X16 at *
  generalize ((w15.setCell ⟨bx, 6, none⟩ (.string s6)).setCell ⟨bx, 7, none⟩ (.string s7)) = w16 at *
  clear hxx h2x hb15 r15
  have hxx := hxx16; have h2x := h2x16; clear hxx16 h2x16
  have hSx := Hd.mk (p := upd (upd S2 B6 v6) B7 v7 B2 = some x) (by rw [upd_ne (by omega), upd_ne (by omega)]; exact hS2.out)
  generalize upd (upd S2 B6 v6) B7 v7 = S9 at *
  go_upto_region 5 with (go_at_call 33; refine (hs64.out _ b2 bx B2 _ _ w16 _ _ r16.out h2x.out hxx.out rfl hSx.out (fun e => hb2x e)).mono ?_; rintro e w17 ⟨rfl, X17, r17, h217, hx17⟩; have hx17 : Hd (X17 bx = some (48, (abL s0 q1 q2 q3 q4 true s6 s7 v8 0 false false))) := ⟨hx17⟩; replace r17 := Hd.mk r17; replace h217 := Hd.mk h217; have hb17 := r17.out.bx bx _ _ hx17.out; have d17_10 := hb17.cell 10; simp only [abL, List.getElem?_cons_zero, List.getElem?_cons_succ] at d17_10; have z17_10 := hb17.frozen 10; replace hb17 := Hd.mk hb17)
  clear h2x hxx
  have h2x := h217; have hxx := hx17; clear h217 hx17
  have r18 := Hd.mk (p := Run (fun k => k < w.heap.size ∧ k ≠ bx) w (w17.setCell ⟨bx, 10, none⟩ (.bool q10)) (updX X17 bx (48, (abL s0 q1 q2 q3 q4 true s6 s7 v8 0 q10 false))) _) (r17.out.store hxx.out ((Put.refl hb17.out).set 10 (.bool q10)))
  have h2x18 := Hd.mk (p := updX X17 bx (48, (abL s0 q1 q2 q3 q4 true s6 s7 v8 0 q10 false)) b2 = some (68, [ptr B2])) (by rw [updX_ne hb2x]; exact h2x.out)
  have hxx18 := Hd.mk (p := updX X17 bx (48, (abL s0 q1 q2 q3 q4 true s6 s7 v8 0 q10 false)) bx = some (48, (abL s0 q1 q2 q3 q4 true s6 s7 v8 0 q10 false))) updX_same
  generalize updX X17 bx (48, (abL s0 q1 q2 q3 q4 true s6 s7 v8 0 q10 false)) = X18 at *
  generalize (w17.setCell ⟨bx, 10, none⟩ (.bool q10)) = w18 at *
  clear hxx h2x hb17 r17
  have hxx := hxx18; have h2x := h2x18; clear hxx18 h2x18
  go_wp2_with (go_at_call 33; refine (ht64.out _ b2 bx B2 _ _ w18 _ _ r18.out h2x.out hxx.out rfl hSx.out (fun e => hb2x e)).mono ?_; rintro e w19 ⟨rfl, X19, r19, h219, hx19⟩; have hx19 : Hd (X19 bx = some (48, (abL s0 q1 q2 q3 q4 true s6 s7 v8 v9 q10 false))) := ⟨hx19⟩; replace r19 := Hd.mk r19; replace h219 := Hd.mk h219; have hb19 := r19.out.bx bx _ _ hx19.out; have d19_11 := hb19.cell 11; simp only [abL, List.getElem?_cons_zero, List.getElem?_cons_succ] at d19_11; have z19_11 := hb19.frozen 11; replace hb19 := Hd.mk hb19)
  clear h2x hxx
  have h2x := h219; have hxx := hx19; clear h219 hx19
  have r20 := Hd.mk (p := Run (fun k => k < w.heap.size ∧ k ≠ bx) w (w19.setCell ⟨bx, 11, none⟩ (.bool q11)) (updX X19 bx (48, (abL s0 q1 q2 q3 q4 true s6 s7 v8 v9 q10 q11))) _) (r19.out.store hxx.out ((Put.refl hb19.out).set 11 (.bool q11)))
  have h2x20 := Hd.mk (p := updX X19 bx (48, (abL s0 q1 q2 q3 q4 true s6 s7 v8 v9 q10 q11)) b2 = some (68, [ptr B2])) (by rw [updX_ne hb2x]; exact h2x.out)
  have hxx20 := Hd.mk (p := updX X19 bx (48, (abL s0 q1 q2 q3 q4 true s6 s7 v8 v9 q10 q11)) bx = some (48, (abL s0 q1 q2 q3 q4 true s6 s7 v8 v9 q10 q11))) updX_same
  generalize updX X19 bx (48, (abL s0 q1 q2 q3 q4 true s6 s7 v8 v9 q10 q11)) = X20 at *
  generalize (w19.setCell ⟨bx, 11, none⟩ (.bool q11)) = w20 at *
  clear hxx h2x hb19 r19
  have hxx := hxx20; have h2x := h2x20; clear hxx20 h2x20
  have hfb := Hd.mk (r20.out.bx bx _ _ hxx.out)
  have hfk := Hd.mk r20.out.keep
  go_end0
  exact ⟨rfl, hfk.out, hfb.out⟩
end Go.Proofs.YtdbjdpooggaonaaGreatDoor
end
