/- Powers of decimals by squaring, each product rounded: the plain law. No program in sight. Decimals: powers. The thin package: a power of a decimal. The reference: an operation of two decimals. The reference: a power of a decimal. Conditions: those that each theorem states. -/
import Derived.Test.YtpabbnogfflgpaaGreatDoorBase13
import Derived.Test.YtpabbnogfflgpaaGreatDoorBase12
import Derived.Test.YtpabbnogfflgpaaGreatDoorBase32
import Derived.Test.YtpabbnogfflgpaaGreatDoorOnes01
import Derived.Test.YtpabbnogfflgpaaGreatDoorBase31
import Derived.Test.YtpabbnogfflgpaaGreatDoorBase30
set_option linter.all false

section
namespace Go.Proofs.YtpabbnogfflgpaaGreatDoor
open Go.RowKit
set_option maxRecDepth 100000
/-- A product that is rounded, if it is in range. -/
def rmul (x y : Int) : Option Int := if inR (chopR (x * y)) = true then some (chopR (x * y)) else none
/-- The power of a, times o, by squaring. -/
def pwS (n : Nat) (o a : Int) : Option Int :=
  if h : n ≤ 1 then rmul a o
  else
    (if n % 2 = 1 then rmul o a else some o).bind fun o' => (rmul a a).bind fun a' => pwS (n / 2) o' a'
termination_by n
decreasing_by omega
theorem pwS_one {n : Nat} {o a : Int} (h : n ≤ 1) : pwS n o a = rmul a o := by
  rw [pwS, dif_pos h]
theorem pwS_step {n : Nat} {o a : Int} (h : ¬ n ≤ 1) : pwS n o a = (if n % 2 = 1 then rmul o a else some o).bind fun o' => (rmul a a).bind fun a' => pwS (n / 2) o' a' := by
  rw [pwS, dif_neg h]
theorem rmul_in {x y z : Int} (h : rmul x y = some z) : inR z = true ∧ chopR (x * y) = z := by
  unfold rmul at h
  split at h
  · next h1 => cases h; exact ⟨h1, rfl⟩
  · cases h
theorem rmul_none {x y : Int} (h : rmul x y = none) : inR (chopR (x * y)) = false := by
  unfold rmul at h
  split at h
  · cases h
  · next h1 => simpa using h1
theorem pwS_in {n : Nat} {o a z : Int} (h : pwS n o a = some z) : inR z = true := by
  induction n using Nat.strongRecOn generalizing o a with
  | _ n ih =>
    by_cases h1 : n ≤ 1
    · rw [pwS_one h1] at h; exact (rmul_in h).1
    · rw [pwS_step h1] at h
      obtain ⟨o', ho, h⟩ := Option.bind_eq_some_iff.1 h
      obtain ⟨a', ha, h⟩ := Option.bind_eq_some_iff.1 h
      exact ih (n / 2) (by omega) h
/-- The whole power. -/
def pwD (n : Nat) (a : Int) : Option Int := if n = 0 then some 1000000000000000000 else pwS n 1000000000000000000 a
theorem pwD_in {n : Nat} {a z : Int} (h : pwD n a = some z) : inR z = true := by
  unfold pwD at h
  split at h
  · cases h; decide
  · exact pwS_in h
end Go.Proofs.YtpabbnogfflgpaaGreatDoor
end

section
namespace Go.Proofs.YtpabbnogfflgpaaGreatDoor
open Go.RowKit
set_option maxRecDepth 100000
set_option maxHeartbeats 1000000 in
theorem precisionInt_any (w : World) (hok : Ok w) : Calls Tryz.prog 133 #[] w fun e w' => ∃ B, e = .returned (ptr B) ∧ NewI w w' B 1000000000000000000 := by
  have r0 := Hd.mk hok.run
  have r1 := Hd.mk (r0.out.new_int (NewI.of_new _))
  clear r0
  go_enter Tryz.func133, Tryz.ntmps133
  go_wp2_with fail
  refine (precisionReuse_any _ r1.out.ok).mono ?_
  rintro e w2 ⟨B2, rfl, hn2⟩
  have r2 := Hd.mk (r1.out.new_int hn2)
  have g2 := hn2.ge
  have s2 := hn2.bel.size
  try simp only [World.size_alloc] at g2 s2
  have l2 := r2.out.ilt upd_same
  have q2 := Hd.mk hn2.bel
  clear hn2 r1
  have hm := Hd.mk (ISet_any _ w.heap.size B2 0 1000000000000000000 _ w2 r2.out.ints (by rw [upd_ne (by omega), upd_same]) upd_same (by have := wl18; omega))
  go_wp2_with fail
  refine (hm.out).mono ?_
  rintro e w3 ⟨rfl, hk3, hI3⟩
  have s3 := hk3.size
  try simp only [World.size_alloc] at s3
  have r3 := Hd.mk (r2.out.op hk3 hI3)
  clear hk3 hI3 r2
  have hfin := Hd.mk (r3.out.newI upd_same)
  clear r3 hm
  go_wp2
  go_ret
  exact ⟨_, rfl, hfin.out⟩
set_option maxHeartbeats 1000000 in
theorem OneDec_any (w : World) (hok : Ok w) : Calls Tryz.prog 49 #[] w fun e w' => ∃ B, e = .returned (.agg #[ptr B]) ∧ NewI w w' B 1000000000000000000 := by
  have r0 := Hd.mk hok.run
  have r1 := Hd.mk (r0.out.box #[.pointer none] 71)
  clear r0
  go_enter Tryz.func49, Tryz.ntmps49
  go_wp2_with fail
  refine (precisionInt_any _ r1.out.ok).mono ?_
  rintro e w2 ⟨B2, rfl, hn2⟩
  have r2 := Hd.mk (r1.out.new_int hn2)
  have g2 := hn2.ge
  have s2 := hn2.bel.size
  try simp only [World.size_alloc] at g2 s2
  have l2 := r2.out.ilt upd_same
  have q2 := Hd.mk hn2.bel
  clear hn2 r1
  obtain ⟨c2, c2z, c2l⟩ := r2.out.cell (b := w.heap.size) updX_same
  go_wp2
  have r3 := r2.out.set1 (b := w.heap.size) (v := .pointer none) (v' := ptr B2) updX_same
  refine bodyPost_ret (v := .agg #[ptr B2]) (by simp [results, Tryz.results49, go_sem, c2, c2z, c2l]) rfl ⟨_, rfl, r3.newI upd_same⟩
/-- What a power hands back. -/
def PwPost (P : Nat → Prop) (w : World) (bd : Nat) (S : Nat → Option Int) (res : Option Int) (e : Ending) (w' : World) : Prop := (∃ z, res = some z ∧ e = .returned (.agg #[ptr bd]) ∧ Keep P w w' ∧ Ints P w' (upd S bd z)) ∨ (res = none ∧ Pan e ∧ Keep P w w')
theorem wl12 {x : Int} (h : inR x = true) : wlen x.natAbs < 12 := by have := inR_wl h; omega
theorem upd_swap {S : Nat → Option Int} {B C : Nat} {a b c : Int} (h : C ≠ B) : upd (upd (upd S B a) C b) B c = upd (upd S B c) C b := by
  funext k
  unfold upd
  by_cases h1 : k = B
  · subst h1; rw [if_pos rfl, if_neg (fun e => h e.symm), if_pos rfl]
  · simp only [if_neg h1]
theorem upd_sub {S : Nat → Option Int} {B C k : Nat} {o z v : Int} (hB : S B = none) (h : upd S C z k = some v) : upd (upd S B o) C z k = some v := by
  unfold upd at h ⊢
  by_cases h1 : k = C
  · rw [if_pos h1] at h ⊢; exact h
  · rw [if_neg h1] at h ⊢
    rw [if_neg (fun e => by subst e; rw [hB] at h; cases h)]; exact h
set_option maxHeartbeats 8000000 in
theorem PowerMut_any (P : Nat → Prop) (bd n : Nat) (x : Int) (S : Nat → Option Int) (w : World) (hI : Ints P w S) (hx : S bd = some x) (hxR : inR x = true) (hn : n < 18446744073709551616) (res : Option Int) (hres : pwD n x = res) :
    Calls Tryz.prog 65 #[.agg #[ptr bd], .int .u64 (n : Int)] w fun e w' => PwPost P w bd S res e w' := by
  have r0 := Hd.mk (Run.start hI)
  have hlo := Hd.mk hI.low
  have hl := hI.lt hx
  clear hI
  have r1 := Hd.mk (r0.out.box #[ptr bd] 71)
  clear r0
  have r2 := Hd.mk (r1.out.box #[.pointer none] 71)
  clear r1
  simp only [World.size_alloc] at r2
  have h18 : inR 1000000000000000000 = true := by decide
  by_cases hn0 : n = 0
  · subst hn0
    have hr1 : res = some 1000000000000000000 := by rw [← hres]; exact if_pos rfl
    subst hr1
    have hxk := Hd.mk hx
    clear hx hres
    go_enter Tryz.func65, Tryz.ntmps65
    go_upto_region 2 with fail
    generalize hW2 : (w.alloc (.cells #[ptr bd] 71)).alloc (.cells #[.pointer none] 71) = w2 at *
    have s2 : w2.heap.size = w.heap.size + 2 := by rw [← hW2]; simp only [World.size_alloc]
    replace hW2 := Hd.mk hW2
    replace s2 := Hd.mk s2
    obtain ⟨a2, a2z, a2l⟩ := r2.out.cell (b := w.heap.size) (by rw [updX_ne (by omega), updX_same])
    go_region_law (first
      | (go_simp; go_at_call 135; refine (precisionReuse_any _ r2.out.drew.ok).mono ?_; rintro e w3 ⟨B3, rfl, hn3⟩; have r3 := Hd.mk (r2.out.drew.new_int hn3); have g3 : w.heap.size + 2 ≤ B3 := (by have := hn3.ge; change w2.heap.size ≤ B3 at this; have := s2.out; omega); have l3 := r3.out.ilt upd_same; obtain ⟨c3, c3z, c3l⟩ := r3.out.cell (b := w.heap.size) (by rw [updX_ne (by omega), updX_same]); obtain ⟨e3, e3z, e3l⟩ := r3.out.cell (b := w.heap.size + 1) updX_same; clear hn3)
      | (go_simp; go_at_call 142; refine (ISet_any _ bd B3 x 1000000000000000000 _ w3 r3.out.ints (by rw [upd_ne (by omega)]; exact hxk.out) upd_same (by have := wl18; omega)).mono ?_; rintro e w4 ⟨rfl, hk4, hI4⟩; have r4 := Hd.mk (r3.out.op hk4 hI4); obtain ⟨c4, c4z, c4l⟩ := r4.out.cell (b := w.heap.size) (by rw [updX_ne (by omega), updX_same]); obtain ⟨e4, e4z, e4l⟩ := r4.out.cell (b := w.heap.size + 1) updX_same; clear hk4 hI4))
    all_goals
      go_wp2
      have r5 := r4.out.set1 (b := w.heap.size + 1) (v := .pointer none) (v' := ptr bd) updX_same
      refine bodyPost_ret (v := .agg #[ptr bd]) (by simp [results, Tryz.results65, go_sem, e4, e4z, e4l]) rfl (.inl ⟨_, rfl, rfl, r5.fin.1, r5.fin.2.sub fun k z hk => ?_⟩)
      rcases upd_cases hk with ⟨rfl, rfl⟩ | ⟨hne, hk⟩
      · repeat first | exact upd_same | rw [upd_ne (by omega)]
      · have hkl := hlo.out.lt hk
        repeat rw [upd_ne (by first | exact hne | ((try simp only [World.size_alloc]); omega))]
        exact hk
  · have hn0' : ((n : Int) == 0) = false := by simp; omega
    have hres1 : pwS n 1000000000000000000 x = res := by rw [← hres]; exact (if_neg hn0).symm
    clear hres
    have hmul := Hd.mk fun (Q : Nat → Prop) (b1 b2 : Nat) (S1 : Nat → Option Int) (w1 : World) (u v z : Int) (hr : rmul u v = some z) (h1 : inR u = true) (h2 : inR v = true) (hI : Ints Q w1 S1) (e1 : S1 b1 = some u) (e2 : S1 b2 = some v) => (rmul_in hr).2 ▸ MulMut_ok Q b1 b2 u v S1 w1 hI e1 e2 (wl12 h1) (wl12 h2) (by rw [(rmul_in hr).2]; exact (rmul_in hr).1)
    have hpan := Hd.mk fun (Q : Nat → Prop) (b1 b2 : Nat) (S1 : Nat → Option Int) (w1 : World) (u v : Int) (hr : rmul u v = none) (h1 : inR u = true) (h2 : inR v = true) (hI : Ints Q w1 S1) (e1 : S1 b1 = some u) (e2 : S1 b2 = some v) => MulMut_pan Q b1 b2 u v S1 w1 hI e1 e2 (wl12 h1) (wl12 h2) (rmul_none hr)
    go_enter Tryz.func65, Tryz.ntmps65
    go_wp2_with fail
    refine (OneDec_any _ r2.out.ok).mono ?_
    rintro e w3 ⟨B3, rfl, hn3⟩
    have r3 := Hd.mk (r2.out.new_int hn3)
    have g3 := hn3.ge
    have s3 := hn3.bel.size
    try simp only [World.size_alloc] at g3 s3
    have l3 := r3.out.ilt upd_same
    have q3 := Hd.mk hn3.bel
    clear hn3 r2
    have hSB := Hd.mk (hlo.out B3 (by omega))
    have r4 := Hd.mk (r3.out.box #[ptr B3] 71)
    clear r3
    have e4 : upd S B3 1000000000000000000 = upd (upd S B3 1000000000000000000) bd x := (upd_self (by rw [upd_ne (by omega)]; exact hx)).symm
    rw [e4] at r4
    clear e4
    have hX0 : (updX (updX (updX (fun _ => Option.none) w.heap.size (71, [ptr bd])) (w.heap.size + 1) (71, [Value.pointer none])) w3.heap.size (71, [ptr B3])) w.heap.size = some (71, [ptr bd]) := by rw [updX_ne (by omega), updX_ne (by omega), updX_same]
    have hX1 : (updX (updX (updX (fun _ => Option.none) w.heap.size (71, [ptr bd])) (w.heap.size + 1) (71, [Value.pointer none])) w3.heap.size (71, [ptr B3])) (w.heap.size + 1) = some (71, [Value.pointer none]) := by rw [updX_ne (by omega), updX_same]
    have hX2 : (updX (updX (updX (fun _ => Option.none) w.heap.size (71, [ptr bd])) (w.heap.size + 1) (71, [Value.pointer none])) w3.heap.size (71, [ptr B3])) w3.heap.size = some (71, [ptr B3]) := updX_same
    replace r4 : Hd (Run P w (w3.alloc (.cells #[ptr B3] 71)) (updX (updX (updX (fun _ => Option.none) w.heap.size (71, [ptr bd])) (w.heap.size + 1) (71, [Value.pointer none])) w3.heap.size (71, [ptr B3])) _) := r4
    have hb3 : B3 ≠ bd := by omega
    go_upto_region 5 with fail
    generalize updX (updX (updX (fun _ => Option.none) w.heap.size (71, [ptr bd])) (w.heap.size + 1) (71, [Value.pointer none])) w3.heap.size (71, [ptr B3]) = X4 at *
    generalize w3.alloc (.cells #[ptr B3] 71) = w4 at *
    generalize w3.heap.size = bt at *
    replace hX0 := Hd.mk hX0
    replace hX1 := Hd.mk hX1
    replace hX2 := Hd.mk hX2
    replace hx := Hd.mk hx
    replace hres1 := Hd.mk hres1
    clear q3 g3 s3 l3 hlo
    go_wp2
    go_loopw [6] (fun i wr => ∃ (m : Nat) (o a : Int), i = .int .u64 m ∧ 1 ≤ m ∧ m < 18446744073709551616 ∧ Hd (pwS m o a = res) ∧ Hd (inR o = true) ∧ Hd (inR a = true) ∧ Hd (Run P w wr X4 (upd (upd S B3 o) bd a))) (fun i _ => (intOf i).toNat)
    case atStart => exact ⟨n, _, _, rfl, by omega, hn, hres1, ⟨h18⟩, ⟨hxR⟩, r4⟩
    case round =>
      obtain ⟨m, o, a, rfl, hm1, hmB, hpw, ho, ha, hr⟩ := hrel
      obtain ⟨f0, f0z, f0l⟩ := hr.out.cell hX0.out
      obtain ⟨f2, f2z, f2l⟩ := hr.out.cell hX2.out
      have ea : upd (upd S B3 o) bd a bd = some a := upd_same
      have eo : upd (upd S B3 o) bd a B3 = some o := by rw [upd_ne hb3, upd_same]
      replace ea := Hd.mk ea
      replace eo := Hd.mk eo
      by_cases hm : m ≤ 1
      · have d1 : decide ((1 : Int) < (m : Int)) = false := decide_eq_false (by omega)
        have hp1 := hpw.out
        rw [pwS_one hm] at hp1
        cases res with
        | none =>
          have hc := Hd.mk (hpan.out _ bd B3 _ _ a o hp1 ha.out ho.out hr.out.ints ea.out eo.out)
          replace hp1 := Hd.mk hp1
          go_wp2_with fail
          refine hc.out.mono ?_
          rintro e w5 ⟨⟨u5, v5, rfl⟩, hk5⟩
          have hf := Hd.mk (hr.out.keep.trans (hk5.sub fun k hk => .inl hk))
          clear hk5
          first | exact .inr ⟨rfl, ⟨_, _, rfl⟩, hf.out⟩ | exact ⟨rfl, .inr ⟨rfl, ⟨_, _, rfl⟩, hf.out⟩⟩ | (go_wp2; exact ⟨rfl, .inr ⟨rfl, ⟨_, _, rfl⟩, hf.out⟩⟩)
        | some z =>
          have hc := Hd.mk (hmul.out _ bd B3 _ _ a o z hp1 ha.out ho.out hr.out.ints ea.out eo.out)
          replace hp1 := Hd.mk hp1
          go_wp2_with fail
          refine hc.out.mono ?_
          rintro e w5 ⟨rfl, hk5, hI5⟩
          have r5 := hr.out.op hk5 hI5
          rw [upd_upd] at r5
          clear hk5 hI5 hc
          obtain ⟨e5, e5z, e5l⟩ := r5.cell hX1.out
          have r6 := r5.set1 (v' := ptr bd) hX1.out
          replace r5 := Hd.mk r5
          have hf := Hd.mk (And.intro r6.fin.1 (r6.fin.2.sub (S' := upd S bd z) fun k v hk => upd_sub hSB.out hk))
          clear r6
          go_wp2
          refine bodyPost_ret (v := .agg #[ptr bd]) (by simp [results, Tryz.results65, go_sem, e5, e5z, e5l]) rfl (.inl ⟨_, rfl, rfl, hf.out.1, hf.out.2⟩)
      · have d1 : decide ((1 : Int) < (m : Int)) = true := decide_eq_true (by omega)
        have hp1 := hpw.out
        rw [pwS_step hm] at hp1
        by_cases hod : m % 2 = 1
        · rw [if_pos hod] at hp1
          have d2 : ((m : Int) % 2 == 0) = false := by simp; omega
          cases hoo : rmul o a with
          | none =>
            rw [hoo] at hp1
            obtain rfl : res = none := hp1.symm
            have hc := Hd.mk (hpan.out _ B3 bd _ _ o a hoo ho.out ha.out hr.out.ints eo.out ea.out)
            replace hoo := Hd.mk hoo
            clear hp1
            go_wp2_with fail
            refine hc.out.mono ?_
            rintro e w5 ⟨⟨u5, v5, rfl⟩, hk5⟩
            have hf := Hd.mk (hr.out.keep.trans (hk5.sub fun k hk => .inl hk))
            clear hk5
            first | exact .inr ⟨rfl, ⟨_, _, rfl⟩, hf.out⟩ | exact ⟨rfl, .inr ⟨rfl, ⟨_, _, rfl⟩, hf.out⟩⟩ | (go_wp2; exact ⟨rfl, .inr ⟨rfl, ⟨_, _, rfl⟩, hf.out⟩⟩)
          | some o' =>
            rw [hoo] at hp1
            have hc := Hd.mk (hmul.out _ B3 bd _ _ o a o' hoo ho.out ha.out hr.out.ints eo.out ea.out)
            have ho' := Hd.mk (rmul_in hoo).1
            replace hoo := Hd.mk hoo
            replace hp1 := Hd.mk hp1
            go_wp2_with fail
            refine hc.out.mono ?_
            rintro e w5 ⟨rfl, hk5, hI5⟩
            have r5 := hr.out.op hk5 hI5
            rw [upd_swap hb3.symm] at r5
            clear hk5 hI5 hc
            obtain ⟨g0, g0z, g0l⟩ := r5.cell hX0.out
            replace r5 := Hd.mk r5
            cases haa : rmul a a with
            | none =>
              have hc := Hd.mk (hpan.out _ bd bd _ _ a a haa ha.out ha.out r5.out.ints upd_same upd_same)
              have hp2 := hp1.out
              simp only [Option.bind_some, haa, Option.bind_none] at hp2
              obtain rfl : res = none := hp2.symm
              replace haa := Hd.mk haa
              clear hp2
              go_wp2_with fail
              refine hc.out.mono ?_
              rintro e w6 ⟨⟨u6, v6, rfl⟩, hk6⟩
              have hf := Hd.mk (r5.out.keep.trans (hk6.sub fun k hk => .inl hk))
              clear hk6
              first | exact .inr ⟨rfl, ⟨_, _, rfl⟩, hf.out⟩ | exact ⟨rfl, .inr ⟨rfl, ⟨_, _, rfl⟩, hf.out⟩⟩ | (go_wp2; exact ⟨rfl, .inr ⟨rfl, ⟨_, _, rfl⟩, hf.out⟩⟩)
            | some a' =>
              have hc := Hd.mk (hmul.out _ bd bd _ _ a a a' haa ha.out ha.out r5.out.ints upd_same upd_same)
              have hp2 := hp1.out
              simp only [Option.bind_some, haa] at hp2
              have ha' := Hd.mk (rmul_in haa).1
              replace haa := Hd.mk haa
              replace hp2 := Hd.mk hp2
              go_wp2_with fail
              refine hc.out.mono ?_
              rintro e w6 ⟨rfl, hk6, hI6⟩
              have r6 := r5.out.op hk6 hI6
              rw [upd_upd] at r6
              clear hk6 hI6 hc
              replace r6 := Hd.mk r6
              go_wp2
              go_roundw
              case rel => exact ⟨m / 2, o', a', rfl, by omega, by omega, hp2, ho', ha', r6⟩
              case measure => simp [intOf]; omega
        · rw [if_neg hod] at hp1
          have d2 : ((m : Int) % 2 == 0) = true := by simp; omega
          cases haa : rmul a a with
          | none =>
            have hc := Hd.mk (hpan.out _ bd bd _ _ a a haa ha.out ha.out hr.out.ints ea.out ea.out)
            simp only [Option.bind_some, haa, Option.bind_none] at hp1
            obtain rfl : res = none := hp1.symm
            replace haa := Hd.mk haa
            clear hp1
            go_wp2_with fail
            refine hc.out.mono ?_
            rintro e w6 ⟨⟨u6, v6, rfl⟩, hk6⟩
            have hf := Hd.mk (hr.out.keep.trans (hk6.sub fun k hk => .inl hk))
            clear hk6
            first | exact .inr ⟨rfl, ⟨_, _, rfl⟩, hf.out⟩ | exact ⟨rfl, .inr ⟨rfl, ⟨_, _, rfl⟩, hf.out⟩⟩ | (go_wp2; exact ⟨rfl, .inr ⟨rfl, ⟨_, _, rfl⟩, hf.out⟩⟩)
          | some a' =>
            have hc := Hd.mk (hmul.out _ bd bd _ _ a a a' haa ha.out ha.out hr.out.ints ea.out ea.out)
            simp only [Option.bind_some, haa] at hp1
            have ha' := Hd.mk (rmul_in haa).1
            replace haa := Hd.mk haa
            replace hp1 := Hd.mk hp1
            go_wp2_with fail
            refine hc.out.mono ?_
            rintro e w6 ⟨rfl, hk6, hI6⟩
            have r6 := hr.out.op hk6 hI6
            rw [upd_upd] at r6
            clear hk6 hI6 hc
            replace r6 := Hd.mk r6
            go_wp2
            go_roundw
            case rel => exact ⟨m / 2, o, a', rfl, by omega, by omega, hp1, ho, ha', r6⟩
            case measure => simp [intOf]; omega
end Go.Proofs.YtpabbnogfflgpaaGreatDoor
end

section
namespace Go.Proofs.YtpabbnogfflgpaaGreatDoor
open Go.RowKit
set_option maxRecDepth 100000
/-- A function that raises a decimal to the power n: its result, or a panic. -/
def PowC (f n : Nat) (x : Int) (res : Option Int) : Prop := ∀ (Q : Nat → Prop) (BA : Nat) (S : Nat → Option Int) (w1 : World), Ints Q w1 S → S BA = some x →
  Calls Tryz.prog f #[.agg #[ptr BA], .int .u64 (n : Int)] w1 fun e w' => (∃ z B9 S', res = some z ∧ e = .returned (.agg #[ptr B9]) ∧ Keep Q w1 w' ∧ Ints Q w' S' ∧ S' B9 = some z) ∨ (res = none ∧ Pan e ∧ Keep Q w1 w')
theorem powC_mut {n : Nat} {x : Int} {res : Option Int} (hx : inR x = true) (hn : n < 18446744073709551616) (hres : pwD n x = res) : PowC 65 n x res :=
  fun Q BA S w1 h1 h2 => (PowerMut_any Q BA n x S w1 h1 h2 hx hn res hres).mono fun e w' h => by
    rcases h with ⟨z, hz, he, hk, hI⟩ | h
    · exact .inl ⟨z, BA, _, hz, he, hk, hI, upd_same⟩
    · exact .inr h
set_option maxHeartbeats 2000000 in
theorem powC_new {n : Nat} {x : Int} {res : Option Int} (hx : inR x = true) (hn : n < 18446744073709551616) (hres : pwD n x = res) : PowC 66 n x res := by
  intro P bd S w hI hxS
  have r0 := Hd.mk (Run.start hI)
  have hlo := Hd.mk hI.low
  have hl := hI.lt hxS
  have hwx := inR_wl hx
  clear hI
  have r1 := Hd.mk (r0.out.box #[ptr bd] 71)
  clear r0
  have r2 := Hd.mk (r1.out.box #[.pointer none] 71)
  clear r1
  have r3 := Hd.mk (r2.out.new_int (NewI.of_new _))
  clear r2
  simp only [World.size_alloc] at r3
  have hm := Hd.mk (ISet_any _ (w.heap.size + 1 + 1) bd 0 x _ _ r3.out.ints upd_same (by rw [upd_ne (by omega)]; exact hxS) (by omega))
  have hpw := Hd.mk fun Q B S1 w1 (h : Ints Q w1 S1) (h1 : S1 B = some x) => PowerMut_any Q B n x S1 w1 h h1 hx hn res hres
  replace hx := Hd.mk hx
  replace hxS := Hd.mk hxS
  go_enter Tryz.func66, Tryz.ntmps66
  go_wp2_with fail
  refine (hm.out).mono ?_
  rintro e w4 ⟨rfl, hk4, hI4⟩
  have s4 := hk4.size
  try simp only [World.size_alloc] at s4
  have r4 := Hd.mk (r3.out.op hk4 hI4)
  clear hk4 hI4 r3
  have r5 := Hd.mk (r4.out.box #[ptr (w.heap.size + 1 + 1)] 71)
  clear r4
  have hp5 := Hd.mk (hpw.out _ (w.heap.size + 1 + 1) _ _ r5.out.ints upd_same)
  clear hpw
  cases res with
  | some z =>
    go_wp2_with fail
    refine hp5.out.mono ?_
    rintro e w6 (⟨z', hz', rfl, hk6, hI6⟩ | ⟨hz', -⟩)
    · obtain rfl : z = z' := Option.some.inj hz'
      have r6 := r5.out.op hk6 hI6
      rw [upd_upd] at r6
      clear hk6 hI6 hz'
      obtain ⟨e6, e6z, e6l⟩ := r6.cell (b := w.heap.size + 1) (by rw [updX_ne (by omega), updX_same])
      have r7 := r6.set1 (b := w.heap.size + 1) (v := .pointer none) (v' := ptr (w.heap.size + 1 + 1)) (by rw [updX_ne (by omega), updX_same])
      have hf := Hd.mk r7.fin
      clear r6 r7
      go_wp2
      refine bodyPost_ret (v := .agg #[ptr (w.heap.size + 1 + 1)]) (by simp [results, Tryz.results66, go_sem, e6, e6z, e6l]) rfl (.inl ⟨_, _, _, rfl, rfl, hf.out.1, hf.out.2, upd_same⟩)
    · cases hz'
  | none =>
    go_wp2_with fail
    refine hp5.out.mono ?_
    rintro e w6 (⟨z', hz', -⟩ | ⟨-, ⟨u6, v6, rfl⟩, hk6⟩)
    · cases hz'
    · have hf := Hd.mk (r5.out.keep.trans (hk6.sub fun k hk => .inl hk))
      clear hk6
      first | exact .inr ⟨rfl, ⟨_, _, rfl⟩, hf.out⟩ | exact ⟨rfl, .inr ⟨rfl, ⟨_, _, rfl⟩, hf.out⟩⟩ | (go_wp2; exact ⟨rfl, .inr ⟨rfl, ⟨_, _, rfl⟩, hf.out⟩⟩)
set_option maxHeartbeats 4000000 in
theorem powK_PowerMut_ok (n : Nat) (x : Int) (hx : inR x = true) (z : Int) (hz : inR z = true) (hop : PowC 65 n x (some z)) : powCl (zT x) (n : Int) true fun e w' bu => e = .returned (.tuple #[]) ∧ Blk w' bu 9 [.string (zT z)] := by
  intro ba bn bm bu w hok her ha hn hm hu hne hu1
  have r0 := Hd.mk (Run.start1 hok hu hu1)
  have hd0 := Hd.mk (decimal_ok x w.drew (hok.below (below_drew w)) (her.below (below_drew w)) (inR_130 hx))
  have hpz := Hd.mk fun (Q : Nat → Prop) B S1 w1 (h : Ints Q w1 S1) (h1 : S1 B = some z) => parts_ok Q B z S1 w1 h h1 (Nat.le_of_lt (inR_wl hz))
  have ca := ha.cell 0
  have cn := hn.cell 0
  have cm := hm.cell 0
  simp only [List.getElem?_cons_zero] at ca cn cm
  have la := ha.lt
  have ln := hn.lt
  have lu := hu.lt
  have hPa := Hd.mk (p := ba < w.heap.size ∧ ba ≠ bu) ⟨ha.lt, hne.1⟩
  have hPn := Hd.mk (p := bn < w.heap.size ∧ bn ≠ bu) ⟨hn.lt, hne.2.1⟩
  generalize zT x = sx at *
  generalize zT z = sz at *
  replace hop := Hd.mk hop
  replace ha := Hd.mk ha
  replace hn := Hd.mk hn
  replace hm := Hd.mk hm
  replace hu := Hd.mk hu
  go_enter Tryz.func64, Tryz.ntmps64
  go_upto_region 1 with fail
  go_region_law (first
    | (go_simp; go_at_call 55; refine hd0.out.mono ?_; rintro e w2 ⟨B2, rfl, hn2⟩; have r2 := Hd.mk (r0.out.drew.new_int hn2); have l2 : bn < w2.heap.size ∧ ba < w2.heap.size := (by have h := hn2.bel.size; change w.heap.size ≤ w2.heap.size at h; exact ⟨Nat.lt_of_lt_of_le ln h, Nat.lt_of_lt_of_le la h⟩); clear hn2; obtain ⟨ja, jn⟩ : w2.cell? ⟨ba, 0, none⟩ = some (.string sx) ∧ w2.cell? ⟨bn, 0, none⟩ = some (.int .u64 n) := ⟨(r2.out.keep.blk ha.out hPa.out).cell 0, (r2.out.keep.blk hn.out hPn.out).cell 0⟩)
    | (go_simp; go_at_call 65; refine (hop.out _ B2 _ _ r2.out.ints upd_same).mono ?_; rintro e w3 (⟨z', B3, S3, hz', rfl, hk3, hI3, hB3⟩ | ⟨hz', -⟩); rotate_left; (focus cases hz'); have r3 := Hd.mk (r2.out.op hk3 hI3); replace hB3 := Hd.mk hB3; obtain rfl := Option.some.inj hz'; clear hk3 hI3 hz')
    | (go_simp; go_at_call 52; refine (hpz.out _ B3 _ _ r3.out.ints hB3.out).mono ?_; rintro e w4 ⟨rfl, hk4, hI4⟩; have r4 := Hd.mk (r3.out.op hk4 hI4); clear hk4 hI4; obtain ⟨u4, u4z, u4l⟩ := r4.out.cell (b := bu) updX_same))
  all_goals
    have r8 := Hd.mk (r4.out.set1 (b := bu) (v' := .string sz) updX_same)
    have hkk := Hd.mk r8.out.keep
    have hub8 := Hd.mk (r8.out.bx bu _ _ updX_same)
    go_wp2
    go_end0
    exact ⟨hkk.out, rfl, hub8.out⟩
set_option maxHeartbeats 4000000 in
theorem powK_PowerMut_pan (n : Nat) (x : Int) (hx : inR x = true)  (hop : PowC 65 n x none) : powCl (zT x) (n : Int) true fun e w' bu => Pan e ∧ ∃ z, Blk w' bu 9 [.string z] := by
  intro ba bn bm bu w hok her ha hn hm hu hne hu1
  have r0 := Hd.mk (Run.start1 hok hu hu1)
  have hd0 := Hd.mk (decimal_ok x w.drew (hok.below (below_drew w)) (her.below (below_drew w)) (inR_130 hx))
  have ca := ha.cell 0
  have cn := hn.cell 0
  have cm := hm.cell 0
  simp only [List.getElem?_cons_zero] at ca cn cm
  have la := ha.lt
  have ln := hn.lt
  have lu := hu.lt
  have hPa := Hd.mk (p := ba < w.heap.size ∧ ba ≠ bu) ⟨ha.lt, hne.1⟩
  have hPn := Hd.mk (p := bn < w.heap.size ∧ bn ≠ bu) ⟨hn.lt, hne.2.1⟩
  generalize zT x = sx at *
  skip
  replace hop := Hd.mk hop
  replace ha := Hd.mk ha
  replace hn := Hd.mk hn
  replace hm := Hd.mk hm
  replace hu := Hd.mk hu
  go_enter Tryz.func64, Tryz.ntmps64
  go_upto_region 1 with fail
  refine wp_region_any (by kernel_rfl) ?_
  refine wpAny_ready (rs := [0, 2]) (by kernel_rfl) (by simp) ?_
  refine AllReady.cons rfl (fun K hK => ?_) (AllReady.cons rfl (fun K hK => ?_) (AllReady.nil))
  · go_simp
    refine hK _ _ ?_; clear hK K
    refine wpAny_ready (rs := [1, 2]) (by kernel_rfl) (by simp) ?_
    refine AllReady.cons rfl (fun K hK => ?_) (AllReady.cons rfl (fun K hK => ?_) (AllReady.nil))
    · go_simp; go_at_call 55; refine hd0.out.mono ?_; rintro e w2 ⟨B2, rfl, hn2⟩; have r2 := Hd.mk (r0.out.drew.new_int hn2); have l2 : bn < w2.heap.size ∧ ba < w2.heap.size := (by have h := hn2.bel.size; change w.heap.size ≤ w2.heap.size at h; exact ⟨Nat.lt_of_lt_of_le ln h, Nat.lt_of_lt_of_le la h⟩); clear hn2; obtain ⟨ja, jn⟩ : w2.cell? ⟨ba, 0, none⟩ = some (.string sx) ∧ w2.cell? ⟨bn, 0, none⟩ = some (.int .u64 n) := ⟨(r2.out.keep.blk ha.out hPa.out).cell 0, (r2.out.keep.blk hn.out hPn.out).cell 0⟩
      refine hK _ _ ?_; clear hK K
      refine wpAny_ready (rs := [2]) (by kernel_rfl) (by simp) ?_
      refine AllReady.cons rfl (fun K hK => ?_) (AllReady.nil)
      go_simp
      refine hK _ _ ?_; clear hK K
      refine wpAny_ready (rs := [3]) (by kernel_rfl) (by simp) ?_
      refine AllReady.cons rfl (fun K hK => ?_) (AllReady.nil)
      go_simp; go_at_call 65; refine (hop.out _ B2 _ _ r2.out.ints upd_same).mono ?_; rintro e w3 (⟨z', B3, S3, hz', -⟩ | ⟨-, ⟨u3, v3, rfl⟩, hk3⟩); (focus cases hz'); have r3 := Hd.mk (p := Keep _ _ _ ∧ Blk w3 bu _ _) (by exact ⟨r2.out.keep.trans (hk3.sub fun k hk => .inl hk), hk3.blk (r2.out.bx bu _ _ updX_same) (.inr (by rw [updX_same]; exact fun h => by cases h))⟩); clear hk3; exact ⟨rfl, r3.out.1, ⟨_, _, rfl⟩, ⟨_, r3.out.2⟩⟩
    · go_simp
      refine hK _ _ ?_; clear hK K
      refine wpAny_ready (rs := [1]) (by kernel_rfl) (by simp) ?_
      refine AllReady.cons rfl (fun K hK => ?_) (AllReady.nil)
      go_simp; go_at_call 55; refine hd0.out.mono ?_; rintro e w2 ⟨B2, rfl, hn2⟩; have r2 := Hd.mk (r0.out.drew.new_int hn2); have l2 : bn < w2.heap.size ∧ ba < w2.heap.size := (by have h := hn2.bel.size; change w.heap.size ≤ w2.heap.size at h; exact ⟨Nat.lt_of_lt_of_le ln h, Nat.lt_of_lt_of_le la h⟩); clear hn2; obtain ⟨ja, jn⟩ : w2.cell? ⟨ba, 0, none⟩ = some (.string sx) ∧ w2.cell? ⟨bn, 0, none⟩ = some (.int .u64 n) := ⟨(r2.out.keep.blk ha.out hPa.out).cell 0, (r2.out.keep.blk hn.out hPn.out).cell 0⟩
      refine hK _ _ ?_; clear hK K
      refine wpAny_ready (rs := [3]) (by kernel_rfl) (by simp) ?_
      refine AllReady.cons rfl (fun K hK => ?_) (AllReady.nil)
      go_simp; go_at_call 65; refine (hop.out _ B2 _ _ r2.out.ints upd_same).mono ?_; rintro e w3 (⟨z', B3, S3, hz', -⟩ | ⟨-, ⟨u3, v3, rfl⟩, hk3⟩); (focus cases hz'); have r3 := Hd.mk (p := Keep _ _ _ ∧ Blk w3 bu _ _) (by exact ⟨r2.out.keep.trans (hk3.sub fun k hk => .inl hk), hk3.blk (r2.out.bx bu _ _ updX_same) (.inr (by rw [updX_same]; exact fun h => by cases h))⟩); clear hk3; exact ⟨rfl, r3.out.1, ⟨_, _, rfl⟩, ⟨_, r3.out.2⟩⟩
  · go_simp
    refine hK _ _ ?_; clear hK K
    refine wpAny_ready (rs := [0]) (by kernel_rfl) (by simp) ?_
    refine AllReady.cons rfl (fun K hK => ?_) (AllReady.nil)
    go_simp
    refine hK _ _ ?_; clear hK K
    refine wpAny_ready (rs := [1]) (by kernel_rfl) (by simp) ?_
    refine AllReady.cons rfl (fun K hK => ?_) (AllReady.nil)
    go_simp; go_at_call 55; refine hd0.out.mono ?_; rintro e w2 ⟨B2, rfl, hn2⟩; have r2 := Hd.mk (r0.out.drew.new_int hn2); have l2 : bn < w2.heap.size ∧ ba < w2.heap.size := (by have h := hn2.bel.size; change w.heap.size ≤ w2.heap.size at h; exact ⟨Nat.lt_of_lt_of_le ln h, Nat.lt_of_lt_of_le la h⟩); clear hn2; obtain ⟨ja, jn⟩ : w2.cell? ⟨ba, 0, none⟩ = some (.string sx) ∧ w2.cell? ⟨bn, 0, none⟩ = some (.int .u64 n) := ⟨(r2.out.keep.blk ha.out hPa.out).cell 0, (r2.out.keep.blk hn.out hPn.out).cell 0⟩
    refine hK _ _ ?_; clear hK K
    refine wpAny_ready (rs := [3]) (by kernel_rfl) (by simp) ?_
    refine AllReady.cons rfl (fun K hK => ?_) (AllReady.nil)
    go_simp; go_at_call 65; refine (hop.out _ B2 _ _ r2.out.ints upd_same).mono ?_; rintro e w3 (⟨z', B3, S3, hz', -⟩ | ⟨-, ⟨u3, v3, rfl⟩, hk3⟩); (focus cases hz'); have r3 := Hd.mk (p := Keep _ _ _ ∧ Blk w3 bu _ _) (by exact ⟨r2.out.keep.trans (hk3.sub fun k hk => .inl hk), hk3.blk (r2.out.bx bu _ _ updX_same) (.inr (by rw [updX_same]; exact fun h => by cases h))⟩); clear hk3; exact ⟨rfl, r3.out.1, ⟨_, _, rfl⟩, ⟨_, r3.out.2⟩⟩
set_option maxHeartbeats 4000000 in
theorem powK_Power_ok (n : Nat) (x : Int) (hx : inR x = true) (z : Int) (hz : inR z = true) (hop : PowC 66 n x (some z)) : powCl (zT x) (n : Int) false fun e w' bu => e = .returned (.tuple #[]) ∧ Blk w' bu 9 [.string (zT z)] := by
  intro ba bn bm bu w hok her ha hn hm hu hne hu1
  have r0 := Hd.mk (Run.start1 hok hu hu1)
  have hd0 := Hd.mk (decimal_ok x w.drew (hok.below (below_drew w)) (her.below (below_drew w)) (inR_130 hx))
  have hpz := Hd.mk fun (Q : Nat → Prop) B S1 w1 (h : Ints Q w1 S1) (h1 : S1 B = some z) => parts_ok Q B z S1 w1 h h1 (Nat.le_of_lt (inR_wl hz))
  have ca := ha.cell 0
  have cn := hn.cell 0
  have cm := hm.cell 0
  simp only [List.getElem?_cons_zero] at ca cn cm
  have la := ha.lt
  have ln := hn.lt
  have lu := hu.lt
  have hPa := Hd.mk (p := ba < w.heap.size ∧ ba ≠ bu) ⟨ha.lt, hne.1⟩
  have hPn := Hd.mk (p := bn < w.heap.size ∧ bn ≠ bu) ⟨hn.lt, hne.2.1⟩
  generalize zT x = sx at *
  generalize zT z = sz at *
  replace hop := Hd.mk hop
  replace ha := Hd.mk ha
  replace hn := Hd.mk hn
  replace hm := Hd.mk hm
  replace hu := Hd.mk hu
  go_enter Tryz.func64, Tryz.ntmps64
  go_upto_region 2 with fail
  go_region_law (first
    | (go_simp; go_at_call 55; refine hd0.out.mono ?_; rintro e w2 ⟨B2, rfl, hn2⟩; have r2 := Hd.mk (r0.out.drew.new_int hn2); have l2 : bn < w2.heap.size ∧ ba < w2.heap.size := (by have h := hn2.bel.size; change w.heap.size ≤ w2.heap.size at h; exact ⟨Nat.lt_of_lt_of_le ln h, Nat.lt_of_lt_of_le la h⟩); clear hn2; obtain ⟨ja, jn⟩ : w2.cell? ⟨ba, 0, none⟩ = some (.string sx) ∧ w2.cell? ⟨bn, 0, none⟩ = some (.int .u64 n) := ⟨(r2.out.keep.blk ha.out hPa.out).cell 0, (r2.out.keep.blk hn.out hPn.out).cell 0⟩)
    | (go_simp; go_at_call 66; refine (hop.out _ B2 _ _ r2.out.ints upd_same).mono ?_; rintro e w3 (⟨z', B3, S3, hz', rfl, hk3, hI3, hB3⟩ | ⟨hz', -⟩); rotate_left; (focus cases hz'); have r3 := Hd.mk (r2.out.op hk3 hI3); replace hB3 := Hd.mk hB3; obtain rfl := Option.some.inj hz'; clear hk3 hI3 hz')
    | (go_simp; go_at_call 52; refine (hpz.out _ B3 _ _ r3.out.ints hB3.out).mono ?_; rintro e w4 ⟨rfl, hk4, hI4⟩; have r4 := Hd.mk (r3.out.op hk4 hI4); clear hk4 hI4; obtain ⟨u4, u4z, u4l⟩ := r4.out.cell (b := bu) updX_same))
  all_goals
    have r8 := Hd.mk (r4.out.set1 (b := bu) (v' := .string sz) updX_same)
    have hkk := Hd.mk r8.out.keep
    have hub8 := Hd.mk (r8.out.bx bu _ _ updX_same)
    go_wp2
    go_end0
    exact ⟨hkk.out, rfl, hub8.out⟩
set_option maxHeartbeats 4000000 in
theorem powK_Power_pan (n : Nat) (x : Int) (hx : inR x = true)  (hop : PowC 66 n x none) : powCl (zT x) (n : Int) false fun e w' bu => Pan e ∧ ∃ z, Blk w' bu 9 [.string z] := by
  intro ba bn bm bu w hok her ha hn hm hu hne hu1
  have r0 := Hd.mk (Run.start1 hok hu hu1)
  have hd0 := Hd.mk (decimal_ok x w.drew (hok.below (below_drew w)) (her.below (below_drew w)) (inR_130 hx))
  have ca := ha.cell 0
  have cn := hn.cell 0
  have cm := hm.cell 0
  simp only [List.getElem?_cons_zero] at ca cn cm
  have la := ha.lt
  have ln := hn.lt
  have lu := hu.lt
  have hPa := Hd.mk (p := ba < w.heap.size ∧ ba ≠ bu) ⟨ha.lt, hne.1⟩
  have hPn := Hd.mk (p := bn < w.heap.size ∧ bn ≠ bu) ⟨hn.lt, hne.2.1⟩
  generalize zT x = sx at *
  skip
  replace hop := Hd.mk hop
  replace ha := Hd.mk ha
  replace hn := Hd.mk hn
  replace hm := Hd.mk hm
  replace hu := Hd.mk hu
  go_enter Tryz.func64, Tryz.ntmps64
  go_upto_region 2 with fail
  refine wp_region_any (by kernel_rfl) ?_
  refine wpAny_ready (rs := [0, 2]) (by kernel_rfl) (by simp) ?_
  refine AllReady.cons rfl (fun K hK => ?_) (AllReady.cons rfl (fun K hK => ?_) (AllReady.nil))
  · go_simp
    refine hK _ _ ?_; clear hK K
    refine wpAny_ready (rs := [1, 2]) (by kernel_rfl) (by simp) ?_
    refine AllReady.cons rfl (fun K hK => ?_) (AllReady.cons rfl (fun K hK => ?_) (AllReady.nil))
    · go_simp; go_at_call 55; refine hd0.out.mono ?_; rintro e w2 ⟨B2, rfl, hn2⟩; have r2 := Hd.mk (r0.out.drew.new_int hn2); have l2 : bn < w2.heap.size ∧ ba < w2.heap.size := (by have h := hn2.bel.size; change w.heap.size ≤ w2.heap.size at h; exact ⟨Nat.lt_of_lt_of_le ln h, Nat.lt_of_lt_of_le la h⟩); clear hn2; obtain ⟨ja, jn⟩ : w2.cell? ⟨ba, 0, none⟩ = some (.string sx) ∧ w2.cell? ⟨bn, 0, none⟩ = some (.int .u64 n) := ⟨(r2.out.keep.blk ha.out hPa.out).cell 0, (r2.out.keep.blk hn.out hPn.out).cell 0⟩
      refine hK _ _ ?_; clear hK K
      refine wpAny_ready (rs := [2]) (by kernel_rfl) (by simp) ?_
      refine AllReady.cons rfl (fun K hK => ?_) (AllReady.nil)
      go_simp
      refine hK _ _ ?_; clear hK K
      refine wpAny_ready (rs := [3]) (by kernel_rfl) (by simp) ?_
      refine AllReady.cons rfl (fun K hK => ?_) (AllReady.nil)
      go_simp; go_at_call 66; refine (hop.out _ B2 _ _ r2.out.ints upd_same).mono ?_; rintro e w3 (⟨z', B3, S3, hz', -⟩ | ⟨-, ⟨u3, v3, rfl⟩, hk3⟩); (focus cases hz'); have r3 := Hd.mk (p := Keep _ _ _ ∧ Blk w3 bu _ _) (by exact ⟨r2.out.keep.trans (hk3.sub fun k hk => .inl hk), hk3.blk (r2.out.bx bu _ _ updX_same) (.inr (by rw [updX_same]; exact fun h => by cases h))⟩); clear hk3; exact ⟨rfl, r3.out.1, ⟨_, _, rfl⟩, ⟨_, r3.out.2⟩⟩
    · go_simp
      refine hK _ _ ?_; clear hK K
      refine wpAny_ready (rs := [1]) (by kernel_rfl) (by simp) ?_
      refine AllReady.cons rfl (fun K hK => ?_) (AllReady.nil)
      go_simp; go_at_call 55; refine hd0.out.mono ?_; rintro e w2 ⟨B2, rfl, hn2⟩; have r2 := Hd.mk (r0.out.drew.new_int hn2); have l2 : bn < w2.heap.size ∧ ba < w2.heap.size := (by have h := hn2.bel.size; change w.heap.size ≤ w2.heap.size at h; exact ⟨Nat.lt_of_lt_of_le ln h, Nat.lt_of_lt_of_le la h⟩); clear hn2; obtain ⟨ja, jn⟩ : w2.cell? ⟨ba, 0, none⟩ = some (.string sx) ∧ w2.cell? ⟨bn, 0, none⟩ = some (.int .u64 n) := ⟨(r2.out.keep.blk ha.out hPa.out).cell 0, (r2.out.keep.blk hn.out hPn.out).cell 0⟩
      refine hK _ _ ?_; clear hK K
      refine wpAny_ready (rs := [3]) (by kernel_rfl) (by simp) ?_
      refine AllReady.cons rfl (fun K hK => ?_) (AllReady.nil)
      go_simp; go_at_call 66; refine (hop.out _ B2 _ _ r2.out.ints upd_same).mono ?_; rintro e w3 (⟨z', B3, S3, hz', -⟩ | ⟨-, ⟨u3, v3, rfl⟩, hk3⟩); (focus cases hz'); have r3 := Hd.mk (p := Keep _ _ _ ∧ Blk w3 bu _ _) (by exact ⟨r2.out.keep.trans (hk3.sub fun k hk => .inl hk), hk3.blk (r2.out.bx bu _ _ updX_same) (.inr (by rw [updX_same]; exact fun h => by cases h))⟩); clear hk3; exact ⟨rfl, r3.out.1, ⟨_, _, rfl⟩, ⟨_, r3.out.2⟩⟩
  · go_simp
    refine hK _ _ ?_; clear hK K
    refine wpAny_ready (rs := [0]) (by kernel_rfl) (by simp) ?_
    refine AllReady.cons rfl (fun K hK => ?_) (AllReady.nil)
    go_simp
    refine hK _ _ ?_; clear hK K
    refine wpAny_ready (rs := [1]) (by kernel_rfl) (by simp) ?_
    refine AllReady.cons rfl (fun K hK => ?_) (AllReady.nil)
    go_simp; go_at_call 55; refine hd0.out.mono ?_; rintro e w2 ⟨B2, rfl, hn2⟩; have r2 := Hd.mk (r0.out.drew.new_int hn2); have l2 : bn < w2.heap.size ∧ ba < w2.heap.size := (by have h := hn2.bel.size; change w.heap.size ≤ w2.heap.size at h; exact ⟨Nat.lt_of_lt_of_le ln h, Nat.lt_of_lt_of_le la h⟩); clear hn2; obtain ⟨ja, jn⟩ : w2.cell? ⟨ba, 0, none⟩ = some (.string sx) ∧ w2.cell? ⟨bn, 0, none⟩ = some (.int .u64 n) := ⟨(r2.out.keep.blk ha.out hPa.out).cell 0, (r2.out.keep.blk hn.out hPn.out).cell 0⟩
    refine hK _ _ ?_; clear hK K
    refine wpAny_ready (rs := [3]) (by kernel_rfl) (by simp) ?_
    refine AllReady.cons rfl (fun K hK => ?_) (AllReady.nil)
    go_simp; go_at_call 66; refine (hop.out _ B2 _ _ r2.out.ints upd_same).mono ?_; rintro e w3 (⟨z', B3, S3, hz', -⟩ | ⟨-, ⟨u3, v3, rfl⟩, hk3⟩); (focus cases hz'); have r3 := Hd.mk (p := Keep _ _ _ ∧ Blk w3 bu _ _) (by exact ⟨r2.out.keep.trans (hk3.sub fun k hk => .inl hk), hk3.blk (r2.out.bx bu _ _ updX_same) (.inr (by rw [updX_same]; exact fun h => by cases h))⟩); clear hk3; exact ⟨rfl, r3.out.1, ⟨_, _, rfl⟩, ⟨_, r3.out.2⟩⟩
end Go.Proofs.YtpabbnogfflgpaaGreatDoor
end

section
namespace Go.Proofs.YtpabbnogfflgpaaGreatDoor
open Go.RowKit
set_option maxRecDepth 100000
theorem within_inR (z : Int) : decide ((z.natAbs : Int) ≤ mostZ) = inR z := by
  rw [most_lim]
  unfold inR
  have h : ((z.natAbs : Int) ≤ lim) ↔ (-lim ≤ z ∧ z ≤ lim) := by omega
  simp only [h]
set_option maxHeartbeats 4000000 in
theorem opS_2 (v u : Value) (x y : Int) (w : World) (hx : NumV w v x) (hy : NumV w u y) (hlx : x.natAbs < 10 ^ 96) (hly : y.natAbs < 10 ^ 96) :
    Calls Tryz.prog 63 #[.int .i64 2, v, u] w fun e w' => ∃ b A m c, e = .returned (.tuple #[.agg #[.bool b, .slice A m c], .bool (inR (chopR (x * y)))]) ∧ NumV w' (.agg #[.bool b, .slice A m c]) (chopR (x * y)) ∧ Below w.heap.size w w' := by
  obtain ⟨A, cap, rfl, -⟩ := hx.open
  obtain ⟨A', cap', rfl, -⟩ := hy.open
  have g1 : (10 : Nat) ^ 96 * 10 ^ 96 + 1 < 10 ^ 200 := by decide
  have g2 : (10 : Nat) ^ 96 + 10 ^ 96 < 10 ^ 200 := by decide
  have hlx' : T.wlen x.natAbs < 900 := wl200 (Nat.lt_trans hlx (by decide))
  have hly' : T.wlen y.natAbs < 900 := wl200 (Nat.lt_trans hly (by decide))
  have hpp : (x * y).natAbs ≤ 10 ^ 96 * 10 ^ 96 := by rw [Int.natAbs_mul]; exact Nat.mul_le_mul (Nat.le_of_lt hlx) (Nat.le_of_lt hly)
  have hp200 : (x * y).natAbs < 10 ^ 200 := by omega
  have hz200 : (chopR (x * y)).natAbs < 10 ^ 200 := by have := chopR_bd (x * y); omega
  have ha0 := Hd.mk fun w1 v1 v2 (h1 : NumV w1 v1 x) (h2 : NumV w1 v2 y) => nv (ntimes_any v1 v2 _ _ w1 h1 h2 (by omega) (by omega))
  have ha1 := Hd.mk fun w1 v1 (h1 : NumV w1 v1 (x * y)) => nv (rounded_any v1 _ w1 h1 hp200)
  have hwi := Hd.mk fun w1 v1 (h1 : NumV w1 v1 (chopR (x * y))) => within_any v1 _ w1 h1 (wl200 hz200)
  rw [within_inR] at hwi
  clear hpp hp200 hz200 g1 g2 hlx' hly'
  generalize chopR (x * y) = z at *
  generalize x * y = p at *
  generalize inR z = dc at *
  generalize decide (x < 0) = nb at *
  generalize T.wlen x.natAbs = m at *
  generalize decide (y < 0) = nb' at *
  generalize T.wlen y.natAbs = m' at *
  have r0 := SR.start w [(.agg #[.bool nb, .slice A m cap], x), (.agg #[.bool nb', .slice A' m' cap'], y)] (fun p hp => by
    rcases List.mem_cons.1 hp with e | hp
    · subst e; exact hx
    · cases List.mem_singleton.1 hp; exact hy)
  have r1 := (((r0.box #[.bool nb, .slice A m cap]).box #[.bool nb', .slice A' m' cap']).box #[.bool false, .slice none 0 0]).box #[.bool false, .slice none 0 0]
  simp only [World.size_alloc] at r1
  have hC0 : (updC (updC (updC (updC (fun _ => none) w.heap.size [.bool nb, .slice A m cap]) (w.heap.size + 1) [.bool nb', .slice A' m' cap']) (w.heap.size + 1 + 1) [.bool false, .slice none 0 0]) (w.heap.size + 1 + 1 + 1) [.bool false, .slice none 0 0]) w.heap.size = some [.bool nb, .slice A m cap] := by rw [updC_ne (by omega), updC_ne (by omega), updC_ne (by omega)]; exact updC_same
  have hC1 : (updC (updC (updC (updC (fun _ => none) w.heap.size [.bool nb, .slice A m cap]) (w.heap.size + 1) [.bool nb', .slice A' m' cap']) (w.heap.size + 1 + 1) [.bool false, .slice none 0 0]) (w.heap.size + 1 + 1 + 1) [.bool false, .slice none 0 0]) (w.heap.size + 1) = some [.bool nb', .slice A' m' cap'] := by rw [updC_ne (by omega), updC_ne (by omega)]; exact updC_same
  have hC2 : (updC (updC (updC (updC (fun _ => none) w.heap.size [.bool nb, .slice A m cap]) (w.heap.size + 1) [.bool nb', .slice A' m' cap']) (w.heap.size + 1 + 1) [.bool false, .slice none 0 0]) (w.heap.size + 1 + 1 + 1) [.bool false, .slice none 0 0]) (w.heap.size + 1 + 1) = some [.bool false, .slice none 0 0] := by rw [updC_ne (by omega)]; exact updC_same
  have hC3 : (updC (updC (updC (updC (fun _ => none) w.heap.size [.bool nb, .slice A m cap]) (w.heap.size + 1) [.bool nb', .slice A' m' cap']) (w.heap.size + 1 + 1) [.bool false, .slice none 0 0]) (w.heap.size + 1 + 1 + 1) [.bool false, .slice none 0 0]) (w.heap.size + 1 + 1 + 1) = some [.bool false, .slice none 0 0] := updC_same
  change SR w _ (updC (updC (updC (updC (fun _ => none) w.heap.size [.bool nb, .slice A m cap]) (w.heap.size + 1) [.bool nb', .slice A' m' cap']) (w.heap.size + 1 + 1) [.bool false, .slice none 0 0]) (w.heap.size + 1 + 1 + 1) [.bool false, .slice none 0 0]) _ at r1
  generalize updC (updC (updC (updC (fun _ => none) w.heap.size [.bool nb, .slice A m cap]) (w.heap.size + 1) [.bool nb', .slice A' m' cap']) (w.heap.size + 1 + 1) [.bool false, .slice none 0 0]) (w.heap.size + 1 + 1 + 1) [.bool false, .slice none 0 0] = C1 at *
  replace hC0 := Hd.mk hC0
  replace hC1 := Hd.mk hC1
  replace hC2 := Hd.mk hC2
  replace hC3 := Hd.mk hC3
  replace r1 := Hd.mk r1
  replace hx := Hd.mk hx
  replace hy := Hd.mk hy
  clear r0 hlx hly
  go_enter Tryz.func63, Tryz.ntmps63
  go_upto_region 3 with fail
  generalize (((w.alloc (.cells #[.bool nb, .slice A m cap] 24)).alloc (.cells #[.bool nb', .slice A' m' cap'] 24)).alloc (.cells #[.bool false, .slice none 0 0] 24)).alloc (.cells #[.bool false, .slice none 0 0] 24) = w1 at *
  refine SR.cellK r1.out hC0.out ?_
  intro f0 f1 fz fy fl
  refine SR.cellK r1.out hC1.out ?_
  intro g0 g1 gz gy gl
  go_upto_region 33 with (first
    | (go_at_call 11; refine (ha0.out _ _ _ r1.out.v0 r1.out.v1).mono ?_; rintro e w2 ⟨b2, A2, m2, c2, rfl, hn2, hb2⟩; have r2 := Hd.mk ((r1.out.op hb2).add hn2); clear hb2 hn2)
    | (go_at_call 141; refine (ha1.out _ _ r2.out.v0).mono ?_; rintro e w3 ⟨b3, A3, m3, c3, rfl, hn3, hb3⟩; have r3 := Hd.mk ((r2.out.op hb3).add hn3); clear hb3 hn3; refine SR.cellK r3.out hC3.out ?_; intro h0 h1 hz hy' hl))
  have r5 := Hd.mk (r3.out.set (b1 := b3) (A1 := A3) (m1 := m3) (c1 := c3) hC3.out)
  have hD3 : Hd (updC C1 (w.heap.size + 1 + 1 + 1) [.bool b3, .slice A3 m3 c3] (w.heap.size + 1 + 1 + 1) = some [.bool b3, .slice A3 m3 c3]) := ⟨updC_same⟩
  have hD2 : Hd (updC C1 (w.heap.size + 1 + 1 + 1) [.bool b3, .slice A3 m3 c3] (w.heap.size + 1 + 1) = some [.bool false, .slice none 0 0]) := ⟨by rw [updC_ne (by omega)]; exact hC2.out⟩
  generalize updC C1 (w.heap.size + 1 + 1 + 1) [.bool b3, .slice A3 m3 c3] = C5 at *
  clear f0 f1 fz fy fl g0 g1 gz gy gl h0 h1 hz hy' hl hC0 hC1 hC2 hC3 r1 r2 r3 ha0 ha1
  generalize (w3.setCell ⟨w.heap.size + 1 + 1 + 1, 0, none⟩ (.bool b3)).setCell ⟨w.heap.size + 1 + 1 + 1, 1, none⟩ (.slice A3 m3 c3) = w5 at *
  refine SR.cellK r5.out hD3.out ?_
  intro p0 p1 pz py pl
  refine SR.cellK r5.out hD2.out ?_
  intro q0 q1 qz qy ql
  go_region_law (go_simp; go_at_call 26; refine (hwi.out _ _ r5.out.drew.v0).mono ?_; rintro e w6 ⟨rfl, hb6⟩; have r6 := Hd.mk (r5.out.drew.op hb6); clear hb6; refine SR.cellK r6.out hD3.out ?_; intro i0 i1 iz iy il; refine SR.cellK r6.out hD2.out ?_; intro j0 j1 jz jy jl)
  all_goals
    have hf := r6.out.set hD2.out (b1 := b3) (A1 := A3) (m1 := m3) (c1 := c3)
    have hf2 := Hd.mk (And.intro hf.v0 hf.bel)
    clear hf
    go_wp2
    refine bodyPost_ret (v := .tuple #[.agg #[.bool b3, .slice A3 m3 c3], .bool dc]) (by simp [results, Tryz.results63, go_sem, j0, j1, jz, jy, jl]) rfl ⟨_, _, _, _, rfl, hf2.out.1, hf2.out.2⟩
end Go.Proofs.YtpabbnogfflgpaaGreatDoor
end

section
namespace Go.Proofs.YtpabbnogfflgpaaGreatDoor
open Go.RowKit
set_option maxRecDepth 100000
theorem in96 {x : Int} (h : inR x = true) : x.natAbs < 10 ^ 96 := by
  have h1 : lim.natAbs < 10 ^ 96 := by decide
  have h2 : (lim.natAbs : Int) = lim := by decide
  unfold inR at h
  have := of_decide_eq_true h
  omega
/-- What the reference's power hands back. -/
def PwR (w : World) (res : Option Int) (e : Ending) (w' : World) : Prop := (∃ z b A m c, res = some z ∧ e = .returned (.tuple #[.agg #[.bool b, .slice A m c], .bool true]) ∧ NumV w' (.agg #[.bool b, .slice A m c]) z ∧ Below w.heap.size w w') ∨ (res = none ∧ ∃ b A m c, e = .returned (.tuple #[.agg #[.bool b, .slice A m c], .bool false]) ∧ Below w.heap.size w w')
theorem opS_some {v u : Value} {x y z : Int} {w : World} (hx : NumV w v x) (hy : NumV w u y) (hlx : inR x = true) (hly : inR y = true) (hr : rmul x y = some z) :
    Calls Tryz.prog 63 #[.int .i64 2, v, u] w fun e w' => ∃ b A m c, e = .returned (.tuple #[.agg #[.bool b, .slice A m c], .bool true]) ∧ NumV w' (.agg #[.bool b, .slice A m c]) z ∧ Below w.heap.size w w' := by
  have h := opS_2 v u x y w hx hy (in96 hlx) (in96 hly)
  rw [(rmul_in hr).2, (rmul_in hr).1] at h
  exact h
theorem opS_none {v u : Value} {x y : Int} {w : World} (hx : NumV w v x) (hy : NumV w u y) (hlx : inR x = true) (hly : inR y = true) (hr : rmul x y = none) :
    Calls Tryz.prog 63 #[.int .i64 2, v, u] w fun e w' => ∃ b A m c, e = .returned (.tuple #[.agg #[.bool b, .slice A m c], .bool false]) ∧ Below w.heap.size w w' := by
  have h := opS_2 v u x y w hx hy (in96 hlx) (in96 hly)
  rw [rmul_none hr] at h
  exact h.mono fun _ _ ⟨b, A, m, c, h1, _, h2⟩ => ⟨b, A, m, c, h1, h2⟩
set_option maxHeartbeats 8000000 in
theorem powS_any (n : Nat) (v : Value) (x : Int) (w : World) (hx : NumV w v x) (hxR : inR x = true) (hn : n < 18446744073709551616) (res : Option Int) (hres : pwD n x = res) :
    Calls Tryz.prog 21 #[v, .int .u64 (n : Int)] w fun e w' => PwR w res e w' := by
  obtain ⟨A, cap, rfl, -⟩ := hx.open
  have hpr := Hd.mk fun w1 => nv (prec_any w1)
  rw [show (10 : Int) ^ 18 = 1000000000000000000 by decide] at hpr
  generalize decide (x < 0) = nb at *
  generalize T.wlen x.natAbs = mx at *
  have r0 := SR.start w [(.agg #[.bool nb, .slice A mx cap], x)] (fun p hp => by cases List.mem_singleton.1 hp; exact hx)
  have r1 := (r0.box #[.bool nb, .slice A mx cap]).box #[.bool false, .slice none 0 0]
  rw [World.size_alloc] at r1
  have hC0 : (updC (updC (fun _ => none) w.heap.size [.bool nb, .slice A mx cap]) (w.heap.size + 1) [.bool false, .slice none 0 0]) w.heap.size = some [.bool nb, .slice A mx cap] := by rw [updC_ne (by omega)]; exact updC_same
  have hC1 : (updC (updC (fun _ => none) w.heap.size [.bool nb, .slice A mx cap]) (w.heap.size + 1) [.bool false, .slice none 0 0]) (w.heap.size + 1) = some [.bool false, .slice none 0 0] := updC_same
  change SR w _ (updC (updC (fun _ => none) w.heap.size [.bool nb, .slice A mx cap]) (w.heap.size + 1) [.bool false, .slice none 0 0]) _ at r1
  have s1 : ((w.alloc (.cells #[.bool nb, .slice A mx cap] 24)).alloc (.cells #[.bool false, .slice none 0 0] 24)).heap.size ≥ w.heap.size + 2 := by rw [World.size_alloc, World.size_alloc]; omega
  generalize updC (updC (fun _ => none) w.heap.size [.bool nb, .slice A mx cap]) (w.heap.size + 1) [.bool false, .slice none 0 0] = C1 at *
  replace hC0 := Hd.mk hC0
  replace hC1 := Hd.mk hC1
  replace r1 := Hd.mk r1
  replace hx := Hd.mk hx
  clear r0
  by_cases hn0 : n = 0
  · subst hn0
    obtain rfl : res = some 1000000000000000000 := by rw [← hres]; exact if_pos rfl
    clear hres
    go_enter Tryz.func21, Tryz.ntmps21
    go_upto_region 2 with fail
    generalize (w.alloc (.cells #[.bool nb, .slice A mx cap] 24)).alloc (.cells #[.bool false, .slice none 0 0] 24) = w1 at *
    go_wp2_with (go_at_call 12; refine (hpr.out _).mono ?_; rintro e w2 ⟨b2, A2, m2, c2, rfl, hn2, hb2⟩; have r2 := Hd.mk ((r1.out.op hb2).add hn2); clear hb2 hn2; refine SR.cellK r2.out hC1.out ?_; intro q0 q1 qz qy ql)
    have hf := r2.out.set hC1.out (b1 := b2) (A1 := A2) (m1 := m2) (c1 := c2)
    have hf2 := Hd.mk (And.intro hf.v0 hf.bel)
    clear hf
    refine bodyPost_ret (v := .tuple #[.agg #[.bool b2, .slice A2 m2 c2], .bool true]) (by simp [results, Tryz.results21, go_sem, q0, q1, qz, qy]) rfl (.inl ⟨_, _, _, _, _, rfl, rfl, hf2.out.1, hf2.out.2⟩)
  · have hn0' : ((n : Int) == 0) = false := by simp; omega
    have hres1 : pwS n 1000000000000000000 x = res := by rw [← hres]; exact (if_neg hn0).symm
    clear hres
    go_enter Tryz.func21, Tryz.ntmps21
    go_upto_region 3 with fail
    generalize (w.alloc (.cells #[.bool nb, .slice A mx cap] 24)).alloc (.cells #[.bool false, .slice none 0 0] 24) = w1 at *
    go_wp2_with (go_at_call 12; refine (hpr.out _).mono ?_; rintro e w2 ⟨b2, A2, m2, c2, rfl, hn2, hb2⟩; have r2 := Hd.mk (SR.two (r1.out.op hb2) (r1.out.op hb2).v0 hn2); have s2 := hb2.size; clear hb2 hn2)
    have r3 := Hd.mk (r2.out.box2 (b0 := b2) (A := A2) (m := m2) (c := c2))
    have hD0 : Hd ((updC C1 w2.heap.size [.bool b2, .slice A2 m2 c2]) w.heap.size = some [.bool nb, .slice A mx cap]) := ⟨by rw [updC_ne (by omega)]; exact hC0.out⟩
    have hD1 : Hd ((updC C1 w2.heap.size [.bool b2, .slice A2 m2 c2]) (w.heap.size + 1) = some [.bool false, .slice none 0 0]) := ⟨by rw [updC_ne (by omega)]; exact hC1.out⟩
    have hD2 : Hd ((updC C1 w2.heap.size [.bool b2, .slice A2 m2 c2]) w2.heap.size = some [.bool b2, .slice A2 m2 c2]) := ⟨updC_same⟩
    generalize updC C1 w2.heap.size [.bool b2, .slice A2 m2 c2] = C3 at *
    generalize w2.alloc (.cells #[.bool b2, .slice A2 m2 c2] 24) = w3 at *
    have hbo : w.heap.size + 2 ≤ w2.heap.size := by omega
    generalize w2.heap.size = bo at *
    replace hres1 := Hd.mk hres1
    clear hC0 hC1 r1 r2 s1 s2 hpr
    go_loopw [1, 7] (fun i k wr => ∃ (m : Nat) (o a : Int), ∃ b A mm c b' A' m' c', i = .int .u64 m ∧ k = .bool true ∧ 1 ≤ m ∧ m < 18446744073709551616 ∧ Hd (pwS m o a = res) ∧ Hd (inR o = true) ∧ Hd (inR a = true) ∧ ∃ C, Hd (SR w wr C [(.agg #[.bool b, .slice A mm c], a), (.agg #[.bool b', .slice A' m' c'], o)]) ∧ Hd (C w.heap.size = some [.bool b, .slice A mm c]) ∧ Hd (C (w.heap.size + 1) = some [.bool false, .slice none 0 0]) ∧ Hd (C bo = some [.bool b', .slice A' m' c'])) (fun i _ _ => (intOf i).toNat)
    case atStart => exact ⟨n, _, _, _, _, _, _, _, _, _, _, rfl, rfl, by omega, hn, hres1, ⟨by decide⟩, ⟨hxR⟩, C3, r3, hD0, hD1, hD2⟩
    case round =>
      obtain ⟨m, o, a, b, A, mm, c, b', A', m', c', rfl, rfl, hm1, hmB, hpw, ho, ha, C, hr, hE0, hE1, hE2⟩ := hrel
      refine SR.cellK hr.out hE0.out ?_
      intro f0 f1 fz fy fl
      refine SR.cellK hr.out hE2.out ?_
      intro g0 g1 gz gy gl
      by_cases hm : m ≤ 1
      · have d1 : decide ((1 : Int) < (m : Int)) = false := decide_eq_false (by omega)
        have hp1 := hpw.out
        rw [pwS_one hm] at hp1
        cases res with
        | none =>
          have hc := Hd.mk (opS_none hr.out.v0 hr.out.v1 ha.out ho.out hp1)
          replace hp1 := Hd.mk hp1
          go_wp2_with (go_at_call 63; refine hc.out.mono ?_; rintro e w5 ⟨b5, A5, m5, c5, rfl, hb5⟩; have r5 := Hd.mk (hr.out.op hb5); clear hb5; refine SR.cellK r5.out hE1.out ?_; intro q0 q1 qz qy ql)
          have hf := r5.out.set hE1.out (b1 := b5) (A1 := A5) (m1 := m5) (c1 := c5)
          have hf2 := Hd.mk hf.bel
          clear hf
          refine bodyPost_ret (v := .tuple #[.agg #[.bool b5, .slice A5 m5 c5], .bool false]) (by simp [results, Tryz.results21, go_sem, q0, q1, qz, qy]) rfl (.inr ⟨rfl, _, _, _, _, rfl, hf2.out⟩)
        | some z =>
          have hc := Hd.mk (opS_some hr.out.v0 hr.out.v1 ha.out ho.out hp1)
          replace hp1 := Hd.mk hp1
          go_wp2_with (go_at_call 63; refine hc.out.mono ?_; rintro e w5 ⟨b5, A5, m5, c5, rfl, hn5, hb5⟩; have r5 := Hd.mk ((hr.out.op hb5).add hn5); clear hb5 hn5; refine SR.cellK r5.out hE1.out ?_; intro q0 q1 qz qy ql)
          have hf := r5.out.set hE1.out (b1 := b5) (A1 := A5) (m1 := m5) (c1 := c5)
          have hf2 := Hd.mk (And.intro hf.v0 hf.bel)
          clear hf
          refine bodyPost_ret (v := .tuple #[.agg #[.bool b5, .slice A5 m5 c5], .bool true]) (by simp [results, Tryz.results21, go_sem, q0, q1, qz, qy]) rfl (.inl ⟨_, _, _, _, _, rfl, rfl, hf2.out.1, hf2.out.2⟩)
      · have d1 : decide ((1 : Int) < (m : Int)) = true := decide_eq_true (by omega)
        have hp1 := hpw.out
        rw [pwS_step hm] at hp1
        by_cases hod : m % 2 = 1
        · rw [if_pos hod] at hp1
          have d2 : ((m : Int) % 2 == 1) = true := by simp; omega
          cases hoo : rmul o a with
          | none =>
            have hc := Hd.mk (opS_none hr.out.v1 hr.out.v0 ho.out ha.out hoo)
            rw [hoo] at hp1
            obtain rfl : res = none := hp1.symm
            replace hoo := Hd.mk hoo
            clear hp1
            go_wp2_with (go_at_call 63; refine hc.out.mono ?_; rintro e w5 ⟨b5, A5, m5, c5, rfl, hb5⟩; have r5 := Hd.mk (hr.out.op hb5); clear hb5; refine SR.cellK r5.out hE2.out ?_; intro h0 h1 hz hy hl; have r6 := Hd.mk (r5.out.set hE2.out (b1 := b5) (A1 := A5) (m1 := m5) (c1 := c5)); have hF : Hd (updC C bo [.bool b5, .slice A5 m5 c5] (w.heap.size + 1) = some [.bool false, .slice none 0 0]) := ⟨by rw [updC_ne (by omega)]; exact hE1.out⟩; refine SR.cellK r6.out hF.out ?_; intro q0 q1 qz qy ql)
            have hf := r6.out.set hF.out (b1 := false) (A1 := none) (m1 := 0) (c1 := 0)
            have hf2 := Hd.mk hf.bel
            clear hf
            refine bodyPost_ret (v := .tuple #[.agg #[.bool false, .slice none 0 0], .bool false]) (by simp [results, Tryz.results21, go_sem, q0, q1, qz, qy]) rfl (.inr ⟨rfl, _, _, _, _, rfl, hf2.out⟩)
          | some o' =>
            have hc := Hd.mk (opS_some hr.out.v1 hr.out.v0 ho.out ha.out hoo)
            rw [hoo] at hp1
            have ho' := Hd.mk (rmul_in hoo).1
            replace hoo := Hd.mk hoo
            replace hp1 := Hd.mk hp1
            go_upto_region 10 with (go_at_call 63; refine hc.out.mono ?_; rintro e w6 ⟨b6, A6, m6, c6, rfl, hn6, hb6⟩; have r6 := Hd.mk (SR.two (hr.out.op hb6) (hr.out.op hb6).v0 hn6); clear hb6 hn6; refine SR.cellK r6.out hE2.out ?_; intro h0 h1 hz hy hl)
            have r7 := Hd.mk (r6.out.set hE2.out (b1 := b6) (A1 := A6) (m1 := m6) (c1 := c6))
            have hF0 : Hd (updC C bo [.bool b6, .slice A6 m6 c6] w.heap.size = some [.bool b, .slice A mm c]) := ⟨by rw [updC_ne (by omega)]; exact hE0.out⟩
            have hF1 : Hd (updC C bo [.bool b6, .slice A6 m6 c6] (w.heap.size + 1) = some [.bool false, .slice none 0 0]) := ⟨by rw [updC_ne (by omega)]; exact hE1.out⟩
            have hF2 : Hd (updC C bo [.bool b6, .slice A6 m6 c6] bo = some [.bool b6, .slice A6 m6 c6]) := ⟨updC_same⟩
            generalize updC C bo [.bool b6, .slice A6 m6 c6] = C7 at *
            clear f0 f1 fz fy fl g0 g1 gz gy gl h0 h1 hz hy hl hc r6
            generalize (w6.setCell ⟨bo, 0, none⟩ (.bool b6)).setCell ⟨bo, 1, none⟩ (.slice A6 m6 c6) = w7 at *
            refine SR.cellK r7.out hF0.out ?_
            intro f0 f1 fz fy fl
            cases haa : rmul a a with
            | none =>
              have hc := Hd.mk (opS_none r7.out.v0 r7.out.v0 ha.out ha.out haa)
              have hp2 := hp1.out
              simp only [Option.bind_some, haa, Option.bind_none] at hp2
              obtain rfl : res = none := hp2.symm
              replace haa := Hd.mk haa
              clear hp2
              go_wp2_with (go_at_call 63; refine hc.out.mono ?_; rintro e w5 ⟨b5, A5, m5, c5, rfl, hb5⟩; have r5 := Hd.mk (r7.out.op hb5); clear hb5; refine SR.cellK r5.out hF0.out ?_; intro h0 h1 hz hy hl; have r6 := Hd.mk (r5.out.set hF0.out (b1 := b5) (A1 := A5) (m1 := m5) (c1 := c5)); have hF : Hd (updC C7 w.heap.size [.bool b5, .slice A5 m5 c5] (w.heap.size + 1) = some [.bool false, .slice none 0 0]) := ⟨by rw [updC_ne (by omega)]; exact hF1.out⟩; refine SR.cellK r6.out hF.out ?_; intro q0 q1 qz qy ql)
              have hf := r6.out.set hF.out (b1 := false) (A1 := none) (m1 := 0) (c1 := 0)
              have hf2 := Hd.mk hf.bel
              clear hf
              refine bodyPost_ret (v := .tuple #[.agg #[.bool false, .slice none 0 0], .bool false]) (by simp [results, Tryz.results21, go_sem, q0, q1, qz, qy]) rfl (.inr ⟨rfl, _, _, _, _, rfl, hf2.out⟩)
            | some a' =>
              have hc := Hd.mk (opS_some r7.out.v0 r7.out.v0 ha.out ha.out haa)
              have hp2 := hp1.out
              simp only [Option.bind_some, haa] at hp2
              have ha' := Hd.mk (rmul_in haa).1
              replace haa := Hd.mk haa
              replace hp2 := Hd.mk hp2
              go_wp2_with (go_at_call 63; refine hc.out.mono ?_; rintro e w8 ⟨b8, A8, m8, c8, rfl, hn8, hb8⟩; have r8 := Hd.mk (SR.two (r7.out.op hb8) hn8 (r7.out.op hb8).v1); clear hb8 hn8; refine SR.cellK r8.out hF0.out ?_; intro h0 h1 hz hy hl)
              have r9 := Hd.mk (r8.out.set hF0.out (b1 := b8) (A1 := A8) (m1 := m8) (c1 := c8))
              go_roundw
              case rel => exact ⟨m / 2, o', a', _, _, _, _, _, _, _, _, rfl, rfl, by omega, by omega, hp2, ho', ha', _, r9, ⟨updC_same⟩, ⟨by rw [updC_ne (by omega)]; exact hF1.out⟩, ⟨by rw [updC_ne (by omega)]; exact hF2.out⟩⟩
              case measure => simp [intOf]; omega
        · rw [if_neg hod] at hp1
          have d2 : ((m : Int) % 2 == 1) = false := by simp; omega
          replace hp1 := Hd.mk hp1
          cases haa : rmul a a with
          | none =>
            have hc := Hd.mk (opS_none hr.out.v0 hr.out.v0 ha.out ha.out haa)
            have hp2 := hp1.out
            simp only [Option.bind_some, haa, Option.bind_none] at hp2
            obtain rfl : res = none := hp2.symm
            replace haa := Hd.mk haa
            clear hp2
            go_wp2_with (go_at_call 63; refine hc.out.mono ?_; rintro e w5 ⟨b5, A5, m5, c5, rfl, hb5⟩; have r5 := Hd.mk (hr.out.op hb5); clear hb5; refine SR.cellK r5.out hE0.out ?_; intro h0 h1 hz hy hl; have r6 := Hd.mk (r5.out.set hE0.out (b1 := b5) (A1 := A5) (m1 := m5) (c1 := c5)); have hF : Hd (updC C w.heap.size [.bool b5, .slice A5 m5 c5] (w.heap.size + 1) = some [.bool false, .slice none 0 0]) := ⟨by rw [updC_ne (by omega)]; exact hE1.out⟩; refine SR.cellK r6.out hF.out ?_; intro q0 q1 qz qy ql)
            have hf := r6.out.set hF.out (b1 := false) (A1 := none) (m1 := 0) (c1 := 0)
            have hf2 := Hd.mk hf.bel
            clear hf
            refine bodyPost_ret (v := .tuple #[.agg #[.bool false, .slice none 0 0], .bool false]) (by simp [results, Tryz.results21, go_sem, q0, q1, qz, qy]) rfl (.inr ⟨rfl, _, _, _, _, rfl, hf2.out⟩)
          | some a' =>
            have hc := Hd.mk (opS_some hr.out.v0 hr.out.v0 ha.out ha.out haa)
            have hp2 := hp1.out
            simp only [Option.bind_some, haa] at hp2
            have ha' := Hd.mk (rmul_in haa).1
            replace haa := Hd.mk haa
            replace hp2 := Hd.mk hp2
            go_wp2_with (go_at_call 63; refine hc.out.mono ?_; rintro e w8 ⟨b8, A8, m8, c8, rfl, hn8, hb8⟩; have r8 := Hd.mk (SR.two (hr.out.op hb8) hn8 (hr.out.op hb8).v1); clear hb8 hn8; refine SR.cellK r8.out hE0.out ?_; intro h0 h1 hz hy hl)
            have r9 := Hd.mk (r8.out.set hE0.out (b1 := b8) (A1 := A8) (m1 := m8) (c1 := c8))
            go_roundw
            case rel => exact ⟨m / 2, o, a', _, _, _, _, _, _, _, _, rfl, rfl, by omega, by omega, hp2, ho, ha', _, r9, ⟨updC_same⟩, ⟨by rw [updC_ne (by omega)]; exact hE1.out⟩, ⟨by rw [updC_ne (by omega)]; exact hE2.out⟩⟩
            case measure => simp [intOf]; omega
end Go.Proofs.YtpabbnogfflgpaaGreatDoor
end
