/- Decimals: powers. Texts of numbers that are an int64: what strconv.ParseInt reads of them. Plain lists and numbers; no program in sight. Decimals made of whole numbers. The thin package: one decimal changed; a power; a decimal made of a whole number: the functions by their closures. Ranges; numbers opened. Conditions: those that each theorem states. -/
import Derived.Test.YtdbjdpooggaonaaGreatDoorBase28
import Derived.Lib.ParseIntBTie
import Derived.Test.YtdbjdpooggaonaaGreatDoorBase07
import Derived.Test.YtdbjdpooggaonaaGreatDoorShelf
import Derived.Test.YtdbjdpooggaonaaGreatDoorBase27
import Derived.Test.YtdbjdpooggaonaaGreatDoorBase25
import Derived.Test.YtdbjdpooggaonaaGreatDoorBase21
set_option linter.all false

section
namespace Go.Proofs.YtdbjdpooggaonaaGreatDoor
open Go.RowKit
set_option maxRecDepth 100000
set_option maxHeartbeats 1000000 in
theorem precisionInt_any (w : World) (hok : Ok w) : Calls Tryz.prog 164 #[] w fun e w' => ∃ B, e = .returned (ptr B) ∧ NewI w w' B 1000000000000000000 := by
  have r0 := Hd.mk hok.run
  have r1 := Hd.mk (r0.out.new_int (NewI.of_new _))
  clear r0
  go_enter Tryz.func164, Tryz.ntmps164
  go_wp2_with fail
  refine (precisionReuse_any _ r1.out.ok).mono ?_
  rintro e w2 ⟨B2, rfl, hn2⟩
  have r2 := Hd.mk (r1.out.new_int hn2)
  have g2 := hn2.ge
  have s2 := hn2.bel.size
  try simp only [World.size_alloc] at g2 s2
  have l2 := r2.out.ilt upd_same
  have q2 := Hd.mk hn2.bel
  clear hn2 r1
  have hm := Hd.mk (ISet_any _ w.heap.size B2 0 1000000000000000000 _ w2 r2.out.ints (by rw [upd_ne (by omega), upd_same]) upd_same (by have := wl18; omega))
  go_wp2_with fail
  refine (hm.out).mono ?_
  rintro e w3 ⟨rfl, hk3, hI3⟩
  have s3 := hk3.size
  try simp only [World.size_alloc] at s3
  have r3 := Hd.mk (r2.out.op hk3 hI3)
  clear hk3 hI3 r2
  have hfin := Hd.mk (r3.out.newI upd_same)
  clear r3 hm
  go_wp2
  go_ret
  exact ⟨_, rfl, hfin.out⟩
set_option maxHeartbeats 1000000 in
theorem OneDec_any (w : World) (hok : Ok w) : Calls Tryz.prog 76 #[] w fun e w' => ∃ B, e = .returned (.agg #[ptr B]) ∧ NewI w w' B 1000000000000000000 := by
  have r0 := Hd.mk hok.run
  have r1 := Hd.mk (r0.out.box #[.pointer none] 68)
  clear r0
  go_enter Tryz.func76, Tryz.ntmps76
  go_wp2_with fail
  refine (precisionInt_any _ r1.out.ok).mono ?_
  rintro e w2 ⟨B2, rfl, hn2⟩
  have r2 := Hd.mk (r1.out.new_int hn2)
  have g2 := hn2.ge
  have s2 := hn2.bel.size
  try simp only [World.size_alloc] at g2 s2
  have l2 := r2.out.ilt upd_same
  have q2 := Hd.mk hn2.bel
  clear hn2 r1
  obtain ⟨c2, c2z, c2l⟩ := r2.out.cell (b := w.heap.size) updX_same
  go_wp2
  have r3 := r2.out.set1 (b := w.heap.size) (v := .pointer none) (v' := ptr B2) updX_same
  refine bodyPost_ret (v := .agg #[ptr B2]) (by simp [results, Tryz.results76, go_sem, c2, c2z, c2l]) rfl ⟨_, rfl, r3.newI upd_same⟩
/-- What a power hands back. -/
def PwPost (P : Nat → Prop) (w : World) (bd : Nat) (S : Nat → Option Int) (res : Option Int) (e : Ending) (w' : World) : Prop := (∃ z, res = some z ∧ e = .returned (.agg #[ptr bd]) ∧ Keep P w w' ∧ Ints P w' (upd S bd z)) ∨ (res = none ∧ Pan e ∧ Keep P w w')
theorem wl12 {x : Int} (h : inR x = true) : wlen x.natAbs < 12 := by have := inR_wl h; omega
theorem upd_swap {S : Nat → Option Int} {B C : Nat} {a b c : Int} (h : C ≠ B) : upd (upd (upd S B a) C b) B c = upd (upd S B c) C b := by
  funext k
  unfold upd
  by_cases h1 : k = B
  · subst h1; rw [if_pos rfl, if_neg (fun e => h e.symm), if_pos rfl]
  · simp only [if_neg h1]
theorem upd_sub {S : Nat → Option Int} {B C k : Nat} {o z v : Int} (hB : S B = none) (h : upd S C z k = some v) : upd (upd S B o) C z k = some v := by
  unfold upd at h ⊢
  by_cases h1 : k = C
  · rw [if_pos h1] at h ⊢; exact h
  · rw [if_neg h1] at h ⊢
    rw [if_neg (fun e => by subst e; rw [hB] at h; cases h)]; exact h
set_option maxHeartbeats 8000000 in
theorem PowerMut_any (P : Nat → Prop) (bd n : Nat) (x : Int) (S : Nat → Option Int) (w : World) (hI : Ints P w S) (hx : S bd = some x) (hxR : inR x = true) (hn : n < 18446744073709551616) (res : Option Int) (hres : pwD n x = res) :
    Calls Tryz.prog 52 #[.agg #[ptr bd], .int .u64 (n : Int)] w fun e w' => PwPost P w bd S res e w' := by
  have r0 := Hd.mk (Run.start hI)
  have hlo := Hd.mk hI.low
  have hl := hI.lt hx
  clear hI
  have r1 := Hd.mk (r0.out.box #[ptr bd] 68)
  clear r0
  have r2 := Hd.mk (r1.out.box #[.pointer none] 68)
  clear r1
  simp only [World.size_alloc] at r2
  have h18 : inR 1000000000000000000 = true := by decide
  by_cases hn0 : n = 0
  · subst hn0
    have hr1 : res = some 1000000000000000000 := by rw [← hres]; exact if_pos rfl
    subst hr1
    have hxk := Hd.mk hx
    clear hx hres
    go_enter Tryz.func52, Tryz.ntmps52
    go_upto_region 2 with fail
    generalize hW2 : (w.alloc (.cells #[ptr bd] 68)).alloc (.cells #[.pointer none] 68) = w2 at *
    have s2 : w2.heap.size = w.heap.size + 2 := by rw [← hW2]; simp only [World.size_alloc]
    replace hW2 := Hd.mk hW2
    replace s2 := Hd.mk s2
    obtain ⟨a2, a2z, a2l⟩ := r2.out.cell (b := w.heap.size) (by rw [updX_ne (by omega), updX_same])
    go_region_law (first
      | (go_simp; go_at_call 138; refine (precisionReuse_any _ r2.out.drew.ok).mono ?_; rintro e w3 ⟨B3, rfl, hn3⟩; have r3 := Hd.mk (r2.out.drew.new_int hn3); have g3 : w.heap.size + 2 ≤ B3 := (by have := hn3.ge; change w2.heap.size ≤ B3 at this; have := s2.out; omega); have l3 := r3.out.ilt upd_same; obtain ⟨c3, c3z, c3l⟩ := r3.out.cell (b := w.heap.size) (by rw [updX_ne (by omega), updX_same]); obtain ⟨e3, e3z, e3l⟩ := r3.out.cell (b := w.heap.size + 1) updX_same; clear hn3)
      | (go_simp; go_at_call 137; refine (ISet_any _ bd B3 x 1000000000000000000 _ w3 r3.out.ints (by rw [upd_ne (by omega)]; exact hxk.out) upd_same (by have := wl18; omega)).mono ?_; rintro e w4 ⟨rfl, hk4, hI4⟩; have r4 := Hd.mk (r3.out.op hk4 hI4); obtain ⟨c4, c4z, c4l⟩ := r4.out.cell (b := w.heap.size) (by rw [updX_ne (by omega), updX_same]); obtain ⟨e4, e4z, e4l⟩ := r4.out.cell (b := w.heap.size + 1) updX_same; clear hk4 hI4))
    all_goals
      go_wp2
      have r5 := r4.out.set1 (b := w.heap.size + 1) (v := .pointer none) (v' := ptr bd) updX_same
      refine bodyPost_ret (v := .agg #[ptr bd]) (by simp [results, Tryz.results52, go_sem, e4, e4z, e4l]) rfl (.inl ⟨_, rfl, rfl, r5.fin.1, r5.fin.2.sub fun k z hk => ?_⟩)
      rcases upd_cases hk with ⟨rfl, rfl⟩ | ⟨hne, hk⟩
      · repeat first | exact upd_same | rw [upd_ne (by omega)]
      · have hkl := hlo.out.lt hk
        repeat rw [upd_ne (by first | exact hne | ((try simp only [World.size_alloc]); omega))]
        exact hk
  · have hn0' : ((n : Int) == 0) = false := by simp; omega
    have hres1 : pwS n 1000000000000000000 x = res := by rw [← hres]; exact (if_neg hn0).symm
    clear hres
    have hmul := Hd.mk fun (Q : Nat → Prop) (b1 b2 : Nat) (S1 : Nat → Option Int) (w1 : World) (u v z : Int) (hr : rmul u v = some z) (h1 : inR u = true) (h2 : inR v = true) (hI : Ints Q w1 S1) (e1 : S1 b1 = some u) (e2 : S1 b2 = some v) => (rmul_in hr).2 ▸ MulMut_ok Q b1 b2 u v S1 w1 hI e1 e2 (wl12 h1) (wl12 h2) (by rw [(rmul_in hr).2]; exact (rmul_in hr).1)
    have hpan := Hd.mk fun (Q : Nat → Prop) (b1 b2 : Nat) (S1 : Nat → Option Int) (w1 : World) (u v : Int) (hr : rmul u v = none) (h1 : inR u = true) (h2 : inR v = true) (hI : Ints Q w1 S1) (e1 : S1 b1 = some u) (e2 : S1 b2 = some v) => MulMut_pan Q b1 b2 u v S1 w1 hI e1 e2 (wl12 h1) (wl12 h2) (rmul_none hr)
    go_enter Tryz.func52, Tryz.ntmps52
    go_wp2_with fail
    refine (OneDec_any _ r2.out.ok).mono ?_
    rintro e w3 ⟨B3, rfl, hn3⟩
    have r3 := Hd.mk (r2.out.new_int hn3)
    have g3 := hn3.ge
    have s3 := hn3.bel.size
    try simp only [World.size_alloc] at g3 s3
    have l3 := r3.out.ilt upd_same
    have q3 := Hd.mk hn3.bel
    clear hn3 r2
    have hSB := Hd.mk (hlo.out B3 (by omega))
    have r4 := Hd.mk (r3.out.box #[ptr B3] 68)
    clear r3
    have e4 : upd S B3 1000000000000000000 = upd (upd S B3 1000000000000000000) bd x := (upd_self (by rw [upd_ne (by omega)]; exact hx)).symm
    rw [e4] at r4
    clear e4
    have hX0 : (updX (updX (updX (fun _ => Option.none) w.heap.size (68, [ptr bd])) (w.heap.size + 1) (68, [Value.pointer none])) w3.heap.size (68, [ptr B3])) w.heap.size = some (68, [ptr bd]) := by rw [updX_ne (by omega), updX_ne (by omega), updX_same]
    have hX1 : (updX (updX (updX (fun _ => Option.none) w.heap.size (68, [ptr bd])) (w.heap.size + 1) (68, [Value.pointer none])) w3.heap.size (68, [ptr B3])) (w.heap.size + 1) = some (68, [Value.pointer none]) := by rw [updX_ne (by omega), updX_same]
    have hX2 : (updX (updX (updX (fun _ => Option.none) w.heap.size (68, [ptr bd])) (w.heap.size + 1) (68, [Value.pointer none])) w3.heap.size (68, [ptr B3])) w3.heap.size = some (68, [ptr B3]) := updX_same
    replace r4 : Hd (Run P w (w3.alloc (.cells #[ptr B3] 68)) (updX (updX (updX (fun _ => Option.none) w.heap.size (68, [ptr bd])) (w.heap.size + 1) (68, [Value.pointer none])) w3.heap.size (68, [ptr B3])) _) := r4
    have hb3 : B3 ≠ bd := by omega
    go_upto_region 5 with fail
    generalize updX (updX (updX (fun _ => Option.none) w.heap.size (68, [ptr bd])) (w.heap.size + 1) (68, [Value.pointer none])) w3.heap.size (68, [ptr B3]) = X4 at *
    generalize w3.alloc (.cells #[ptr B3] 68) = w4 at *
    generalize w3.heap.size = bt at *
    replace hX0 := Hd.mk hX0
    replace hX1 := Hd.mk hX1
    replace hX2 := Hd.mk hX2
    replace hx := Hd.mk hx
    replace hres1 := Hd.mk hres1
    clear q3 g3 s3 l3 hlo
    go_wp2
    go_loopw [6] (fun i wr => ∃ (m : Nat) (o a : Int), i = .int .u64 m ∧ 1 ≤ m ∧ m < 18446744073709551616 ∧ Hd (pwS m o a = res) ∧ Hd (inR o = true) ∧ Hd (inR a = true) ∧ Hd (Run P w wr X4 (upd (upd S B3 o) bd a))) (fun i _ => (intOf i).toNat)
    case atStart => exact ⟨n, _, _, rfl, by omega, hn, hres1, ⟨h18⟩, ⟨hxR⟩, r4⟩
    case round =>
      obtain ⟨m, o, a, rfl, hm1, hmB, hpw, ho, ha, hr⟩ := hrel
      obtain ⟨f0, f0z, f0l⟩ := hr.out.cell hX0.out
      obtain ⟨f2, f2z, f2l⟩ := hr.out.cell hX2.out
      have ea : upd (upd S B3 o) bd a bd = some a := upd_same
      have eo : upd (upd S B3 o) bd a B3 = some o := by rw [upd_ne hb3, upd_same]
      replace ea := Hd.mk ea
      replace eo := Hd.mk eo
      by_cases hm : m ≤ 1
      · have d1 : decide ((1 : Int) < (m : Int)) = false := decide_eq_false (by omega)
        have hp1 := hpw.out
        rw [pwS_one hm] at hp1
        cases res with
        | none =>
          have hc := Hd.mk (hpan.out _ bd B3 _ _ a o hp1 ha.out ho.out hr.out.ints ea.out eo.out)
          replace hp1 := Hd.mk hp1
          go_wp2_with fail
          refine hc.out.mono ?_
          rintro e w5 ⟨⟨u5, v5, rfl⟩, hk5⟩
          have hf := Hd.mk (hr.out.keep.trans (hk5.sub fun k hk => .inl hk))
          clear hk5
          first | exact .inr ⟨rfl, ⟨_, _, rfl⟩, hf.out⟩ | exact ⟨rfl, .inr ⟨rfl, ⟨_, _, rfl⟩, hf.out⟩⟩ | (go_wp2; exact ⟨rfl, .inr ⟨rfl, ⟨_, _, rfl⟩, hf.out⟩⟩)
        | some z =>
          have hc := Hd.mk (hmul.out _ bd B3 _ _ a o z hp1 ha.out ho.out hr.out.ints ea.out eo.out)
          replace hp1 := Hd.mk hp1
          go_wp2_with fail
          refine hc.out.mono ?_
          rintro e w5 ⟨rfl, hk5, hI5⟩
          have r5 := hr.out.op hk5 hI5
          rw [upd_upd] at r5
          clear hk5 hI5 hc
          obtain ⟨e5, e5z, e5l⟩ := r5.cell hX1.out
          have r6 := r5.set1 (v' := ptr bd) hX1.out
          replace r5 := Hd.mk r5
          have hf := Hd.mk (And.intro r6.fin.1 (r6.fin.2.sub (S' := upd S bd z) fun k v hk => upd_sub hSB.out hk))
          clear r6
          go_wp2
          refine bodyPost_ret (v := .agg #[ptr bd]) (by simp [results, Tryz.results52, go_sem, e5, e5z, e5l]) rfl (.inl ⟨_, rfl, rfl, hf.out.1, hf.out.2⟩)
      · have d1 : decide ((1 : Int) < (m : Int)) = true := decide_eq_true (by omega)
        have hp1 := hpw.out
        rw [pwS_step hm] at hp1
        by_cases hod : m % 2 = 1
        · rw [if_pos hod] at hp1
          have d2 : ((m : Int) % 2 == 0) = false := by simp; omega
          cases hoo : rmul o a with
          | none =>
            rw [hoo] at hp1
            obtain rfl : res = none := hp1.symm
            have hc := Hd.mk (hpan.out _ B3 bd _ _ o a hoo ho.out ha.out hr.out.ints eo.out ea.out)
            replace hoo := Hd.mk hoo
            clear hp1
            go_wp2_with fail
            refine hc.out.mono ?_
            rintro e w5 ⟨⟨u5, v5, rfl⟩, hk5⟩
            have hf := Hd.mk (hr.out.keep.trans (hk5.sub fun k hk => .inl hk))
            clear hk5
            first | exact .inr ⟨rfl, ⟨_, _, rfl⟩, hf.out⟩ | exact ⟨rfl, .inr ⟨rfl, ⟨_, _, rfl⟩, hf.out⟩⟩ | (go_wp2; exact ⟨rfl, .inr ⟨rfl, ⟨_, _, rfl⟩, hf.out⟩⟩)
          | some o' =>
            rw [hoo] at hp1
            have hc := Hd.mk (hmul.out _ B3 bd _ _ o a o' hoo ho.out ha.out hr.out.ints eo.out ea.out)
            have ho' := Hd.mk (rmul_in hoo).1
            replace hoo := Hd.mk hoo
            replace hp1 := Hd.mk hp1
            go_wp2_with fail
            refine hc.out.mono ?_
            rintro e w5 ⟨rfl, hk5, hI5⟩
            have r5 := hr.out.op hk5 hI5
            rw [upd_swap hb3.symm] at r5
            clear hk5 hI5 hc
            obtain ⟨g0, g0z, g0l⟩ := r5.cell hX0.out
            replace r5 := Hd.mk r5
            cases haa : rmul a a with
            | none =>
              have hc := Hd.mk (hpan.out _ bd bd _ _ a a haa ha.out ha.out r5.out.ints upd_same upd_same)
              have hp2 := hp1.out
              simp only [Option.bind_some, haa, Option.bind_none] at hp2
              obtain rfl : res = none := hp2.symm
              replace haa := Hd.mk haa
              clear hp2
              go_wp2_with fail
              refine hc.out.mono ?_
              rintro e w6 ⟨⟨u6, v6, rfl⟩, hk6⟩
              have hf := Hd.mk (r5.out.keep.trans (hk6.sub fun k hk => .inl hk))
              clear hk6
              first | exact .inr ⟨rfl, ⟨_, _, rfl⟩, hf.out⟩ | exact ⟨rfl, .inr ⟨rfl, ⟨_, _, rfl⟩, hf.out⟩⟩ | (go_wp2; exact ⟨rfl, .inr ⟨rfl, ⟨_, _, rfl⟩, hf.out⟩⟩)
            | some a' =>
              have hc := Hd.mk (hmul.out _ bd bd _ _ a a a' haa ha.out ha.out r5.out.ints upd_same upd_same)
              have hp2 := hp1.out
              simp only [Option.bind_some, haa] at hp2
              have ha' := Hd.mk (rmul_in haa).1
              replace haa := Hd.mk haa
              replace hp2 := Hd.mk hp2
              go_wp2_with fail
              refine hc.out.mono ?_
              rintro e w6 ⟨rfl, hk6, hI6⟩
              have r6 := r5.out.op hk6 hI6
              rw [upd_upd] at r6
              clear hk6 hI6 hc
              replace r6 := Hd.mk r6
              go_wp2
              go_roundw
              case rel => exact ⟨m / 2, o', a', rfl, by omega, by omega, hp2, ho', ha', r6⟩
              case measure => simp [intOf]; omega
        · rw [if_neg hod] at hp1
          have d2 : ((m : Int) % 2 == 0) = true := by simp; omega
          cases haa : rmul a a with
          | none =>
            have hc := Hd.mk (hpan.out _ bd bd _ _ a a haa ha.out ha.out hr.out.ints ea.out ea.out)
            simp only [Option.bind_some, haa, Option.bind_none] at hp1
            obtain rfl : res = none := hp1.symm
            replace haa := Hd.mk haa
            clear hp1
            go_wp2_with fail
            refine hc.out.mono ?_
            rintro e w6 ⟨⟨u6, v6, rfl⟩, hk6⟩
            have hf := Hd.mk (hr.out.keep.trans (hk6.sub fun k hk => .inl hk))
            clear hk6
            first | exact .inr ⟨rfl, ⟨_, _, rfl⟩, hf.out⟩ | exact ⟨rfl, .inr ⟨rfl, ⟨_, _, rfl⟩, hf.out⟩⟩ | (go_wp2; exact ⟨rfl, .inr ⟨rfl, ⟨_, _, rfl⟩, hf.out⟩⟩)
          | some a' =>
            have hc := Hd.mk (hmul.out _ bd bd _ _ a a a' haa ha.out ha.out hr.out.ints ea.out ea.out)
            simp only [Option.bind_some, haa] at hp1
            have ha' := Hd.mk (rmul_in haa).1
            replace haa := Hd.mk haa
            replace hp1 := Hd.mk hp1
            go_wp2_with fail
            refine hc.out.mono ?_
            rintro e w6 ⟨rfl, hk6, hI6⟩
            have r6 := hr.out.op hk6 hI6
            rw [upd_upd] at r6
            clear hk6 hI6 hc
            replace r6 := Hd.mk r6
            go_wp2
            go_roundw
            case rel => exact ⟨m / 2, o, a', rfl, by omega, by omega, hp1, ho, ha', r6⟩
            case measure => simp [intOf]; omega
end Go.Proofs.YtdbjdpooggaonaaGreatDoor
end

section
namespace Go.Proofs.YtdbjdpooggaonaaGreatDoor
open Go.Lib
theorem fold_ge : ∀ (l : List Nat) (acc : Nat), acc ≤ l.foldl (fun n b => 10 * n + (b - 48)) acc
  | [], _ => Nat.le_refl _
  | b :: l, acc => Nat.le_trans (by omega) (fold_ge l (10 * acc + (b - 48)))
theorem parse_digits : ∀ (l : List Nat) (acc : Nat), (∀ b, b ∈ l → isD b) → l.foldl (fun n b => 10 * n + (b - 48)) acc < 18446744073709551616 → parseUint10 acc (l.map UInt8.ofNat) = .ok (l.foldl (fun n b => 10 * n + (b - 48)) acc)
  | [], acc, _, _ => rfl
  | b :: l, acc, hd, hl => by
    have hb := hd b (by simp)
    unfold isD at hb
    have hn : (UInt8.ofNat b).toNat = b := by simp [UInt8.toNat_ofNat']; omega
    have hg := fold_ge l (10 * acc + (b - 48))
    simp only [List.foldl_cons] at hl ⊢
    simp only [List.map_cons, parseUint10, hn]
    rw [if_pos hb, if_neg (by omega), if_neg (by omega), show acc * 10 + (b - 48) = 10 * acc + (b - 48) by omega]
    exact parse_digits l _ (fun c hc => hd c (by simp [hc])) hl
theorem parse_mag (a : Nat) (h : a < 18446744073709551616) : parseMag ((dtxt false a).map UInt8.ofNat) = .ok a := by
  have h1 := nums_dtxt a
  unfold nums at h1
  unfold parseMag
  rw [if_neg (by intro e; exact dtxt_ne a (List.map_eq_nil_iff.1 e)), parse_digits _ 0 (fun b hb => dtxt_isD hb) (by rw [h1]; exact h), h1]
theorem atoi_zT {x : Int} (h1 : -9223372036854775808 ≤ x) (h2 : x ≤ 9223372036854775807) : atoiAll (zT x).data.toList = .ok x := by
  have e : (zT x).data.toList = (ztx x).map UInt8.ofNat := by simp [zT, mkT]
  rw [e]
  by_cases hx : x < 0
  · rw [ztx_neg hx]
    have hm := parse_mag x.natAbs (by omega)
    simp only [List.map_cons, atoiAll, show (UInt8.ofNat 45).toNat = 45 from rfl]
    simp only [or_true, if_true, hm, not_true, false_and, if_false, true_and]
    rw [if_neg (by omega)]
    congr 1
    omega
  · rw [ztx_pos (by omega)]
    have hm := parse_mag x.natAbs (by omega)
    cases hl : dtxt false x.natAbs with
    | nil => exact absurd hl (dtxt_ne _)
    | cons b l =>
      have hb := dtxt_isD (a := x.natAbs) (b := b) (by rw [hl]; simp)
      unfold isD at hb
      have hn : (UInt8.ofNat b).toNat = b := by simp [UInt8.toNat_ofNat']; omega
      rw [hl] at hm
      simp only [List.map_cons] at hm ⊢
      simp only [atoiAll, hn]
      rw [if_neg (by omega), hm]
      simp only
      rw [if_neg (by omega), if_neg (by omega), if_neg (by omega)]
      congr 1
      omega
theorem parseInt_zT {x : Int} (h1 : -9223372036854775808 ≤ x) (h2 : x ≤ 9223372036854775807) : parseIntB 64 (zT x).data.toList = .ok x := by
  rw [parseIntB_64]; exact atoi_zT h1 h2
end Go.Proofs.YtdbjdpooggaonaaGreatDoor
end

section
namespace Go.Proofs.YtdbjdpooggaonaaGreatDoor
open Go.RowKit
set_option maxRecDepth 100000
set_option maxHeartbeats 1000000 in
theorem ISetInt64_any (P : Nat → Prop) (bz : Nat) (z x : Int) (S : Nat → Option Int) (w : World) (hI : Ints P w S) (hz : S bz = some z) (h1 : -9223372036854775808 ≤ x) (h2 : x ≤ 9223372036854775807) :
    Calls Tryz.prog 165 #[ptr bz, .int .i64 x] w fun e w' => e = .returned (ptr bz) ∧ Keep P w w' ∧ Ints P w' (upd S bz x) := by
  obtain ⟨own, hst⟩ := hI
  obtain ⟨A, cap, hb, hn, g0, g1, h3, h4⟩ := (hst.at_ bz z hz).open
  have hset := sl (Below.refl _ _) (setUint64_any (.slice A (wlen z.natAbs) cap) x.natAbs (own bz) w hn.recv (by unfold BB; omega))
  have hoz : own bz ≠ some bz := fun e => by have := (hst.no bz z bz hz e).2; rw [hz] at this; cases this
  have hlz := hb.lt
  replace hst := Hd.mk hst
  replace hn := Hd.mk hn
  replace hset := Hd.mk hset
  replace hz := Hd.mk hz
  have fz := hb.frozen 1
  have fz0 := hb.frozen 0
  replace hb := Hd.mk hb
  by_cases hx0 : x < 0
  · have dx : decide (x < 0) = true := decide_eq_true hx0
    obtain ⟨y1, hy1⟩ : ∃ y1, IntKind.i64.wrap (-x) = y1 := ⟨_, rfl⟩
    have hy2 : IntKind.u64.wrap y1 = (x.natAbs : Int) := by
      by_cases hm : x = -9223372036854775808
      · subst hm; rw [← hy1]; rfl
      · rw [IntWalk.i64_in _ (by omega)] at hy1
        rw [← hy1]
        exact (IntWalk.u64_in _ (by omega)).trans (by omega)
    generalize hmm : x.natAbs = m at *
    replace hmm := Hd.mk hmm
    replace dx := Hd.mk dx
    have dx' := dx.out
    go_enter Tryz.func165, Tryz.ntmps165
    go_wp2_with (go_at_call 216; refine hset.out.mono ?_; rintro e w2 ⟨A2, cap2, rfl, hr⟩; obtain ⟨o2, hn2, hc2, ho2⟩ := hr; obtain ⟨hb2, l0, l1, lz0, lz⟩ := blk_facts hc2 hb.out hoz; replace hr := Hd.mk (show NatR w w2 (own bz) m (.slice A2 (wlen m) cap2) from ⟨o2, hn2, hc2, ho2⟩); clear hn2 hc2 ho2; replace hb2 := Hd.mk hb2)
    go_ret
    have hp := ((Put.refl hb2.out).set 1 (.slice A2 (wlen m) cap2)).set 0 (.bool true)
    obtain ⟨q1, q2⟩ := hst.out.write (z' := x) hz.out hr.out (by rw [dx.out]; exact hp) hmm.out.symm
    exact ⟨rfl, q1, q2⟩
  · have dx : decide (x < 0) = false := decide_eq_false hx0
    have hy2 : IntKind.u64.wrap x = (x.natAbs : Int) := (IntWalk.u64_in _ (by omega)).trans (by omega)
    generalize hmm : x.natAbs = m at *
    replace hmm := Hd.mk hmm
    replace dx := Hd.mk dx
    have dx' := dx.out
    go_enter Tryz.func165, Tryz.ntmps165
    go_wp2_with (go_at_call 216; refine hset.out.mono ?_; rintro e w2 ⟨A2, cap2, rfl, hr⟩; obtain ⟨o2, hn2, hc2, ho2⟩ := hr; obtain ⟨hb2, l0, l1, lz0, lz⟩ := blk_facts hc2 hb.out hoz; replace hr := Hd.mk (show NatR w w2 (own bz) m (.slice A2 (wlen m) cap2) from ⟨o2, hn2, hc2, ho2⟩); clear hn2 hc2 ho2; replace hb2 := Hd.mk hb2)
    go_ret
    have hp := ((Put.refl hb2.out).set 1 (.slice A2 (wlen m) cap2)).set 0 (.bool false)
    obtain ⟨q1, q2⟩ := hst.out.write (z' := x) hz.out hr.out (by rw [dx.out]; exact hp) hmm.out.symm
    exact ⟨rfl, q1, q2⟩
theorem small_ok (x : Int) (w : World) (h1 : -9223372036854775808 ≤ x) (h2 : x ≤ 9223372036854775807) : Calls Tryz.prog 69 #[.string (zT x)] w fun e w' => e = .returned (.int .i64 x) ∧ Below w.heap.size w w' := by
  have hp := Hd.mk (Tryz.strconv_ParseInt_10_at64_ok (zT x) (by have := (zT_short (x := x) (Nat.lt_of_le_of_lt (show x.natAbs ≤ 9223372036854775808 by omega) (by decide))).1; omega) x (parseInt_zT h1 h2) w)
  generalize zT x = s at *
  go_enter Tryz.func69, Tryz.ntmps69
  go_wp2_with fail
  refine hp.out.mono ?_
  rintro e w2 ⟨rfl, hw2⟩
  replace hw2 := Hd.mk hw2
  go_wp2
  go_ret
  refine ⟨rfl, ?_⟩
  rcases hw2.out with h | ⟨t, h⟩
  · rw [h]; exact Below.refl _ _
  · rw [h]; exact Lib.bytesWorld_below _ _ _
set_option maxHeartbeats 1000000 in
theorem NewDecWP_any (i : Int) (p : Nat) (hp : p ≤ 18) (w : World) (hok : Ok w) (h1 : -9223372036854775808 ≤ i) (h2 : i ≤ 9223372036854775807) :
    Calls Tryz.prog 70 #[.int .i64 i, .int .i64 (p : Int)] w fun e w' => ∃ B, e = .returned (.agg #[ptr B]) ∧ NewI w w' B (i * ((10 ^ (18 - p) : Nat) : Int)) := by
  have r0 := Hd.mk hok.run
  have hwp : wlen (((10 ^ (18 - p) : Nat) : Int)).natAbs < 12 := by rw [Int.natAbs_natCast]; exact pow10_wl (by omega)
  have hwi : wlen i.natAbs < 12 := wl (n := 1) (by unfold BB; omega) (by decide)
  have r1 := Hd.mk (r0.out.box #[.pointer none] 68)
  clear r0
  go_enter Tryz.func70, Tryz.ntmps70
  go_wp2_with fail
  refine (NewInt_any i _ h1 h2).mono ?_
  rintro e w2 ⟨B2, rfl, hn2⟩
  have r2 := Hd.mk (r1.out.new_int hn2)
  have g2 := hn2.ge
  have s2 := hn2.bel.size
  try simp only [World.size_alloc] at g2 s2
  have l2 := r2.out.ilt upd_same
  have q2 := Hd.mk hn2.bel
  clear hn2 r1
  go_wp2_with fail
  refine (pm_any p hp _ r2.out.ok).mono ?_
  rintro e w3 ⟨B3, rfl, hn3⟩
  have r3 := Hd.mk (r2.out.new_int hn3)
  have g3 := hn3.ge
  have s3 := hn3.bel.size
  try simp only [World.size_alloc] at g3 s3
  have l3 := r3.out.ilt upd_same
  have q3 := Hd.mk hn3.bel
  clear hn3 r2
  have hm := Hd.mk (IMul_any _ B2 B2 B3 i i _ _ w3 r3.out.ints (by rw [upd_ne (by omega), upd_same]) (by rw [upd_ne (by omega), upd_same]) upd_same (by omega) (by omega) (fun _ => by omega))
  go_wp2_with fail
  refine (hm.out).mono ?_
  rintro e w4 ⟨rfl, hk4, hI4⟩
  have s4 := hk4.size
  try simp only [World.size_alloc] at s4
  have r4 := Hd.mk (r3.out.op hk4 hI4)
  clear hk4 hI4 r3
  obtain ⟨c4, c4z, c4l⟩ := r4.out.cell (b := w.heap.size) updX_same
  go_wp2
  have r5 := r4.out.set1 (b := w.heap.size) (v := .pointer none) (v' := ptr B2) updX_same
  refine bodyPost_ret (v := .agg #[ptr B2]) (by simp [results, Tryz.results70, go_sem, c4, c4z, c4l]) rfl ⟨_, rfl, r5.newI upd_same⟩
set_option maxHeartbeats 1000000 in
theorem NewDec_any (i : Int) (w : World) (hok : Ok w) (h1 : -9223372036854775808 ≤ i) (h2 : i ≤ 9223372036854775807) :
    Calls Tryz.prog 68 #[.int .i64 i] w fun e w' => ∃ B, e = .returned (.agg #[ptr B]) ∧ NewI w w' B (i * E18) := by
  have r0 := Hd.mk hok.run
  have hn := Hd.mk fun w1 (h : Ok w1) => NewDecWP_any i 0 (by omega) w1 h h1 h2
  rw [show ((10 ^ (18 - 0) : Nat) : Int) = E18 by unfold E18; decide] at hn
  generalize i * E18 = z at *
  have r1 := Hd.mk (r0.out.box #[.pointer none] 68)
  clear r0
  go_enter Tryz.func68, Tryz.ntmps68
  go_wp2_with fail
  refine (hn.out _ r1.out.ok).mono ?_
  rintro e w2 ⟨B2, rfl, hn2⟩
  have r2 := Hd.mk (r1.out.new_int hn2)
  have g2 := hn2.ge
  have s2 := hn2.bel.size
  try simp only [World.size_alloc] at g2 s2
  have l2 := r2.out.ilt upd_same
  have q2 := Hd.mk hn2.bel
  clear hn2 r1
  obtain ⟨c2, c2z, c2l⟩ := r2.out.cell (b := w.heap.size) updX_same
  go_wp2
  have r3 := r2.out.set1 (b := w.heap.size) (v := .pointer none) (v' := ptr B2) updX_same
  refine bodyPost_ret (v := .agg #[ptr B2]) (by simp [results, Tryz.results68, go_sem, c2, c2z, c2l]) rfl ⟨_, rfl, r3.newI upd_same⟩
set_option maxHeartbeats 1000000 in
theorem NewIntBig_ok (P : Nat → Prop) (bx : Nat) (x : Int) (S : Nat → Option Int) (w : World) (hI : Ints P w S) (hx : S bx = some x) (hz : x.natAbs < 2 ^ 256) :
    Calls Tryz.prog 127 #[ptr bx] w fun e w' => ∃ B, e = .returned (.agg #[ptr B]) ∧ w.heap.size ≤ B ∧ Keep P w w' ∧ Ints P w' (upd S B x) := by
  have r0 := Hd.mk (Run.start hI)
  have hlx := hI.lt hx
  have hlo := Hd.mk hI.low
  clear hI
  have r1 := Hd.mk (r0.out.box #[.pointer none] 65)
  clear r0
  have hov := Hd.mk (overflows_no _ bx x _ _ r1.out.ints hx hz)
  have r2 := Hd.mk (r1.out.new_int (NewI.of_new _))
  clear r1
  simp only [World.size_alloc] at r2
  have hm := Hd.mk (ISet_any _ (w.heap.size + 1) bx 0 x _ _ r2.out.ints upd_same (by rw [upd_ne (by omega), hx]) (by have := wl256 hz; omega))
  replace hx := Hd.mk hx
  replace hz := Hd.mk hz
  go_enter Tryz.func127, Tryz.ntmps127
  go_wp2_with (first | (go_at_call 196; refine hov.out.mono ?_; rintro e w2 ⟨rfl, rfl⟩) | (go_at_call 137; refine hm.out.mono ?_; rintro e w3 ⟨rfl, hk3, hI3⟩; have r3 := Hd.mk (r2.out.op hk3 hI3); clear hk3 hI3; obtain ⟨c3, c3z, c3l⟩ := r3.out.cell (b := w.heap.size) updX_same))
  have r5 := r3.out.set1 (b := w.heap.size) (v := .pointer none) (v' := ptr (w.heap.size + 1)) updX_same
  refine bodyPost_ret (v := .agg #[ptr (w.heap.size + 1)]) (by simp [results, Tryz.results127, go_sem, c3, c3z, c3l]) rfl ⟨_, rfl, by omega, r5.fin.1, r5.fin.2.sub fun k z hk => ?_⟩
  rcases upd_cases hk with ⟨rfl, rfl⟩ | ⟨hne, hk⟩
  · repeat first | exact upd_same | rw [upd_ne (by omega)]
  · have hkl := hlo.out.lt hk
    repeat rw [upd_ne (by first | exact hne | ((try simp only [World.size_alloc]); omega))]
    exact hk
set_option maxHeartbeats 1000000 in
theorem integer_ok (x : Int) (w : World) (hok : Ok w) (her : Er w) (hx : x.natAbs < 2 ^ 256) : Calls Tryz.prog 35 #[.string (zT x)] w fun e w' => ∃ B, e = .returned (.agg #[ptr B]) ∧ NewI w w' B x := by
  have r0 := Hd.mk hok.run
  have hb1 : Below w.heap.size w (w.alloc (.cells #[.pointer none] 65)) := (Below.refl _ _).alloc (Nat.le_refl _) _
  have her1 := Hd.mk (her.below hb1)
  clear hb1
  have r1 := Hd.mk (r0.out.box #[.pointer none] 65)
  clear r0
  have hnu := Hd.mk fun w1 h1 h2 => number_ok x w1 h1 h2 (Nat.lt_trans hx (by decide))
  have hni := Hd.mk fun (Q : Nat → Prop) B S1 w1 (h : Ints Q w1 S1) (h1 : S1 B = some x) => NewIntBig_ok Q B x S1 w1 h h1 hx
  replace hx := Hd.mk hx
  generalize zT x = s at *
  go_enter Tryz.func35, Tryz.ntmps35
  go_wp2_with fail
  refine (hnu.out _ r1.out.ok her1.out).mono ?_
  rintro e w2 ⟨B2, rfl, hn2⟩
  have r2 := Hd.mk (r1.out.new_int hn2)
  have g2 := hn2.ge
  have s2 := hn2.bel.size
  try simp only [World.size_alloc] at g2 s2
  have l2 := r2.out.ilt upd_same
  have q2 := Hd.mk hn2.bel
  clear hn2 r1
  have hm := Hd.mk (hni.out _ B2 _ _ r2.out.ints upd_same)
  go_wp2_with fail
  refine (hm.out).mono ?_
  rintro e w3 ⟨B3, rfl, g3, hk3, hI3⟩
  have s3 := hk3.size
  try simp only [World.size_alloc] at g3 s3
  have r3 := Hd.mk (r2.out.op hk3 hI3)
  have l3 := r3.out.ilt upd_same
  clear hk3 hI3 r2
  obtain ⟨c3, c3z, c3l⟩ := r3.out.cell (b := w.heap.size) updX_same
  go_wp2
  have r4 := r3.out.set1 (b := w.heap.size) (v := .pointer none) (v' := ptr B3) updX_same
  refine bodyPost_ret (v := .agg #[ptr B3]) (by simp [results, Tryz.results35, go_sem, c3, c3z, c3l]) rfl ⟨_, rfl, r4.newI upd_same⟩
theorem cIsNil_any (bd : Nat) (w : World) : Calls Tryz.prog 209 #[.agg #[ptr bd]] w fun e w' => e = .returned (.bool false) ∧ w' = w.alloc (.cells #[ptr bd] 65) := by
  go_enter Tryz.func209, Tryz.ntmps209
  go_wp2
  go_ret
  exact ⟨rfl, rfl⟩
set_option maxHeartbeats 1000000 in
theorem BigIntMut_any (P : Nat → Prop) (bd : Nat) (x : Int) (S : Nat → Option Int) (w : World) (hI : Ints P w S) (hx : S bd = some x) :
    Calls Tryz.prog 162 #[.agg #[ptr bd]] w fun e w' => e = .returned (ptr bd) ∧ Keep P w w' ∧ Ints P w' S := by
  have r0 := Hd.mk (Run.start hI)
  clear hI
  have r1 := Hd.mk (r0.out.box #[ptr bd] 65)
  clear r0
  have r2 := Hd.mk (r1.out.box #[ptr bd] 65)
  clear r1
  simp only [World.size_alloc] at r2
  have hni := Hd.mk (cIsNil_any bd)
  replace hx := Hd.mk hx
  go_enter Tryz.func162, Tryz.ntmps162
  go_wp2_with (go_at_call 209; refine (hni.out _).mono ?_; rintro e w2 ⟨rfl, rfl⟩)
  go_ret
  exact ⟨rfl, r2.out.fin⟩
set_option maxHeartbeats 1000000 in
theorem NewDecFIP_any (P : Nat → Prop) (bx p : Nat) (x : Int) (S : Nat → Option Int) (w : World) (hI : Ints P w S) (hx : S bx = some x) (hp : p ≤ 18) (hw : wlen x.natAbs < 40) :
    Calls Tryz.prog 72 #[.agg #[ptr bx], .int .i64 (p : Int)] w fun e w' => ∃ B, e = .returned (.agg #[ptr B]) ∧ w.heap.size ≤ B ∧ Keep P w w' ∧ Ints P w' (upd S B (x * ((10 ^ (18 - p) : Nat) : Int))) := by
  have r0 := Hd.mk (Run.start hI)
  have hlx := hI.lt hx
  have hwp : wlen (((10 ^ (18 - p) : Nat) : Int)).natAbs < 12 := by rw [Int.natAbs_natCast]; exact pow10_wl (by omega)
  have hlo := Hd.mk hI.low
  clear hI
  have r1 := Hd.mk (r0.out.box #[ptr bx] 65)
  clear r0
  have r2 := Hd.mk (r1.out.box #[.pointer none] 68)
  clear r1
  have r3 := Hd.mk (r2.out.new_int (NewI.of_new _))
  clear r2
  simp only [World.size_alloc] at r3
  have hbm := Hd.mk (BigIntMut_any _ bx x _ _ r3.out.ints (by rw [upd_ne (by omega)]; exact hx))
  replace hx := Hd.mk hx
  go_enter Tryz.func72, Tryz.ntmps72
  go_wp2_with fail
  refine (hbm.out).mono ?_
  rintro e w4 ⟨rfl, hk4, hI4⟩
  have s4 := hk4.size
  try simp only [World.size_alloc] at s4
  have r4 := Hd.mk (r3.out.op hk4 hI4)
  clear hk4 hI4 r3
  go_wp2_with fail
  refine (pm_any p hp _ r4.out.ok).mono ?_
  rintro e w5 ⟨B5, rfl, hn5⟩
  have r5 := Hd.mk (r4.out.new_int hn5)
  have g5 := hn5.ge
  have s5 := hn5.bel.size
  try simp only [World.size_alloc] at g5 s5
  have l5 := r5.out.ilt upd_same
  have q5 := Hd.mk hn5.bel
  clear hn5 r4
  have hm := Hd.mk (IMul_any _ (w.heap.size + 1 + 1) bx B5 0 x _ _ w5 r5.out.ints (by rw [upd_ne (by omega), upd_same]) (by rw [upd_ne (by omega), upd_ne (by omega)]; exact hx.out) upd_same hw (by omega) (fun e => by omega))
  go_wp2_with fail
  refine (hm.out).mono ?_
  rintro e w6 ⟨rfl, hk6, hI6⟩
  have s6 := hk6.size
  try simp only [World.size_alloc] at s6
  have r6 := Hd.mk (r5.out.op hk6 hI6)
  clear hk6 hI6 r5
  obtain ⟨c6, c6z, c6l⟩ := r6.out.cell (b := (w.heap.size + 1)) updX_same
  go_wp2
  have r7 := r6.out.set1 (b := w.heap.size + 1) (v := .pointer none) (v' := ptr (w.heap.size + 1 + 1)) updX_same
  refine bodyPost_ret (v := .agg #[ptr (w.heap.size + 1 + 1)]) (by simp [results, Tryz.results72, go_sem, c6, c6z, c6l]) rfl ⟨_, rfl, by omega, r7.fin.1, r7.fin.2.sub fun k z hk => ?_⟩
  rcases upd_cases hk with ⟨rfl, rfl⟩ | ⟨hne, hk⟩
  · repeat first | exact upd_same | rw [upd_ne (by omega)]
  · have hkl := hlo.out.lt hk
    repeat rw [upd_ne (by first | exact hne | ((try simp only [World.size_alloc]); omega))]
    exact hk
set_option maxHeartbeats 1000000 in
theorem NewDecFI_any (P : Nat → Prop) (bx : Nat) (x : Int) (S : Nat → Option Int) (w : World) (hI : Ints P w S) (hx : S bx = some x) (hw : wlen x.natAbs < 40) :
    Calls Tryz.prog 71 #[.agg #[ptr bx]] w fun e w' => ∃ B, e = .returned (.agg #[ptr B]) ∧ w.heap.size ≤ B ∧ Keep P w w' ∧ Ints P w' (upd S B (x * E18)) := by
  have r0 := Hd.mk (Run.start hI)
  have hlx := hI.lt hx
  have hlo := Hd.mk hI.low
  clear hI
  have r1 := Hd.mk (r0.out.box #[ptr bx] 65)
  clear r0
  have r2 := Hd.mk (r1.out.box #[.pointer none] 68)
  clear r1
  simp only [World.size_alloc] at r2
  have hm := Hd.mk (NewDecFIP_any _ bx 0 x _ _ r2.out.ints hx (by decide) hw)
  rw [show ((10 ^ (18 - 0) : Nat) : Int) = E18 by unfold E18; decide] at hm
  generalize x * E18 = z at *
  replace hx := Hd.mk hx
  go_enter Tryz.func71, Tryz.ntmps71
  go_wp2_with fail
  refine (hm.out).mono ?_
  rintro e w4 ⟨B4, rfl, g4, hk4, hI4⟩
  have s4 := hk4.size
  try simp only [World.size_alloc] at g4 s4
  have r4 := Hd.mk (r2.out.op hk4 hI4)
  have l4 := r4.out.ilt upd_same
  clear hk4 hI4 r2
  obtain ⟨c4, c4z, c4l⟩ := r4.out.cell (b := (w.heap.size + 1)) updX_same
  go_wp2
  have r5 := r4.out.set1 (b := w.heap.size + 1) (v := .pointer none) (v' := ptr B4) updX_same
  refine bodyPost_ret (v := .agg #[ptr B4]) (by simp [results, Tryz.results71, go_sem, c4, c4z, c4l]) rfl ⟨_, rfl, by omega, r5.fin.1, r5.fin.2.sub fun k z hk => ?_⟩
  rcases upd_cases hk with ⟨rfl, rfl⟩ | ⟨hne, hk⟩
  · repeat first | exact upd_same | rw [upd_ne (by omega)]
  · have hkl := hlo.out.lt hk
    repeat rw [upd_ne (by first | exact hne | ((try simp only [World.size_alloc]); omega))]
    exact hk
set_option maxHeartbeats 1000000 in
theorem ToDec_any (P : Nat → Prop) (bx : Nat) (x : Int) (S : Nat → Option Int) (w : World) (hI : Ints P w S) (hx : S bx = some x) (hw : wlen x.natAbs < 40) :
    Calls Tryz.prog 78 #[.agg #[ptr bx]] w fun e w' => ∃ B, e = .returned (.agg #[ptr B]) ∧ w.heap.size ≤ B ∧ Keep P w w' ∧ Ints P w' (upd S B (x * E18)) := by
  have r0 := Hd.mk (Run.start hI)
  have hlx := hI.lt hx
  have hlo := Hd.mk hI.low
  clear hI
  have r1 := Hd.mk (r0.out.box #[ptr bx] 65)
  clear r0
  have r2 := Hd.mk (r1.out.box #[.pointer none] 68)
  clear r1
  simp only [World.size_alloc] at r2
  have hm := Hd.mk (NewDecFI_any _ bx x _ _ r2.out.ints hx hw)
  generalize x * E18 = z at *
  replace hx := Hd.mk hx
  go_enter Tryz.func78, Tryz.ntmps78
  go_wp2_with fail
  refine (hm.out).mono ?_
  rintro e w4 ⟨B4, rfl, g4, hk4, hI4⟩
  have s4 := hk4.size
  try simp only [World.size_alloc] at g4 s4
  have r4 := Hd.mk (r2.out.op hk4 hI4)
  have l4 := r4.out.ilt upd_same
  clear hk4 hI4 r2
  obtain ⟨c4, c4z, c4l⟩ := r4.out.cell (b := (w.heap.size + 1)) updX_same
  go_wp2
  have r5 := r4.out.set1 (b := w.heap.size + 1) (v := .pointer none) (v' := ptr B4) updX_same
  refine bodyPost_ret (v := .agg #[ptr B4]) (by simp [results, Tryz.results78, go_sem, c4, c4z, c4l]) rfl ⟨_, rfl, by omega, r5.fin.1, r5.fin.2.sub fun k z hk => ?_⟩
  rcases upd_cases hk with ⟨rfl, rfl⟩ | ⟨hne, hk⟩
  · repeat first | exact upd_same | rw [upd_ne (by omega)]
  · have hkl := hlo.out.lt hk
    repeat rw [upd_ne (by first | exact hne | ((try simp only [World.size_alloc]); omega))]
    exact hk
end Go.Proofs.YtdbjdpooggaonaaGreatDoor
end

section
namespace Go.Proofs.YtdbjdpooggaonaaGreatDoor
open Go.RowKit
set_option maxRecDepth 100000
/-- What the closure of impl.DecPower is asked. -/
def powCl (a : ByteArray) (n : Int) (m : Bool) (R : Ending → World → Nat → Prop) : Prop := ∀ ba bn bm bu w, Ok w → Er w → Blk w ba 9 [.string a] → Blk w bn 41 [.int .u64 n] → Blk w bm 4 [.bool m] → Blk w bu 9 [.string (ByteArray.mk #[])] →
  (ba ≠ bu ∧ bn ≠ bu ∧ bm ≠ bu) → 16 ≤ bu →
  Calls Tryz.prog 50 #[ptr bm, ptr ba, ptr bn, ptr bu] w fun e w' => Keep (fun k => k < w.heap.size ∧ k ≠ bu) w w' ∧ R e w' bu
/-- The boxes of impl.DecMake. -/
abbrev makW (w : World) (k : Int) (s : ByteArray) (p : Int) : World := ((((w.alloc (.cells #[.int .i64 k] 3)).alloc (.cells #[.string s] 9)).alloc (.cells #[.int .i64 p] 2)).alloc (.cells #[.string (ByteArray.mk #[])] 9))
theorem makW_size (w : World) (k : Int) (s : ByteArray) (p : Int) : (makW w k s p).heap.size = w.heap.size + 4 := by simp only [World.size_alloc]
theorem makW_below (w : World) (k : Int) (s : ByteArray) (p : Int) : Below w.heap.size w (makW w k s p) :=
  (((((Below.refl _ _).alloc (Nat.le_refl _) _).alloc (by simp only [World.size_alloc]; omega) _).alloc (by simp only [World.size_alloc]; omega) _).alloc (by simp only [World.size_alloc]; omega) _)
theorem makW_blk (w : World) (k : Int) (s : ByteArray) (p : Int) : Blk (makW w k s p) w.heap.size 3 [.int .i64 k] ∧ Blk (makW w k s p) (w.heap.size + 1) 9 [.string s] ∧ Blk (makW w k s p) (w.heap.size + 2) 2 [.int .i64 p] ∧ Blk (makW w k s p) (w.heap.size + 3) 9 [.string (ByteArray.mk #[])] := by
  have h1 := Blk.new w #[.int .i64 k] 3
  have h2 := Blk.new (w.alloc (.cells #[.int .i64 k] 3)) #[.string s] 9
  have h3 := Blk.new ((w.alloc (.cells #[.int .i64 k] 3)).alloc (.cells #[.string s] 9)) #[.int .i64 p] 2
  have h4 := Blk.new (((w.alloc (.cells #[.int .i64 k] 3)).alloc (.cells #[.string s] 9)).alloc (.cells #[.int .i64 p] 2)) #[.string (ByteArray.mk #[])] 9
  simp only [World.size_alloc] at h1 h2 h3 h4
  exact ⟨(((h1.alloc _).alloc _).alloc _), ((h2.alloc _).alloc _), (h3.alloc _), h4⟩
/-- What the closure of impl.DecMake is asked. -/
def makCl (k : Int) (s : ByteArray) (p : Int) (R : Ending → World → Nat → Prop) : Prop := ∀ bk bs bp bu w, Ok w → Er w → Blk w bk 3 [.int .i64 k] → Blk w bs 9 [.string s] → Blk w bp 2 [.int .i64 p] → Blk w bu 9 [.string (ByteArray.mk #[])] →
  (bk ≠ bu ∧ bs ≠ bu ∧ bp ≠ bu) → 16 ≤ bu →
  Calls Tryz.prog 67 #[ptr bk, ptr bs, ptr bp, ptr bu] w fun e w' => Keep (fun k => k < w.heap.size ∧ k ≠ bu) w w' ∧ R e w' bu
set_option maxHeartbeats 2000000 in
theorem mak_ok (k : Int) (s : ByteArray) (p : Int) (z : ByteArray) (w : World) (hok : Ok w) (her : Er w) (hcl : makCl k s p fun e w' bu => e = .returned (.tuple #[]) ∧ Blk w' bu 9 [.string z]) :
    Calls Tryz.prog 22 #[.int .i64 k, .string s, .int .i64 p] w fun e w' => e = .returned (.tuple #[.string z, .bool true]) ∧ Below w.heap.size w w' := by
  obtain ⟨h1, h2, h3, h4⟩ := makW_blk w k s p
  have hb1 := makW_below w k s p
  have hs1 := makW_size w k s p
  have h100 := hok.2
  generalize hW : makW w k s p = w1 at *
  have hb2 : Below w1.heap.size w1 (okW w1) := (Below.refl _ _).alloc (Nat.le_refl _) _
  have hb3 := hb1.trans (hb2.mono hb1.size)
  have hs2 : (okW w1).heap.size = w1.heap.size + 1 := World.size_alloc _ _
  have hc := hcl w.heap.size (w.heap.size + 1) (w.heap.size + 2) (w.heap.size + 3) (okW w1) (hok.below hb3) (her.below hb3) (h1.alloc _) (h2.alloc _) (h3.alloc _) (h4.alloc _) (by omega) (by omega)
  have hsf := Hd.mk (safe_ok 67 _ w1 (fun w2 => Keep (fun k => k < (okW w1).heap.size ∧ k ≠ (w.heap.size + 3)) (okW w1) w2 ∧ Blk w2 (w.heap.size + 3) 9 [.string z]) (enters Tryz.func67 (by kernel_rfl) (by kernel_rfl)) (hc.mono fun e w2 ⟨q1, q2, q3⟩ => ⟨q2, q1.block _ ⟨by omega, by omega⟩ (by omega), q1, q3⟩))
  have hfin : Hd (∀ w2 w3, Keep (fun k => k < (okW w1).heap.size ∧ k ≠ (w.heap.size + 3)) (okW w1) w2 → Put w2 w3 w1.heap.size 4 [.bool true] → Below w.heap.size w w3) := ⟨fun w2 w3 q1 q2 => q2.bel (hb3.trans ⟨q1.os, q1.tape, q1.output, q1.size, fun k hk => q1.block k ⟨Nat.lt_of_lt_of_le hk hb3.size, by omega⟩ (Nat.lt_of_lt_of_le hk hb3.size)⟩) hb1.size⟩
  have hmf : ∀ (fn : Fn) (first cap : Array Value) (w : World), (Instr.makeFunc fn first cap).run Tryz.prog w = .ok (.func fn first cap) w := fun _ _ _ _ => rfl
  have hne : w.heap.size + 3 ≠ w1.heap.size := by omega
  clear hcl hc h1 h2 h3 h4 hb1 hb2 hb3 hok her
  go_enter Tryz.func22, Tryz.ntmps22
  go_wp2_with fail
  refine hsf.out.mono ?_
  rintro e w3 ⟨rfl, w2, ⟨hc2, hu2⟩, hp3⟩
  have hb3 := Hd.mk (hfin.out w2 w3 hc2 hp3)
  have hu3 := hp3.blk hu2 hne
  have cu : w3.cell? ⟨w.heap.size + 1 + 1 + 1, 0, none⟩ = some (.string z) := hu3.cell 0
  have zu : w3.frozen? ⟨w.heap.size + 1 + 1 + 1, 0, none⟩ = false := hu3.frozen 0
  have lu : w.heap.size + 1 + 1 + 1 < w3.heap.size := hu3.lt
  clear hu3 hu2 hc2 hp3 hsf hfin
  go_wp2
  refine bodyPost_ret (v := .tuple #[.string z, .bool true]) (by simp [results, Tryz.results22, go_sem, cu, zu, lu]) rfl ⟨rfl, ?_⟩
  (repeat first | exact hb3.out | refine Below.setCell ?_ (by dsimp only; omega) _)
end Go.Proofs.YtdbjdpooggaonaaGreatDoor
end

section
namespace Go.Proofs.YtdbjdpooggaonaaGreatDoor
open Go.RowKit
set_option maxRecDepth 100000
theorem w4 : T.wlen (4 : Int).natAbs < 100 := Nat.lt_of_le_of_lt (T.wlen_le (n := 20) (by unfold T.BB; decide)) (by decide)
end Go.Proofs.YtdbjdpooggaonaaGreatDoor
end
