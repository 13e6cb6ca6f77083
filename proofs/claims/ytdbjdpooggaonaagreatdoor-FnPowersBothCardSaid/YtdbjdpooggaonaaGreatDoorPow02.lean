/- A power of a whole number, as a number that is multiplied by a factor. Conditions: those that each theorem states. -/
import Derived.Deep.LoopGhost
import Derived.Deep.RegionHeld3
import Derived.Deep.DeepCutAuto
import Derived.Test.YtdbjdpooggaonaaGreatDoorPow01
set_option linter.all false

namespace Go.Proofs.YtdbjdpooggaonaaGreatDoor
open Go.RowKit
set_option maxRecDepth 100000
theorem wlE {a : Nat} (h : a < 2 ^ 130) : wlen ((a : Int) * E18).natAbs < 6 ∧ ((a : Int) * E18).natAbs < 2 ^ 256 := by
  have e : ((a : Int) * E18).natAbs = a * 1000000000000000000 := by rw [Int.natAbs_mul]; rfl
  rw [e]
  have h1 : a * 1000000000000000000 < 2 ^ 130 * 1000000000000000000 := Nat.mul_lt_mul_of_pos_right h (by decide)
  exact ⟨wl (n := 4) (Nat.lt_trans h1 (by decide)) (by decide), Nat.lt_trans h1 (by decide)⟩
theorem wlEE {a : Nat} (h : a < 2 ^ 130) : ((a : Int) * E18 * E18).natAbs < 2 ^ 256 ∧ ((a : Int) * E18 * E18 + 500000000000000000).natAbs < 2 ^ 256 := by
  have e : ((a : Int) * E18 * E18).natAbs = a * 1000000000000000000 * 1000000000000000000 := by rw [Int.natAbs_mul, Int.natAbs_mul]; rfl
  have h1 : a * 1000000000000000000 * 1000000000000000000 < 2 ^ 130 * 1000000000000000000 * 1000000000000000000 := Nat.mul_lt_mul_of_pos_right (Nat.mul_lt_mul_of_pos_right h (by decide)) (by decide)
  have h2 : (2 : Nat) ^ 130 * 1000000000000000000 * 1000000000000000000 + 500000000000000000 < 2 ^ 256 := by decide
  rw [e]
  omega
/-- What the walk asks of a product that is divided by the factor and rounded. -/
structure Pr (a b : Nat) : Prop where
  m0 : 0 ≤ (a : Int) * E18 * ((b : Int) * E18)
  m256 : ((a : Int) * E18 * ((b : Int) * E18)).natAbs < 2 ^ 256
  s0 : 0 ≤ (a : Int) * E18 * ((b : Int) * E18) + 500000000000000000
  s256 : ((a : Int) * E18 * ((b : Int) * E18) + 500000000000000000).natAbs < 2 ^ 256
  q : ((a : Int) * E18 * ((b : Int) * E18) + 500000000000000000).tdiv E18 = ((a * b : Nat) : Int) * E18
theorem Pr.mk' {a b : Nat} (h : a * b < 2 ^ 130) : Pr a b := by
  have e : (a : Int) * E18 * ((b : Int) * E18) = ((a * b : Nat) : Int) * E18 * E18 := by rw [whole_mul, Int.natCast_mul]
  obtain ⟨h1, h2⟩ := wlEE h
  have h0 : (0 : Int) ≤ ((a * b : Nat) : Int) * E18 * E18 := Int.mul_nonneg (Int.mul_nonneg (by omega) (by decide)) (by decide)
  refine ⟨by rw [e]; exact h0, by rw [e]; exact h1, by rw [e]; omega, by rw [e]; exact h2, ?_⟩
  rw [e]
  exact rp_div _ (by omega)
theorem RP.setn {P : Nat → Prop} {w0 w : World} {X : Bxs} {S : Nat → Option Int} {L : List (Nat × Nat × Int)} {M : List (Nat × Int)} {b B : Nat} {v : Int} (h : RP P w0 w X S L M) (hb : X b = some (76, [.pointer none])) (hB : S B = some v) : RP P w0 (w.setCell ⟨b, 0, none⟩ (ptr B)) (updX X b (76, [ptr B])) S ((b, B, v) :: L) M :=
  h.set hb hB fun q hq => by
    rcases List.mem_cons.1 hq with e | e
    · exact .inl e
    · refine .inr ⟨e, fun h1 => ?_⟩
      have h2 := (h.at_ q e).1
      rw [h1, hb] at h2
      cases h2
theorem tmod2 (m : Nat) : (m : Int).tmod 2 = ((m % 2 : Nat) : Int) := rfl
theorem tdiv2 (m : Nat) : (m : Int).tdiv 2 = ((m / 2 : Nat) : Int) := rfl
theorem wlN {m : Nat} (h : m < BB) : wlen (m : Int).natAbs < 12 := by rw [Int.natAbs_natCast]; exact wl (n := 1) (by simpa using h) (by decide)
theorem n256 {m : Nat} (h : m < BB) : (m : Int).natAbs < 2 ^ 256 := by rw [Int.natAbs_natCast]; exact Nat.lt_trans h (by unfold BB; decide)
theorem uMod2 (Q : Nat → Prop) (Bn B2 m : Nat) (hm : m < BB) (S1 : Nat → Option Int) (w1 : World) (h : Ints Q w1 S1) (h1 : S1 Bn = some (m : Int)) (h2 : S1 B2 = some 2) :
    Calls Tryz.prog 142 #[.agg #[ptr Bn], .agg #[ptr B2]] w1 fun e w' => ∃ B, e = .returned (.agg #[ptr B]) ∧ w1.heap.size ≤ B ∧ Keep Q w1 w' ∧ Ints Q w' (upd S1 B ((m % 2 : Nat) : Int)) := by
  have h3 := uMod_ok Q Bn B2 m 2 S1 w1 h h1 h2 (by omega) (by decide) (rp_ok2 (by have := wlN hm; omega)) (by have : wlen (2 : Int).natAbs = 1 := wlen_one (by decide) (by decide); omega)
  rwa [tmod2] at h3
theorem uQuo2 (Q : Nat → Prop) (Bn B2 m : Nat) (hm : m < BB) (S1 : Nat → Option Int) (w1 : World) (h : Ints Q w1 S1) (h1 : S1 Bn = some (m : Int)) (h2 : S1 B2 = some 2) :
    Calls Tryz.prog 145 #[.agg #[ptr Bn], .agg #[ptr B2]] w1 fun e w' => ∃ B, e = .returned (.agg #[ptr B]) ∧ w1.heap.size ≤ B ∧ Keep Q w1 w' ∧ Ints Q w' (upd S1 B ((m / 2 : Nat) : Int)) :=
  uQuo_ok Q Bn B2 m 2 _ S1 w1 h h1 h2 (rp_ok2 (by have := wlN hm; omega)) (by omega) (n256 (Nat.lt_of_le_of_lt (Nat.div_le_self _ _) hm)) (tdiv2 m)
theorem uQuoH (Q : Nat → Prop) (Bb B2 : Nat) (S1 : Nat → Option Int) (w1 : World) (h : Ints Q w1 S1) (h1 : S1 Bb = some E18) (h2 : S1 B2 = some 2) :
    Calls Tryz.prog 145 #[.agg #[ptr Bb], .agg #[ptr B2]] w1 fun e w' => ∃ B, e = .returned (.agg #[ptr B]) ∧ w1.heap.size ≤ B ∧ Keep Q w1 w' ∧ Ints Q w' (upd S1 B 500000000000000000) :=
  uQuo_ok Q Bb B2 E18 2 _ S1 w1 h h1 h2 (rp_ok2 (by rw [E18_wl]; decide)) (by decide) (by decide) rp_half
theorem uMulE (Q : Nat → Prop) (Ba Bb a b : Nat) (ha : a < 2 ^ 130) (hb : b < 2 ^ 130) (hp : Pr a b) (S1 : Nat → Option Int) (w1 : World) (h : Ints Q w1 S1) (h1 : S1 Ba = some ((a : Int) * E18)) (h2 : S1 Bb = some ((b : Int) * E18)) :
    Calls Tryz.prog 147 #[.agg #[ptr Ba], .agg #[ptr Bb]] w1 fun e w' => ∃ B, e = .returned (.agg #[ptr B]) ∧ w1.heap.size ≤ B ∧ Keep Q w1 w' ∧ Ints Q w' (upd S1 B ((a : Int) * E18 * ((b : Int) * E18))) :=
  uMul_ok Q Ba Bb _ _ _ S1 w1 h h1 h2 (by have := (wlE ha).1; omega) (by have := (wlE hb).1; omega) hp.m0 hp.m256 rfl
theorem uAddH (Q : Nat → Prop) (Ba Bh a b : Nat) (hp : Pr a b) (S1 : Nat → Option Int) (w1 : World) (h : Ints Q w1 S1) (h1 : S1 Ba = some ((a : Int) * E18 * ((b : Int) * E18))) (h2 : S1 Bh = some 500000000000000000) :
    Calls Tryz.prog 148 #[.agg #[ptr Ba], .agg #[ptr Bh]] w1 fun e w' => ∃ B, e = .returned (.agg #[ptr B]) ∧ w1.heap.size ≤ B ∧ Keep Q w1 w' ∧ Ints Q w' (upd S1 B ((a : Int) * E18 * ((b : Int) * E18) + 500000000000000000)) :=
  uAdd_ok Q Ba Bh _ _ _ S1 w1 h h1 h2 (by have := wl256 hp.m256; omega) (by have : wlen (500000000000000000 : Int).natAbs = 1 := wlen_one (by decide) (by decide); omega) hp.s0 hp.s256 rfl
theorem uQuoE (Q : Nat → Prop) (Ba Bb a b : Nat) (hp : Pr a b) (hab : a * b < 2 ^ 130) (S1 : Nat → Option Int) (w1 : World) (h : Ints Q w1 S1) (h1 : S1 Ba = some ((a : Int) * E18 * ((b : Int) * E18) + 500000000000000000)) (h2 : S1 Bb = some E18) :
    Calls Tryz.prog 145 #[.agg #[ptr Ba], .agg #[ptr Bb]] w1 fun e w' => ∃ B, e = .returned (.agg #[ptr B]) ∧ w1.heap.size ≤ B ∧ Keep Q w1 w' ∧ Ints Q w' (upd S1 B (((a * b : Nat) : Int) * E18)) :=
  uQuo_ok Q Ba Bb _ _ _ S1 w1 h h1 h2 (rp_ok18 (by have := wl256 hp.s256; omega)) (Int.mul_nonneg (by omega) (by decide)) (wlE hab).2 hp.q
theorem uEqN (Q : Nat → Prop) (A B u v : Nat) (hu : u < BB) (S1 : Nat → Option Int) (w1 : World) (h : Ints Q w1 S1) (h1 : S1 A = some (u : Int)) (h2 : S1 B = some (v : Int)) :
    Calls Tryz.prog 144 #[.agg #[ptr A], .agg #[ptr B]] w1 fun e w' => e = .returned (.bool (decide (u = v))) ∧ Keep Q w1 w' ∧ Ints Q w' S1 := by
  have h3 := uEqual_any Q A B u v S1 w1 h h1 h2 (by have := wlN hu; omega)
  rwa [show decide ((u : Int) = (v : Int)) = decide (u = v) by rw [decide_eq_decide]; omega] at h3
theorem uGtN (Q : Nat → Prop) (A B u : Nat) (hu : u < BB) (S1 : Nat → Option Int) (w1 : World) (h : Ints Q w1 S1) (h1 : S1 A = some (u : Int)) (h2 : S1 B = some 0) :
    Calls Tryz.prog 146 #[.agg #[ptr A], .agg #[ptr B]] w1 fun e w' => e = .returned (.bool (decide (0 < u))) ∧ Keep Q w1 w' ∧ Ints Q w' S1 := by
  have h3 := uGT_any Q A B u 0 S1 w1 h h1 h2 (by have := wlN hu; omega)
  rwa [show decide ((0 : Int) < (u : Int)) = decide (0 < u) by rw [decide_eq_decide]; omega] at h3
theorem pw_le {a c m : Nat} (ha : 1 ≤ a) (hc : 1 ≤ c) (hm : 1 ≤ m) : a * a ≤ c * (a * a) ^ m ∧ c * (a * a) ≤ c * (a * a) ^ m := by
  have h1 : a * a ≤ (a * a) ^ m := by simpa using Nat.pow_le_pow_right (n := a * a) (i := 1) (j := m) (Nat.mul_le_mul ha ha) hm
  exact ⟨Nat.le_trans h1 (Nat.le_mul_of_pos_left _ hc), Nat.mul_le_mul_left c h1⟩
set_option maxHeartbeats 16000000 in
theorem relPow_ok (k n N : Nat) (hN : k ^ n = N) (hk : 1 ≤ k) (hkb : k < 2 ^ 64) (hn : n < BB) (hkn : N < 2 ^ 130) (P : Nat → Prop) (bx bn bb : Nat) (S : Nat → Option Int) (w : World) (hI : Ints P w S) (hx : S bx = some ((k : Int) * E18)) (hn1 : S bn = some (n : Int)) (hb : S bb = some E18) :
    Calls Tryz.prog 55 #[.agg #[ptr bx], .agg #[ptr bn], .agg #[ptr bb]] w fun e w' => ∃ B S', e = .returned (.agg #[ptr B]) ∧ Keep P w w' ∧ Ints P w' S' ∧ S' B = some ((N : Int) * E18) := by
  have hk130 : k < 2 ^ 130 := Nat.lt_trans hkb (by decide)
  have q0 : RP P w w (fun _ => none) S [] [] := ⟨Run.start hI, fun _ h => (by cases h), fun _ h => (by cases h)⟩
  have q3 := (((q0.box hx).box hn1).box hb).nil
  simp only [World.size_alloc] at q3
  obtain ⟨X4, q4, hX6⟩ : ∃ X, Hd (RP P w ((((w.alloc (.cells #[ptr bx] 76)).alloc (.cells #[ptr bn] 76)).alloc (.cells #[ptr bb] 76)).alloc (.cells #[.pointer none] 76)) X S [((w.heap.size + 1 + 1), bb, E18), ((w.heap.size + 1), bn, (n : Int)), (w.heap.size, bx, (k : Int) * E18)] []) ∧ Hd (X (w.heap.size + 1 + 1 + 1) = some (76, [.pointer none])) := ⟨_, ⟨q3⟩, ⟨by (try simp only [World.size_alloc]); exact updX_same⟩⟩
  clear q0 q3 hI
  have hne : (k : Int) * E18 ≠ 0 := by rw [show (k : Int) * E18 = (k : Int) * 1000000000000000000 from rfl]; omega
  have hiz := uIsZero_any _ bx ((k : Int) * E18) S _ q4.out.run.ints (q4.out.at2 (q := (w.heap.size, bx, (k : Int) * E18)) (.tail _ (.tail _ (.head _)))) (by have := (wlE hk130).1; omega)
  rw [decide_eq_false hne] at hiz
  replace hiz := Hd.mk hiz
  have hnu := Hd.mk fun w1 (h : Ok w1) => NewUint_ok 2 (by decide) w1 h
  rw [show ((2 : Nat) : Int) = 2 from rfl] at hnu
  have hze := Hd.mk ZeroUint_any
  have hon := Hd.mk OneUint_any
  replace hkn := Hd.mk hkn
  replace hN := Hd.mk hN
  replace hkb := Hd.mk hkb
  replace hk130 := Hd.mk hk130
  replace hn := Hd.mk hn
  replace hne := Hd.mk hne
  replace hk := Hd.mk hk
  replace hx := Hd.mk hx
  replace hn1 := Hd.mk hn1
  replace hb := Hd.mk hb
  go_enter Tryz.func55, Tryz.ntmps55
  go_upto_region 7 with (go_at_call 139; refine hiz.out.mono ?_; rintro e w5 ⟨rfl, hk5, hI5⟩; have q5 := Hd.mk (q4.out.same hk5 hI5); clear hk5 hI5)
  clear hiz q4
  refine RP.cellK q5.out (q := (w.heap.size, bx, (k : Int) * E18)) (.tail _ (.tail _ (.head _))) ?_; intro c5 c5z c5l
  have d5 := q5.out.run.cell hX6.out
  obtain ⟨d5, d5z, d5l⟩ := d5
  go_upto_region 8 with fail
  have q6 : Hd (RP P w (w5.setCell ⟨(w.heap.size + 1 + 1 + 1), 0, none⟩ (ptr bx)) (updX X4 (w.heap.size + 1 + 1 + 1) (76, [ptr bx])) S [((w.heap.size + 1 + 1 + 1), bx, (k : Int) * E18), ((w.heap.size + 1 + 1), bb, E18), ((w.heap.size + 1), bn, (n : Int)), (w.heap.size, bx, (k : Int) * E18)] []) := Hd.mk (q5.out.set (L' := [((w.heap.size + 1 + 1 + 1), bx, (k : Int) * E18), ((w.heap.size + 1 + 1), bb, E18), ((w.heap.size + 1), bn, (n : Int)), (w.heap.size, bx, (k : Int) * E18)]) hX6.out (q5.out.at2 (q := (w.heap.size, bx, (k : Int) * E18)) (.tail _ (.tail _ (.head _)))) (fun q hq => by simp only [List.mem_cons, List.not_mem_nil, or_false] at hq ⊢; rcases hq with rfl | rfl | rfl | rfl <;> first | exact Or.inl rfl | exact Or.inr ⟨by simp, by (try dsimp only); omega⟩))
  clear q5 hX6
  generalize updX X4 (w.heap.size + 1 + 1 + 1) (76, [ptr bx]) = X6 at *
  obtain ⟨c6, c6z, c6l⟩ := q6.out.drew.run.cell (q6.out.drew.at1 (.tail _ (.tail _ (.head _))))
  go_region_held3 (fun wx => wx.cell? ⟨(w.heap.size + 1), 0, none⟩ = some (ptr bn)) (first | with_reducible exact c6 | with_reducible exact c7 | with_reducible exact c9 | with_reducible exact c10 | with_reducible exact c8) (first
    | (go_at_call 143; refine (hnu.out _ q6.out.drew.run.ok).mono ?_; rintro e w7 ⟨B7, rfl, hn7⟩; have q7 := Hd.mk (q6.out.drew.new_int hn7); clear hn7; obtain ⟨c7, c7z, c7l⟩ := q7.out.run.cell (q7.out.at1 (.tail _ (.tail _ (.head _)))))
    | (go_at_call 141; refine (hze.out _ q8.out.run.ok).mono ?_; rintro e w9 ⟨B9, rfl, hn9⟩; have q9 := Hd.mk (q8.out.new_int hn9); clear hn9; obtain ⟨c9, c9z, c9l⟩ := q9.out.run.cell (q9.out.at1 (.tail _ (.tail _ (.head _)))))
    | (go_at_call 144; refine (uEqN _ B8 B9 (n % 2) 0 (Nat.lt_trans (Nat.mod_lt _ (by decide)) (by unfold BB; decide)) _ _ q9.out.run.ints (q9.out.num _ (.tail _ (.head _))) (q9.out.num _ (.head _))).mono ?_; rintro e w10 ⟨rfl, hk10, hI10⟩; have q10 := Hd.mk (q9.out.same hk10 hI10); clear hk10 hI10; obtain ⟨c10, c10z, c10l⟩ := q10.out.run.cell (q10.out.at1 (.tail _ (.tail _ (.head _)))))
    | (go_at_call 142; refine (uMod2 _ bn B7 n hn.out _ _ q7.out.run.ints (q7.out.at2 (.tail _ (.tail _ (.head _)))) (q7.out.num _ (.head _))).mono ?_; rintro e w8 ⟨B8, rfl, hg8, hk8, hI8⟩; have q8 := Hd.mk (q7.out.op hk8 hI8 hg8); clear hk8 hI8 hg8; obtain ⟨c8, c8z, c8l⟩ := q8.out.run.cell (q8.out.at1 (.tail _ (.tail _ (.head _))))))
  all_goals
    go_upto_if 25 with fail
    have hq := Hd.mk (p := ∃ S', Hd (RP P w w10 X6 S' [((w.heap.size + 1 + 1 + 1), bx, (k : Int) * E18), ((w.heap.size + 1 + 1), bb, E18), ((w.heap.size + 1), bn, (n : Int)), (w.heap.size, bx, (k : Int) * E18)] [])) ⟨_, ⟨q10.out.sub (fun _ h => h) (fun _ h => by cases h)⟩⟩
    clear q6 q7 q8 q9 q10 c7 c8 c9 c10 c7z c8z c9z c10z
    obtain ⟨⟨S1, q1⟩⟩ := hq
    obtain ⟨c, hc⟩ : ∃ c, Hd (c = if n % 2 = 1 then k else 1) := ⟨_, ⟨rfl⟩⟩
    go_cut [] (fun wx => ∃ X S' bz, Hd (RP P w wx X S' [((w.heap.size + 1 + 1 + 1), bz, (c : Int) * E18), ((w.heap.size + 1 + 1), bb, E18), ((w.heap.size + 1), bn, (n : Int)), (w.heap.size, bx, (k : Int) * E18)] []))
    case first =>
      obtain ⟨d1, d2, d3⟩ := q1.out.run.cell (q1.out.at1 (.head _))
      obtain ⟨e1, e2, e3⟩ := q1.out.run.cell (q1.out.at1 (.tail _ (.head _)))
      by_cases hp : n % 2 = 0
      · rw [decide_eq_true hp]
        go_wp2_with fail
        go_meet
        have hcc : c = 1 := by rw [hc.out]; exact if_neg (by omega)
        subst hcc
        exact ⟨_, _, bb, ⟨(q1.out.set (v := ((1 : Nat) : Int) * E18) (L' := [((w.heap.size + 1 + 1 + 1), bb, ((1 : Nat) : Int) * E18), ((w.heap.size + 1 + 1), bb, E18), ((w.heap.size + 1), bn, (n : Int)), (w.heap.size, bx, (k : Int) * E18)]) (q1.out.at1 (q := ((w.heap.size + 1 + 1 + 1), bx, (k : Int) * E18)) (.head _)) (by rw [show ((1 : Nat) : Int) * E18 = E18 from Int.one_mul _]; exact q1.out.at2 (q := ((w.heap.size + 1 + 1), bb, E18)) (.tail _ (.head _))) (fun q hq => by simp only [List.mem_cons, List.not_mem_nil, or_false] at hq ⊢; rcases hq with rfl | rfl | rfl | rfl <;> first | exact Or.inl rfl | exact Or.inr ⟨by simp, by (try dsimp only); omega⟩))⟩⟩
      · rw [decide_eq_false hp]
        go_wp2_with fail
        go_meet
        have hcc : c = k := by rw [hc.out]; exact if_pos (by omega)
        subst hcc
        exact ⟨_, _, _, q1⟩
    case rest =>
      obtain ⟨X2, S2, bz, q2⟩ := hcut
      obtain ⟨l1, l2, l3⟩ := Hd.mk (q2.out.run.cell (q2.out.at1 (.head _))) |>.out
      go_upto_region 10 with fail
      go_cut [7] (fun t7 wx => ∃ X S' h7 bh, t7 = .pointer (some ⟨h7, 0, none⟩) ∧ (w.heap.size + 1 + 1 + 1) < h7 ∧ Hd (RP P w wx X S' [(h7, bh, 500000000000000000), ((w.heap.size + 1 + 1 + 1), bz, (c : Int) * E18), ((w.heap.size + 1 + 1), bb, E18), ((w.heap.size + 1), bn, (n : Int)), (w.heap.size, bx, (k : Int) * E18)] []))
      case first =>
        obtain ⟨c2, c2z, c2l⟩ := q2.out.drew.run.cell (q2.out.drew.at1 (.tail _ (.head _)))
        obtain ⟨m2, m2z, m2l⟩ := q2.out.run.cell (q2.out.at1 (.tail _ (.head _)))
        go_region_held3 (fun wx => wx.cell? ⟨(w.heap.size + 1 + 1), 0, none⟩ = some (ptr bb)) (first | with_reducible exact c2 | with_reducible exact c3 | with_reducible exact c4 | (repeat first | assumption | rw [World.cell?_drew] | rw [World.cell?_alloc_lt _ _ _ (by (try simp only [World.size_alloc, World.size_drew, World.size_setCell]); omega)] | rw [World.cell?_setCell_far _ _ _ _ (by (try simp only [World.size_alloc, World.size_drew, World.size_setCell]); show _ ≠ _; omega)])) (first
          | (go_at_call 143; (first | (refine (hnu.out _ q2.out.drew.run.ok).mono ?_; rintro e w3 ⟨B3, rfl, hn3⟩; have q3 := Hd.mk (q2.out.drew.new_int hn3)) | (refine (hnu.out _ q2.out.nil.drew.run.ok).mono ?_; rintro e w3 ⟨B3, rfl, hn3⟩; have q3 := Hd.mk (q2.out.nil.drew.new_int hn3))); clear hn3; (try (have n3 := q3.out.run.cell updX_same; obtain ⟨n3, n3z, n3l⟩ := n3)); have z3 := q3.out.run.lt (q3.out.at1 (.head _)); obtain ⟨c3, c3z, c3l⟩ := q3.out.run.cell (q3.out.at1 (.tail _ (.head _))))
          | (go_at_call 145; (first | (refine (uQuoH _ bb B3 _ _ q3.out.run.ints (q3.out.at2 (q := ((w.heap.size + 1 + 1), bb, E18)) (.tail _ (.head _))) (q3.out.num _ (.head _))).mono ?_; rintro e w4 ⟨B4, rfl, hg4, hk4, hI4⟩; have q4 := Hd.mk (q3.out.op hk4 hI4 hg4)) | (refine (uQuoH _ bb B3 _ _ q3.out.nil.run.ints (q3.out.nil.at2 (q := ((w.heap.size + 1 + 1), bb, E18)) (.tail _ (.head _))) (q3.out.nil.num _ (.head _))).mono ?_; rintro e w4 ⟨B4, rfl, hg4, hk4, hI4⟩; have q4 := Hd.mk (q3.out.nil.op hk4 hI4 hg4))); clear hk4 hI4 hg4; (try (have n4 := q4.out.run.cell updX_same; obtain ⟨n4, n4z, n4l⟩ := n4)); have z4 := q4.out.run.lt (q4.out.at1 (.head _)); obtain ⟨c4, c4z, c4l⟩ := q4.out.run.cell (q4.out.at1 (.tail _ (.head _)))))
        all_goals
          go_wp2_with fail
          go_meet
          first
            | exact ⟨_, _, _, B4, rfl, (by (try simp only [World.size_drew, World.size_alloc]); omega), ⟨(q4.out.setn updX_same (q4.out.num _ (.head _))).sub (fun _ h => h) (fun _ h => by cases h)⟩⟩
            | exact ⟨_, _, _, B4, rfl, (by (try simp only [World.size_drew, World.size_alloc]); omega), ⟨(RP.box (B := B4) q4.out (q4.out.num _ (.head _))).sub (fun _ h => h) (fun _ h => by cases h)⟩⟩
            | exact ⟨_, _, _, B4, rfl, (by (try simp only [World.size_drew, World.size_alloc]); omega), ⟨(q4.out.nil.setn updX_same (q4.out.num _ (.head _))).sub (fun _ h => h) (fun _ h => by cases h)⟩⟩
      case rest =>
        obtain ⟨X3, S3, h7, bh, rfl, hb7, q3⟩ := hcut
        go_upto_region 11 with fail
        go_cut [] (fun wx => ∃ X S' bm, Hd (RP P w wx X S' [(h7, bh, 500000000000000000), ((w.heap.size + 1 + 1 + 1), bz, (c : Int) * E18), ((w.heap.size + 1 + 1), bb, E18), ((w.heap.size + 1), bm, ((n / 2 : Nat) : Int)), (w.heap.size, bx, (k : Int) * E18)] []))
        case first =>
          obtain ⟨c3, c3z, c3l⟩ := q3.out.drew.run.cell (q3.out.drew.at1 (.tail _ (.tail _ (.tail _ (.head _)))))
          go_region_law (first
          | (go_simp; go_at_call 143; refine (hnu.out _ q3.out.drew.run.ok).mono ?_; rintro e w4 ⟨B4, rfl, hn4⟩; have q4 := Hd.mk (q3.out.drew.new_int hn4); clear hn4; obtain ⟨c4, c4z, c4l⟩ := q4.out.run.cell (q4.out.at1 (.tail _ (.tail _ (.tail _ (.head _))))))
          | (go_simp; go_at_call 145; refine (uQuo2 _ bn B4 n hn.out _ _ q4.out.run.ints (q4.out.at2 (.tail _ (.tail _ (.tail _ (.head _))))) (q4.out.num _ (.head _))).mono ?_; rintro e w5 ⟨B5, rfl, hg5, hk5, hI5⟩; have q5 := Hd.mk (q4.out.op hk5 hI5 hg5); clear hk5 hI5 hg5; obtain ⟨c5, c5z, c5l⟩ := q5.out.run.cell (q5.out.at1 (.tail _ (.tail _ (.tail _ (.head _)))))))
          all_goals
            go_wp2_with fail
            go_meet
            exact ⟨_, _, B5, ⟨(q5.out.set (v := ((n / 2 : Nat) : Int)) (L' := [(h7, bh, 500000000000000000), ((w.heap.size + 1 + 1 + 1), bz, (c : Int) * E18), ((w.heap.size + 1 + 1), bb, E18), ((w.heap.size + 1), B5, ((n / 2 : Nat) : Int)), (w.heap.size, bx, (k : Int) * E18)]) (q5.out.at1 (.tail _ (.tail _ (.tail _ (.head _))))) (q5.out.num _ (.head _)) (fun q hq => by simp only [List.mem_cons, List.not_mem_nil, or_false] at hq ⊢; rcases hq with rfl | rfl | rfl | rfl | rfl <;> first | exact Or.inl rfl | exact Or.inr ⟨by simp, by (try dsimp only); omega⟩)).sub (fun _ h => h) (fun _ h => by cases h)⟩⟩
        case rest =>
          obtain ⟨X4, S4, bm, q4⟩ := hcut
          go_wp2_with fail
          have hc1 : 1 ≤ c := by
            rw [hc.out]
            split
            · exact hk.out
            · exact Nat.le_refl _
          have hrs := rp_start k n
          rw [← hc.out, hN.out] at hrs
          clear hc
          go_loopg [] (n / 2) (fun m wr => ∃ X S' bz bm bx' c a, Hd (c * (a * a) ^ m = N) ∧ Hd (1 ≤ a ∧ 1 ≤ c ∧ m < BB) ∧ Hd (RP P w wr X S' [(h7, bh, 500000000000000000), ((w.heap.size + 1 + 1 + 1), bz, (c : Int) * E18), ((w.heap.size + 1 + 1), bb, E18), ((w.heap.size + 1), bm, (m : Int)), (w.heap.size, bx', (a : Int) * E18)] []))
          case atStart => exact ⟨_, _, _, _, _, c, k, ⟨hrs⟩, ⟨hk.out, hc1, Nat.lt_of_le_of_lt (Nat.div_le_self _ _) hn.out⟩, q4⟩
          case round =>
            clear q4 hrs hc1
            obtain ⟨X5, S5, bz', bm', bx', c', a, hpow, hfac, q5⟩ := hrel
            have hgB := Hd.mk hfac.out.2.2
            go_upto_region 12 with fail
            obtain ⟨c5, c5z, c5l⟩ := q5.out.drew.run.cell (q5.out.drew.at1 (.tail _ (.tail _ (.tail _ (.head _)))))
            go_region_held3 (fun wx => wx.cell? ⟨(w.heap.size + 1), 0, none⟩ = some (ptr bm')) (first | with_reducible exact c5 | with_reducible exact c6 | with_reducible exact c7) (first
                | (go_at_call 141; refine (hze.out _ q5.out.drew.run.ok).mono ?_; rintro e w6 ⟨B6, rfl, hn6⟩; have q6 := Hd.mk (q5.out.drew.new_int hn6); clear hn6; obtain ⟨c6, c6z, c6l⟩ := q6.out.run.cell (q6.out.at1 (.tail _ (.tail _ (.tail _ (.head _))))))
                | (go_at_call 146; refine (uGtN _ bm' B6 gk hgB.out _ _ q6.out.run.ints (q6.out.at2 (.tail _ (.tail _ (.tail _ (.head _))))) (q6.out.num _ (.head _))).mono ?_; rintro e w7 ⟨rfl, hk7, hI7⟩; have q7 := Hd.mk (q6.out.same hk7 hI7); clear hk7 hI7; obtain ⟨c7, c7z, c7l⟩ := q7.out.run.cell (q7.out.at1 (.tail _ (.tail _ (.tail _ (.head _)))))))
            all_goals
              by_cases hm : 0 < gk
              · rw [decide_eq_true hm]
                obtain ⟨ha1, hc1, hgk⟩ := hfac.out
                obtain ⟨hb1, hb2⟩ := pw_le ha1 hc1 hm
                rw [hpow.out] at hb1 hb2
                have haa := Nat.lt_of_le_of_lt hb1 hkn.out
                have hca := Nat.lt_of_le_of_lt hb2 hkn.out
                have ha := Hd.mk (Nat.lt_of_le_of_lt (Nat.le_mul_of_pos_left a ha1) haa)
                have hcl := Hd.mk (Nat.lt_of_le_of_lt (Nat.le_mul_of_pos_right c' (Nat.mul_pos ha1 ha1)) hca)
                have hpa := Hd.mk (Pr.mk' haa)
                have hpc := Hd.mk (Pr.mk' hca)
                have ha2 := Hd.mk (Nat.mul_pos ha1 ha1)
                have hc2 := Hd.mk (Nat.mul_pos hc1 (Nat.mul_pos ha1 ha1))
                replace haa := Hd.mk haa
                replace hca := Hd.mk hca
                replace hc1 := Hd.mk hc1
                clear ha1 hb1 hb2 hfac
                obtain ⟨d1, d2, d3⟩ := q7.out.run.cell (q7.out.at1 (.tail _ (.tail _ (.tail _ (.tail _ (.head _))))))
                go_upto_region 14 with (go_at_call 147; refine (uMulE _ bx' bx' a a ha.out ha.out hpa.out _ _ q7.out.run.ints (q7.out.at2 (.tail _ (.tail _ (.tail _ (.tail _ (.head _)))))) (q7.out.at2 (.tail _ (.tail _ (.tail _ (.tail _ (.head _))))))).mono ?_; rintro e w8 ⟨B8, rfl, hg8, hk8, hI8⟩; have q8 := Hd.mk (q7.out.op hk8 hI8 hg8); clear hk8 hI8 hg8)
                have q9 := Hd.mk (RP.box (B := B8) q8.out (q8.out.num _ (.head _)))
                obtain ⟨f1, f2, f3⟩ := q9.out.run.cell (q9.out.at1 (.head _))
                obtain ⟨g1, g2, g3⟩ := q9.out.run.cell (q9.out.at1 (.tail _ (.head _)))
                go_upto_region 15 with (go_at_call 148; refine (uAddH _ B8 bh a a hpa.out _ _ q9.out.run.ints (q9.out.at2 (.head _)) (q9.out.at2 (.tail _ (.head _)))).mono ?_; rintro e w10 ⟨B10, rfl, hg10, hk10, hI10⟩; have q10 := Hd.mk (q9.out.op hk10 hI10 hg10); clear hk10 hI10 hg10)
                have q11 := Hd.mk (RP.box (B := B10) q10.out (q10.out.num _ (.head _)))
                obtain ⟨i1, i2, i3⟩ := q11.out.run.cell (q11.out.at1 (.head _))
                obtain ⟨j1, j2, j3⟩ := q11.out.run.cell (q11.out.at1 (.tail _ (.tail _ (.tail _ (.tail _ (.head _))))))
                go_upto_region 16 with (go_at_call 145; refine (uQuoE _ B10 bb a a hpa.out haa.out _ _ q11.out.run.ints (q11.out.at2 (.head _)) (q11.out.at2 (.tail _ (.tail _ (.tail _ (.tail _ (.head _))))))).mono ?_; rintro e w12 ⟨B12, rfl, hg12, hk12, hI12⟩; have q12 := Hd.mk (q11.out.op hk12 hI12 hg12); clear hk12 hI12 hg12; obtain ⟨k1, k2, k3⟩ := q12.out.run.cell (q12.out.at1 (.tail _ (.tail _ (.tail _ (.tail _ (.tail _ (.tail _ (.head _)))))))))
                have q13 := Hd.mk (RP.set (b := w.heap.size) (B := B12) (v := ((a * a : Nat) : Int) * E18) (L' := [(h7, bh, 500000000000000000), ((w.heap.size + 1 + 1 + 1), bz', (c' : Int) * E18), ((w.heap.size + 1 + 1), bb, E18), ((w.heap.size + 1), bm', (gk : Int)), (w.heap.size, B12, ((a * a : Nat) : Int) * E18)]) q12.out (q12.out.at1 (.tail _ (.tail _ (.tail _ (.tail _ (.tail _ (.tail _ (.head _)))))))) (q12.out.num _ (.head _)) (fun q hq => by simp only [List.mem_cons, List.not_mem_nil, or_false] at hq ⊢; rcases hq with rfl | rfl | rfl | rfl | rfl <;> first | exact Or.inl rfl | exact Or.inr ⟨by simp, by (try dsimp only); omega⟩))
                obtain ⟨c13, c13z, c13l⟩ := q13.out.drew.run.cell (q13.out.drew.at1 (.tail _ (.tail _ (.tail _ (.head _)))))
                go_region_held3 (fun wx => wx.cell? ⟨(w.heap.size + 1), 0, none⟩ = some (ptr bm')) (first | with_reducible exact c13 | with_reducible exact c14 | with_reducible exact c15 | with_reducible exact c16 | with_reducible exact c17) (first
                    | (go_at_call 143; refine (hnu.out _ q13.out.drew.run.ok).mono ?_; rintro e w14 ⟨B14, rfl, hn14⟩; have q14 := Hd.mk (q13.out.drew.new_int hn14); clear hn14; obtain ⟨c14, c14z, c14l⟩ := q14.out.run.cell (q14.out.at1 (.tail _ (.tail _ (.tail _ (.head _))))))
                    | (go_at_call 142; refine (uMod2 _ bm' B14 gk hgB.out _ _ q14.out.run.ints (q14.out.at2 (.tail _ (.tail _ (.tail _ (.head _))))) (q14.out.num _ (.head _))).mono ?_; rintro e w15 ⟨B15, rfl, hg15, hk15, hI15⟩; have q15 := Hd.mk (q14.out.op hk15 hI15 hg15); clear hk15 hI15 hg15; obtain ⟨c15, c15z, c15l⟩ := q15.out.run.cell (q15.out.at1 (.tail _ (.tail _ (.tail _ (.head _))))))
                    | (go_at_call 140; refine (hon.out _ q15.out.run.ok).mono ?_; rintro e w16 ⟨B16, rfl, hn16⟩; have q16 := Hd.mk (q15.out.new_int hn16); clear hn16; obtain ⟨c16, c16z, c16l⟩ := q16.out.run.cell (q16.out.at1 (.tail _ (.tail _ (.tail _ (.head _))))))
                    | (go_at_call 144; refine (uEqN _ B15 B16 (gk % 2) 1 (Nat.lt_trans (Nat.mod_lt _ (by decide)) (by unfold BB; decide)) _ _ q16.out.run.ints (q16.out.num _ (.tail _ (.head _))) (q16.out.num _ (.head _))).mono ?_; rintro e w17 ⟨rfl, hk17, hI17⟩; have q17 := Hd.mk (q16.out.same hk17 hI17); clear hk17 hI17; obtain ⟨c17, c17z, c17l⟩ := q17.out.run.cell (q17.out.at1 (.tail _ (.tail _ (.tail _ (.head _)))))))
                all_goals
                  go_upto_if 49 with fail
                  have q18 := Hd.mk (p := ∃ S', Hd (RP P w w17 _ S' [(h7, bh, 500000000000000000), ((w.heap.size + 1 + 1 + 1), bz', (c' : Int) * E18), ((w.heap.size + 1 + 1), bb, E18), ((w.heap.size + 1), bm', (gk : Int)), (w.heap.size, B12, ((a * a : Nat) : Int) * E18)] [])) ⟨_, ⟨q17.out.sub (fun _ h => h) (fun _ h => by cases h)⟩⟩
                  clear q5 q6 q7 q8 q9 q10 q11 q12 q13 q14 q15 q16 q17
                  obtain ⟨⟨S18, q18⟩⟩ := q18
                  go_cut [] (fun wx => ∃ X S' bz2 c2, Hd (c2 * ((a * a) * (a * a)) ^ (gk / 2) = N) ∧ Hd (1 ≤ c2) ∧ Hd (RP P w wx X S' [(h7, bh, 500000000000000000), ((w.heap.size + 1 + 1 + 1), bz2, (c2 : Int) * E18), ((w.heap.size + 1 + 1), bb, E18), ((w.heap.size + 1), bm', (gk : Int)), (w.heap.size, B12, ((a * a : Nat) : Int) * E18)] []))
                  case first =>
                    by_cases hp : gk % 2 = 1
                    · rw [decide_eq_true hp]
                      obtain ⟨d1, d2, d3⟩ := q18.out.run.cell (q18.out.at1 (.tail _ (.head _)))
                      obtain ⟨e1, e2, e3⟩ := q18.out.run.cell (q18.out.at1 (.tail _ (.tail _ (.tail _ (.tail _ (.head _))))))
                      go_upto_region 18 with (go_at_call 147; refine (uMulE _ bz' B12 c' (a * a) hcl.out haa.out hpc.out _ _ q18.out.run.ints (q18.out.at2 (.tail _ (.head _))) (q18.out.at2 (.tail _ (.tail _ (.tail _ (.tail _ (.head _))))))).mono ?_; rintro e w19 ⟨B19, rfl, hg19, hk19, hI19⟩; have q19 := Hd.mk (q18.out.op hk19 hI19 hg19); clear hk19 hI19 hg19)
                      have q20 := Hd.mk (RP.box (B := B19) q19.out (q19.out.num _ (.head _)))
                      obtain ⟨f1, f2, f3⟩ := q20.out.run.cell (q20.out.at1 (.head _))
                      obtain ⟨g1, g2, g3⟩ := q20.out.run.cell (q20.out.at1 (.tail _ (.head _)))
                      go_upto_region 19 with (go_at_call 148; refine (uAddH _ B19 bh c' (a * a) hpc.out _ _ q20.out.run.ints (q20.out.at2 (.head _)) (q20.out.at2 (.tail _ (.head _)))).mono ?_; rintro e w21 ⟨B21, rfl, hg21, hk21, hI21⟩; have q21 := Hd.mk (q20.out.op hk21 hI21 hg21); clear hk21 hI21 hg21)
                      have q22 := Hd.mk (RP.box (B := B21) q21.out (q21.out.num _ (.head _)))
                      obtain ⟨i1, i2, i3⟩ := q22.out.run.cell (q22.out.at1 (.head _))
                      obtain ⟨j1, j2, j3⟩ := q22.out.run.cell (q22.out.at1 (.tail _ (.tail _ (.tail _ (.tail _ (.head _))))))
                      go_wp2_with (go_at_call 145; refine (uQuoE _ B21 bb c' (a * a) hpc.out hca.out _ _ q22.out.run.ints (q22.out.at2 (.head _)) (q22.out.at2 (.tail _ (.tail _ (.tail _ (.tail _ (.head _))))))).mono ?_; rintro e w23 ⟨B23, rfl, hg23, hk23, hI23⟩; have q23 := Hd.mk (q22.out.op hk23 hI23 hg23); clear hk23 hI23 hg23; obtain ⟨k1, k2, k3⟩ := q23.out.run.cell (q23.out.at1 (.tail _ (.tail _ (.tail _ (.head _))))))
                      have q24 := Hd.mk (RP.set (b := (w.heap.size + 1 + 1 + 1)) (B := B23) (v := ((c' * (a * a) : Nat) : Int) * E18) (L' := [(h7, bh, 500000000000000000), ((w.heap.size + 1 + 1 + 1), B23, ((c' * (a * a) : Nat) : Int) * E18), ((w.heap.size + 1 + 1), bb, E18), ((w.heap.size + 1), bm', (gk : Int)), (w.heap.size, B12, ((a * a : Nat) : Int) * E18)]) q23.out (q23.out.at1 (.tail _ (.tail _ (.tail _ (.head _))))) (q23.out.num _ (.head _)) (fun q hq => by simp only [List.mem_cons, List.not_mem_nil, or_false] at hq ⊢; rcases hq with rfl | rfl | rfl | rfl | rfl <;> first | exact Or.inl rfl | exact Or.inr ⟨by simp, by (try dsimp only); omega⟩))
                      go_meet
                      exact ⟨_, _, _, _, ⟨(rp_odd a c' gk hp).trans hpow.out⟩, hc2, ⟨q24.out.sub (fun _ h => h) (fun _ h => by cases h)⟩⟩
                    · rw [decide_eq_false hp]
                      go_wp2_with fail
                      go_meet
                      exact ⟨_, _, _, _, ⟨(rp_even a c' gk hp).trans hpow.out⟩, hc1, q18⟩
                  case rest =>
                    obtain ⟨X25, S25, bz2, c2, hpow2, hc21, q25⟩ := hcut
                    go_upto_region 20 with fail
                    obtain ⟨c25, c25z, c25l⟩ := q25.out.drew.run.cell (q25.out.drew.at1 (.tail _ (.tail _ (.tail _ (.head _)))))
                    go_region_law (first
                    | (go_simp; go_at_call 143; refine (hnu.out _ q25.out.drew.run.ok).mono ?_; rintro e w26 ⟨B26, rfl, hn26⟩; have q26 := Hd.mk (q25.out.drew.new_int hn26); clear hn26; obtain ⟨c26, c26z, c26l⟩ := q26.out.run.cell (q26.out.at1 (.tail _ (.tail _ (.tail _ (.head _))))))
                    | (go_simp; go_at_call 145; refine (uQuo2 _ bm' B26 gk hgB.out _ _ q26.out.run.ints (q26.out.at2 (.tail _ (.tail _ (.tail _ (.head _))))) (q26.out.num _ (.head _))).mono ?_; rintro e w27 ⟨B27, rfl, hg27, hk27, hI27⟩; have q27 := Hd.mk (q26.out.op hk27 hI27 hg27); clear hk27 hI27 hg27; obtain ⟨c27, c27z, c27l⟩ := q27.out.run.cell (q27.out.at1 (.tail _ (.tail _ (.tail _ (.head _)))))))
                    all_goals
                      go_wp2_with fail
                      have q28 := Hd.mk ((RP.set (b := (w.heap.size + 1)) (B := B27) (v := ((gk / 2 : Nat) : Int)) (L' := [(h7, bh, 500000000000000000), ((w.heap.size + 1 + 1 + 1), bz2, (c2 : Int) * E18), ((w.heap.size + 1 + 1), bb, E18), ((w.heap.size + 1), B27, ((gk / 2 : Nat) : Int)), (w.heap.size, B12, ((a * a : Nat) : Int) * E18)]) q27.out (q27.out.at1 (.tail _ (.tail _ (.tail _ (.head _))))) (q27.out.num _ (.head _)) (fun q hq => by simp only [List.mem_cons, List.not_mem_nil, or_false] at hq ⊢; rcases hq with rfl | rfl | rfl | rfl | rfl <;> first | exact Or.inl rfl | exact Or.inr ⟨by simp, by (try dsimp only); omega⟩)).sub (fun _ h => h) (M' := []) (fun _ h => by cases h))
                      go_roundg (gk / 2)
                      case measure => exact Nat.div_lt_self hm (by decide)
                      case rel => exact ⟨_, _, _, _, _, _, _, hpow2, ⟨ha2.out, hc21.out, Nat.lt_of_le_of_lt (Nat.div_le_self _ _) hgB.out⟩, q28⟩
              · rw [decide_eq_false hm]
                have hg0 : gk = 0 := by omega
                obtain ⟨d1, d2, d3⟩ := q7.out.run.cell (q7.out.at1 (.tail _ (.head _)))
                have hcn : c' = N := by rw [← hpow.out, hg0]; simp
                go_wp2_with fail
                have q9 := Hd.mk (q7.out.run.set1 (b := (w.heap.size + 1 + 1 + 1)) (v' := ptr bz') (q7.out.at1 (.tail _ (.head _))))
                have hv := q7.out.at2 (.tail _ (.head _))
                rw [hcn] at hv
                refine bodyPost_ret (v := .agg #[ptr bz']) (by simp [results, Tryz.results55, go_sem, d1, d2, d3]) rfl ⟨bz', rfl, q9.out.fin.1, _, q9.out.fin.2, hv⟩
end Go.Proofs.YtdbjdpooggaonaaGreatDoor
