/- The reference: a decimal's text read: digits. The thin package: a text that is no decimal; the reference: the signs of a text. A text is parsed as the reference says, or refused as it says. FnDecParses: the walk. Conditions: those that each theorem states. -/
import Derived.Test.YtmamfidjigmahaaGreatDoorParses03
import Derived.Test.YtmamfidjigmahaaGreatDoorParses02
import Derived.Test.YtmamfidjigmahaaGreatDoorSums25
import Derived.Test.YtmamfidjigmahaaGreatDoorBack01
import Derived.Test.YtmamfidjigmahaaGreatDoorTells01
import Derived.Test.YtmamfidjigmahaaGreatDoorSums28
set_option linter.all false

section
namespace Go.Proofs.YtmamfidjigmahaaGreatDoor
open Go.RowKit
set_option maxRecDepth 100000
set_option maxHeartbeats 4000000 in
theorem parsed_dig1 (s t : ByteArray) (neg : Bool) (w : World) (hs : s.size < 120) (hun : unm s = (neg, t)) (hd1 : ∀ k, k < t.size → ch t k ≠ 46) (hdn : t.size < 120) (hd0 : t.size ≠ 0) (hall : ∀ j, j < t.size → isD (ch t j)) :
    Calls Tryz.prog 15 #[.string s] w fun e w' => ParsedR w (sgX neg (dn t 0 t.size * 10 ^ (18))) e w' := by
  have hts : t.size ≤ s.size := by have := unm_size s; rw [hun] at this; exact this
  have hun := unm_cases s hun
  have r0 := SR.start w [] (fun p hp => by cases hp)
  have r1 := r0.box2 (b0 := false) (A := none) (m := 0) (c := 0)
  have hC1 : (updC (fun _ => none) w.heap.size [.bool false, .slice none 0 0]) w.heap.size = some [.bool false, .slice none 0 0] := updC_same
  generalize updC (fun _ => none) w.heap.size [.bool false, .slice none 0 0] = C1 at *
  have l1 : w.heap.size < (w.alloc (.cells #[.bool false, .slice none 0 0] 24)).heap.size := by rw [World.size_alloc]; omega
  replace r1 := Hd.mk r1
  replace hC1 := Hd.mk hC1
  clear r0
  obtain ⟨n0, hn0⟩ : ∃ n0, n0 = t.size := ⟨_, rfl⟩
  have hp : Hd (n0 < t.size → ch t n0 = 46) := ⟨fun h => by omega⟩
  have hd : Hd (∀ k, k < t.size → k ≠ n0 → ch t k ≠ 46) := ⟨fun k h _ => hd1 k h⟩
  replace hd1 := Hd.mk hd1
  have hdg : Hd (∀ w1, Calls Tryz.prog 50 #[.string t] w1 fun e w' => ∃ b A n c, e = .returned (.tuple #[.agg #[.bool b, .slice A n c], .bool true]) ∧ NumV w' (.agg #[.bool b, .slice A n c]) ((dn t 0 t.size : Nat) : Int) ∧ Below w1.heap.size w1 w') := ⟨fun w1 => by
    have h := digits_any t t.size w1 (by omega) (Nat.le_refl _) (fun j hj => hall _ (by omega)) (.inl rfl)
    rw [decide_eq_true ⟨rfl, hd0⟩] at h
    exact h.mono fun e w' ⟨v, he, hn, ⟨b, A, n, c, hv⟩, hb⟩ => ⟨b, A, n, c, by rw [he, hv], by have := hn rfl; rwa [hv] at this, hb⟩⟩
  have hdl : dn t 0 t.size < 10 ^ 120 := Nat.lt_of_lt_of_le (dn_lt fun j hj => by rw [Nat.zero_add]; exact hall j hj) (Nat.pow_le_pow_right (by decide) (by omega))
  have hpl : 10 ^ (18) ≤ 10 ^ 18 := Nat.pow_le_pow_right (by decide) (by omega)
  have hxl : dn t 0 t.size * 10 ^ (18) < 10 ^ 200 := Nat.lt_of_lt_of_le (Nat.mul_lt_mul_of_lt_of_le hdl hpl (Nat.pow_pos (by decide))) (by decide)
  have hte := Hd.mk fun w1 => nv (ten_any (18) w1 (by omega))
  rw [show ((18 : Nat) : Int) = 18 from rfl] at hte
  have hw1 : T.wlen (dn t 0 t.size) < 900 := wl200 (Nat.lt_trans hdl (by decide))
  have hw2 : T.wlen (10 ^ (18)) < 900 := wl200 (Nat.lt_of_le_of_lt hpl (by decide))
  have hmu := Hd.mk fun w1 v1 v2 (q1 : NumV w1 v1 ((dn t 0 t.size : Nat) : Int)) (q2 : NumV w1 v2 ((10 ^ (18) : Nat) : Int)) => nv (ntimes_any v1 v2 _ _ w1 q1 q2 (by rw [Int.natAbs_natCast]; omega) (by rw [Int.natAbs_natCast]; omega))
  rw [← Int.natCast_mul] at hmu
  have hwx := wl200 hxl
  generalize dn t 0 t.size * 10 ^ (18) = Y at *
  generalize dn t 0 t.size = D0 at *
  generalize 10 ^ (18) = T0 at *
  have hmi := Hd.mk fun w1 v1 (q : NumV w1 v1 (Y : Int)) => nv (minus_any v1 _ w1 q (by rw [Int.natAbs_natCast]; omega))
  have hwi := Hd.mk fun w1 v1 z (hz : z.natAbs = Y) (q : NumV w1 v1 z) => within_any v1 z w1 q (by rw [hz]; exact hwx)
  skip
  replace hall := Hd.mk hall
  clear hdl hpl hxl hw1 hw2
  have hse := str_empty s
  have hse3 : (s.toList == []) = decide (s.size = 0) := by rw [← hse]; congr 1; simp [ByteArray.toList_eq]
  have hse2 : s.toList.isEmpty = decide (s.size = 0) := by rw [← hse]; cases s.toList with | nil => (rw [show (ByteArray.mk #[]).toList = [] from by simp [ByteArray.toList_eq]]; rfl) | cons a l => (rw [show (ByteArray.mk #[]).toList = [] from by simp [ByteArray.toList_eq]]; rfl)
  go_enter Tryz.func15, Tryz.ntmps15
  go_upto_region 1 with fail
  generalize w.alloc (.cells #[.bool false, .slice none 0 0] 24) = w1 at *
  go_cut [4] (fun t4 wx => t4 = .bool neg ∧ w1 = wx)
  case first =>
    as_aux_lemma =>
      by_cases hz : s.size = 0
      · have hn : neg = false := by cases neg; (· rfl); (· simp only [if_true] at hun; omega)
        subst hn
        rw [decide_eq_true hz] at hse hse2 hse3
        replace hz := Hd.mk hz
        replace hun := Hd.mk hun
        go_wp2_with fail
        go_meet
        exact ⟨rfl, rfl⟩
      · rw [decide_eq_false hz] at hse hse2 hse3
        have hs0 : 0 < s.size := by omega
        have hix := ch_eq (s := s) (k := 0) hs0
        have h45 : ((ch s 0 : Int) == 45) = neg := by
          cases neg
          · simp only [Bool.false_eq_true, if_false] at hun
            have : ch s 0 ≠ 45 := fun h => hun.1 ⟨hs0, h⟩
            simp; omega
          · simp only [if_true] at hun
            rw [hun.2.1]; rfl
        generalize ch s 0 = cc at *
        replace hz := Hd.mk hz
        replace hun := Hd.mk hun
        go_wp2_with fail
        go_meet
        exact ⟨rfl, rfl⟩
  case rest =>
  obtain ⟨rfl, rfl⟩ := hcut
  clear hse hse2 hse3
  go_upto_if 17 with fail
  go_cut [0] (fun t0 wx => t0 = .string t ∧ w1 = wx)
  case first =>
    as_aux_lemma =>
      cases neg
      · simp only [Bool.false_eq_true, if_false] at hun
        obtain ⟨-, rfl⟩ := hun
        go_wp2_with fail
        go_meet
        exact ⟨rfl, rfl⟩
      · simp only [if_true] at hun
        obtain ⟨hs0, -, rfl⟩ := hun
        have hss : 1 ≤ s.size := hs0
        go_wp2_with fail
        go_meet
        exact ⟨rfl, rfl⟩
  case rest =>
  obtain ⟨rfl, rfl⟩ := hcut
  clear hun
  go_wp2
  go_loop [5, 6] (fun p i => ∃ k : Nat, k ≤ t.size ∧ i = .int .i64 k ∧ p = .int .i64 (if n0 < k then (n0 : Int) else -1)) (fun _ i => t.size - (intOf i).toNat)
  case atStart => exact ⟨0, Nat.zero_le _, rfl, by rw [if_neg (by omega)]⟩
  case round =>
    obtain ⟨k, hk, rfl, rfl⟩ := hrel
    by_cases hkt : k < t.size
    · have hlt : decide ((k : Int) < (t.size : Int)) = true := decide_eq_true (by omega)
      have hix := ch_eq (s := t) (k := k) hkt
      have hwk : IntKind.i64.wrap ((k : Int) + 1) = (k : Int) + 1 := IntWalk.i64_in _ (by omega)
      have hi0 : (0 : Int) ≤ (k : Int) := by omega
      have hi1 : (k : Int) < (t.size : Int) := by omega
      by_cases hkn : k = n0
      · exfalso; omega
      · as_aux_lemma =>
          have hne : ch t k ≠ 46 := hd.out k hkt hkn
          have h46 : ((ch t k : Int) == 46) = false := by simp; omega
          have hfin : Hd ((if n0 < k then (n0 : Int) else -1) = (if n0 < k + 1 then (n0 : Int) else -1)) := ⟨by by_cases h : n0 < k; (· rw [if_pos h, if_pos (by omega)]); (· rw [if_neg h, if_neg (by omega)])⟩
          generalize ch t k = cc at *
          replace hne := Hd.mk hne
          generalize (if n0 < k then (n0 : Int) else -1) = pp at *
          go_wp2
          go_round
          case rel => exact ⟨k + 1, by omega, by rw [Int.natCast_succ], by rw [hfin.out]⟩
          case measure => simp [intOf]; omega
    · obtain rfl : k = t.size := by omega
      have hlt : decide ((t.size : Int) < (t.size : Int)) = false := decide_eq_false (by omega)
      rw [if_neg (by omega)]
      have hge : decide ((0 : Int) ≤ -1) = false := by decide
      have r2 := Hd.mk r1.out
      clear r1
      generalize w1 = w2 at *
      go_upto_region 19 with (go_at_call 50; refine (hdg.out _).mono ?_; rintro e w3 ⟨b3, A3, m3, c3, rfl, hn3, hb3⟩; have r3 := Hd.mk ((r2.out.op hb3).add hn3); clear hb3 hn3)
      have r4 := Hd.mk (r3.out.box2 (b0 := b3) (A := A3) (m := m3) (c := c3))
      have l3 := (r3.out.blk _ _ hC1.out).2.lt
      have hR : Hd (updC C1 w3.heap.size [.bool b3, .slice A3 m3 c3] w.heap.size = some [.bool false, .slice none 0 0]) := ⟨by rw [updC_ne (by omega)]; exact hC1.out⟩
      have h8 : Hd (updC C1 w3.heap.size [.bool b3, .slice A3 m3 c3] w3.heap.size = some [.bool b3, .slice A3 m3 c3]) := ⟨updC_same⟩
      generalize updC C1 w3.heap.size [.bool b3, .slice A3 m3 c3] = C4 at *
      generalize w3.alloc (.cells #[.bool b3, .slice A3 m3 c3] 24) = w4 at *
      generalize w3.heap.size = t8 at *
      have hR8 : w.heap.size ≠ t8 := by omega
      refine SR.cellK r4.out h8.out ?_
      intro f0 f1 fz fy fl
      go_upto_region 21 with fail
      go_cut [] (fun wx => ∃ b A m c, ∃ C, Hd (SR w wx C [(.agg #[.bool b, .slice A m c], (Y : Int))]) ∧ Hd (C t8 = some [.bool b, .slice A m c]) ∧ Hd (C w.heap.size = some [.bool false, .slice none 0 0]))
      case first =>
        as_aux_lemma =>
          go_region_law (first
            | (go_simp; go_at_call 51; refine (hte.out _).mono ?_; rintro e w5 ⟨b5, A5, m5, c5, rfl, hn5, hb5⟩; have r5 := Hd.mk (((r4.out.drew).op hb5).add hn5); clear hb5 hn5; refine SR.cellK r5.out h8.out ?_; intro g0 g1 gz gy gl)
            | (go_simp; go_at_call 18; refine (hmu.out _ _ _ r5.out.v1 r5.out.v0).mono ?_; rintro e w6 ⟨b6, A6, m6, c6, rfl, hn6, hb6⟩; have r6 := Hd.mk ((r5.out.op hb6).add hn6); clear hb6 hn6; refine SR.cellK r6.out h8.out ?_; intro i0 i1 iz iy il))
          all_goals
            have r7 := r6.out.set (b1 := b6) (A1 := A6) (m1 := m6) (c1 := c6) h8.out
            go_wp2_with fail
            go_meet
            first
              | exact ⟨b6, A6, m6, c6, SREx1 r7 (.head _) ⟨⟨updC_same⟩, ⟨(updC_ne hR8).trans hR.out⟩⟩⟩
              | exact ⟨b6, A6, m6, c6, SREx1 r7.drew (.head _) ⟨⟨updC_same⟩, ⟨(updC_ne hR8).trans hR.out⟩⟩⟩
      case rest =>
      obtain ⟨b6, A6, m6, c6, C6, r6, h8', hR'⟩ := hcut
      clear r4 r3 h8 hR f0 f1 fz fy fl
      generalize wc = w6 at *
      go_upto_if 73 with fail
      go_cut [] (fun wx => ∃ b A m c, ∃ C, Hd (SR w wx C [(.agg #[.bool b, .slice A m c], sgX neg Y)]) ∧ Hd (C t8 = some [.bool b, .slice A m c]) ∧ Hd (C w.heap.size = some [.bool false, .slice none 0 0]))
      case first =>
        as_aux_lemma =>
          refine SR.cellK r6.out h8'.out ?_
          intro p0 p1 pz py pl
          cases neg
          · go_wp2_with fail
            go_meet
            exact ⟨b6, A6, m6, c6, C6, r6, h8', hR'⟩
          · go_wp2_with (go_at_call 29; refine (hmi.out _ _ r6.out.v0).mono ?_; rintro e w7 ⟨b7, A7, m7, c7, rfl, hn7, hb7⟩; have r7 := Hd.mk ((r6.out.op hb7).add hn7); clear hb7 hn7; refine SR.cellK r7.out h8'.out ?_; intro i0 i1 iz iy il)
            have r8 := r7.out.set (b1 := b7) (A1 := A7) (m1 := m7) (c1 := c7) h8'.out
            go_meet
            exact ⟨b7, A7, m7, c7, SREx1 r8 (.head _) ⟨⟨updC_same⟩, ⟨(updC_ne hR8).trans hR'.out⟩⟩⟩
      case rest =>
      clear h8' hR' r6
      obtain ⟨b8, A8, m8, c8, C8, r8, h8', hR'⟩ := hcut
      generalize wc = w8 at *
      have hzz : Hd ((sgX neg Y).natAbs = Y) := ⟨sgX_abs neg Y⟩
      obtain ⟨z, hz⟩ : ∃ z : Int, z = sgX neg Y := ⟨_, rfl⟩
      rw [← hz] at hzz r8
      replace hz := Hd.mk hz
      have hwz := Hd.mk fun w1 v1 (q : NumV w1 v1 z) => hwi.out w1 v1 z hzz.out q
      obtain ⟨dc, hdc⟩ : ∃ dc : Bool, dc = decide ((z.natAbs : Int) ≤ mostZ) := ⟨_, rfl⟩
      rw [← hdc] at hwz
      replace hdc := Hd.mk hdc
      refine SR.cellK r8.out h8'.out ?_
      intro f0 f1 fz fy fl
      refine SR.cellK r8.out hR'.out ?_
      intro q0 q1 qz qy ql
      go_upto_region 24 with fail
      go_region_law (first
        | (go_simp; go_at_call 17; refine (hwz.out _ _ (r8.out.drew).v0).mono ?_; rintro e w9 ⟨rfl, hb9⟩; have r9 := Hd.mk ((r8.out.drew).op hb9); clear hb9; refine SR.cellK r9.out h8'.out ?_; intro g0 g1 gz gy gl; refine SR.cellK r9.out hR'.out ?_; intro k0 k1 kz ky kl))
      all_goals
        have r10 := r9.out.set (b1 := b8) (A1 := A8) (m1 := m8) (c1 := c8) hR'.out
        have hf := Hd.mk (And.intro r10.v0 r10.bel)
        clear r10
        go_wp2
        refine bodyPost_ret (v := .tuple #[.agg #[.bool b8, .slice A8 m8 c8], .bool dc]) (by simp [results, Tryz.results15, go_sem, k0, k1, kz, ky, kl]) rfl ?_
        unfold ParsedR
        first
          | exact ⟨b8, A8, m8, c8, by rw [hdc.out, hz.out], by rw [← hz.out]; exact hf.out.1, hf.out.2⟩
          | exact ⟨b8, A8, m8, c8, by rw [hdc.out, hz.out], by rw [← hz.out]; exact hf.out.1.below (below_drew _), below_drew' hf.out.2⟩
set_option maxHeartbeats 4000000 in
theorem parsed_dig2 (s t : ByteArray) (neg : Bool) (w : World) (hs : s.size < 120) (hun : unm s = (neg, t)) (n0 more : Nat) (hn0 : n0 < t.size) (hp : Hd (n0 < t.size → ch t n0 = 46)) (hd : Hd (∀ k, k < t.size → k ≠ n0 → ch t k ≠ 46)) (hm : more + n0 + 1 = t.size) (h1 : more ≠ 0) (h2 : more ≤ 18) (h3 : n0 ≠ 0) (d : ByteArray) (hdd : Hd (d = t.extract 0 n0 ++ t.extract (n0 + 1) t.size)) (hdn : d.size < 120) (hd0 : d.size ≠ 0) (hall : ∀ j, j < d.size → isD (ch d j)) :
    Calls Tryz.prog 15 #[.string s] w fun e w' => ParsedR w (sgX neg (dn d 0 d.size * 10 ^ (18 - more))) e w' := by
  have hts : t.size ≤ s.size := by have := unm_size s; rw [hun] at this; exact this
  have hun := unm_cases s hun
  have r0 := SR.start w [] (fun p hp => by cases hp)
  have r1 := r0.box2 (b0 := false) (A := none) (m := 0) (c := 0)
  have hC1 : (updC (fun _ => none) w.heap.size [.bool false, .slice none 0 0]) w.heap.size = some [.bool false, .slice none 0 0] := updC_same
  generalize updC (fun _ => none) w.heap.size [.bool false, .slice none 0 0] = C1 at *
  have l1 : w.heap.size < (w.alloc (.cells #[.bool false, .slice none 0 0] 24)).heap.size := by rw [World.size_alloc]; omega
  replace r1 := Hd.mk r1
  replace hC1 := Hd.mk hC1
  clear r0
  have hdg : Hd (∀ w1, Calls Tryz.prog 50 #[.string d] w1 fun e w' => ∃ b A n c, e = .returned (.tuple #[.agg #[.bool b, .slice A n c], .bool true]) ∧ NumV w' (.agg #[.bool b, .slice A n c]) ((dn d 0 d.size : Nat) : Int) ∧ Below w1.heap.size w1 w') := ⟨fun w1 => by
    have h := digits_any d d.size w1 (by omega) (Nat.le_refl _) (fun j hj => hall _ (by omega)) (.inl rfl)
    rw [decide_eq_true ⟨rfl, hd0⟩] at h
    exact h.mono fun e w' ⟨v, he, hn, ⟨b, A, n, c, hv⟩, hb⟩ => ⟨b, A, n, c, by rw [he, hv], by have := hn rfl; rwa [hv] at this, hb⟩⟩
  have hdl : dn d 0 d.size < 10 ^ 120 := Nat.lt_of_lt_of_le (dn_lt fun j hj => by rw [Nat.zero_add]; exact hall j hj) (Nat.pow_le_pow_right (by decide) (by omega))
  have hpl : 10 ^ (18 - more) ≤ 10 ^ 18 := Nat.pow_le_pow_right (by decide) (by omega)
  have hxl : dn d 0 d.size * 10 ^ (18 - more) < 10 ^ 200 := Nat.lt_of_lt_of_le (Nat.mul_lt_mul_of_lt_of_le hdl hpl (Nat.pow_pos (by decide))) (by decide)
  have hte := Hd.mk fun w1 => nv (ten_any (18 - more) w1 (by omega))
  skip
  have hw1 : T.wlen (dn d 0 d.size) < 900 := wl200 (Nat.lt_trans hdl (by decide))
  have hw2 : T.wlen (10 ^ (18 - more)) < 900 := wl200 (Nat.lt_of_le_of_lt hpl (by decide))
  have hmu := Hd.mk fun w1 v1 v2 (q1 : NumV w1 v1 ((dn d 0 d.size : Nat) : Int)) (q2 : NumV w1 v2 ((10 ^ (18 - more) : Nat) : Int)) => nv (ntimes_any v1 v2 _ _ w1 q1 q2 (by rw [Int.natAbs_natCast]; omega) (by rw [Int.natAbs_natCast]; omega))
  rw [← Int.natCast_mul] at hmu
  have hwx := wl200 hxl
  generalize dn d 0 d.size * 10 ^ (18 - more) = Y at *
  generalize dn d 0 d.size = D0 at *
  generalize 10 ^ (18 - more) = T0 at *
  have hmi := Hd.mk fun w1 v1 (q : NumV w1 v1 (Y : Int)) => nv (minus_any v1 _ w1 q (by rw [Int.natAbs_natCast]; omega))
  have hwi := Hd.mk fun w1 v1 z (hz : z.natAbs = Y) (q : NumV w1 v1 z) => within_any v1 z w1 q (by rw [hz]; exact hwx)
  have hw18 : IntKind.i64.wrap (18 - (more : Int)) = ((18 - more : Nat) : Int) := by rw [IntWalk.i64_in _ (by omega)]; omega
  replace hall := Hd.mk hall
  clear hdl hpl hxl hw1 hw2
  have hse := str_empty s
  have hse3 : (s.toList == []) = decide (s.size = 0) := by rw [← hse]; congr 1; simp [ByteArray.toList_eq]
  have hse2 : s.toList.isEmpty = decide (s.size = 0) := by rw [← hse]; cases s.toList with | nil => (rw [show (ByteArray.mk #[]).toList = [] from by simp [ByteArray.toList_eq]]; rfl) | cons a l => (rw [show (ByteArray.mk #[]).toList = [] from by simp [ByteArray.toList_eq]]; rfl)
  go_enter Tryz.func15, Tryz.ntmps15
  go_upto_region 1 with fail
  generalize w.alloc (.cells #[.bool false, .slice none 0 0] 24) = w1 at *
  go_cut [4] (fun t4 wx => t4 = .bool neg ∧ w1 = wx)
  case first =>
    as_aux_lemma =>
      by_cases hz : s.size = 0
      · have hn : neg = false := by cases neg; (· rfl); (· simp only [if_true] at hun; omega)
        subst hn
        rw [decide_eq_true hz] at hse hse2 hse3
        replace hz := Hd.mk hz
        replace hun := Hd.mk hun
        go_wp2_with fail
        go_meet
        exact ⟨rfl, rfl⟩
      · rw [decide_eq_false hz] at hse hse2 hse3
        have hs0 : 0 < s.size := by omega
        have hix := ch_eq (s := s) (k := 0) hs0
        have h45 : ((ch s 0 : Int) == 45) = neg := by
          cases neg
          · simp only [Bool.false_eq_true, if_false] at hun
            have : ch s 0 ≠ 45 := fun h => hun.1 ⟨hs0, h⟩
            simp; omega
          · simp only [if_true] at hun
            rw [hun.2.1]; rfl
        generalize ch s 0 = cc at *
        replace hz := Hd.mk hz
        replace hun := Hd.mk hun
        go_wp2_with fail
        go_meet
        exact ⟨rfl, rfl⟩
  case rest =>
  obtain ⟨rfl, rfl⟩ := hcut
  clear hse hse2 hse3
  go_upto_if 17 with fail
  go_cut [0] (fun t0 wx => t0 = .string t ∧ w1 = wx)
  case first =>
    as_aux_lemma =>
      cases neg
      · simp only [Bool.false_eq_true, if_false] at hun
        obtain ⟨-, rfl⟩ := hun
        go_wp2_with fail
        go_meet
        exact ⟨rfl, rfl⟩
      · simp only [if_true] at hun
        obtain ⟨hs0, -, rfl⟩ := hun
        have hss : 1 ≤ s.size := hs0
        go_wp2_with fail
        go_meet
        exact ⟨rfl, rfl⟩
  case rest =>
  obtain ⟨rfl, rfl⟩ := hcut
  clear hun
  go_wp2
  go_loop [5, 6] (fun p i => ∃ k : Nat, k ≤ t.size ∧ i = .int .i64 k ∧ p = .int .i64 (if n0 < k then (n0 : Int) else -1)) (fun _ i => t.size - (intOf i).toNat)
  case atStart => exact ⟨0, Nat.zero_le _, rfl, by rw [if_neg (by omega)]⟩
  case round =>
    obtain ⟨k, hk, rfl, rfl⟩ := hrel
    by_cases hkt : k < t.size
    · have hlt : decide ((k : Int) < (t.size : Int)) = true := decide_eq_true (by omega)
      have hix := ch_eq (s := t) (k := k) hkt
      have hwk : IntKind.i64.wrap ((k : Int) + 1) = (k : Int) + 1 := IntWalk.i64_in _ (by omega)
      have hi0 : (0 : Int) ≤ (k : Int) := by omega
      have hi1 : (k : Int) < (t.size : Int) := by omega
      by_cases hkn : k = n0
      · as_aux_lemma =>
          subst hkn
          rw [if_neg (by omega)]
          rw [hp.out hkt] at hix
          have hfin : Hd (.int .i64 (k : Int) = Value.int .i64 (if k < k + 1 then (k : Int) else -1)) := ⟨by rw [if_pos (by omega)]⟩
          go_wp2
          go_round
          case rel => exact ⟨k + 1, by omega, by rw [Int.natCast_succ], hfin.out⟩
          case measure => simp [intOf]; omega
      · as_aux_lemma =>
          have hne : ch t k ≠ 46 := hd.out k hkt hkn
          have h46 : ((ch t k : Int) == 46) = false := by simp; omega
          have hfin : Hd ((if n0 < k then (n0 : Int) else -1) = (if n0 < k + 1 then (n0 : Int) else -1)) := ⟨by by_cases h : n0 < k; (· rw [if_pos h, if_pos (by omega)]); (· rw [if_neg h, if_neg (by omega)])⟩
          generalize ch t k = cc at *
          replace hne := Hd.mk hne
          generalize (if n0 < k then (n0 : Int) else -1) = pp at *
          go_wp2
          go_round
          case rel => exact ⟨k + 1, by omega, by rw [Int.natCast_succ], by rw [hfin.out]⟩
          case measure => simp [intOf]; omega
    · obtain rfl : k = t.size := by omega
      have hlt : decide ((t.size : Int) < (t.size : Int)) = false := decide_eq_false (by omega)
      rw [if_pos hn0]
      have hge : decide (0 ≤ (n0 : Int)) = true := decide_eq_true (by omega)
      have w1' : IntKind.i64.wrap ((t.size : Int) - (n0 : Int)) = (t.size : Int) - (n0 : Int) := IntWalk.i64_in _ (by omega)
      have w2' : IntKind.i64.wrap ((t.size : Int) - (n0 : Int) - 1) = (more : Int) := by rw [IntWalk.i64_in _ (by omega)]; omega
      have hb1 : (((more : Nat) : Int) == 0) = false := beq_false_of_ne (by omega)
      have hb2 : decide (18 < (more : Int)) = false := decide_eq_false (by omega)
      have hb3 : (((n0 : Nat) : Int) == 0) = false := beq_false_of_ne (by omega)
      have w3' : IntKind.i64.wrap ((n0 : Int) + 1) = ((n0 + 1 : Nat) : Int) := by rw [IntWalk.i64_in _ (by omega)]; omega
      have j0 : (0 : Int) ≤ (n0 : Int) := by omega
      have j1 : (n0 : Int) ≤ (t.size : Int) := by omega
      have j2 : (0 : Int) ≤ ((n0 + 1 : Nat) : Int) := by omega
      have j3 : ((n0 + 1 : Nat) : Int) ≤ (t.size : Int) := by omega
      have j4 : (((n0 + 1 : Nat) : Int)).toNat = n0 + 1 := by omega
      have j5 : ((n0 : Int)).toNat = n0 := by omega
      have j6 : (n0 : Int) + 1 ≤ (t.size : Int) := by omega
      have j7 : (0 : Int) ≤ (n0 : Int) + 1 := by omega
      have e1 := ext_size t 0 n0 (by omega)
      have e2 := ext_size t (n0 + 1) t.size (Nat.le_refl _)
      have hov : ¬ (9223372036854775807 < (t.extract 0 n0).size + (t.extract (n0 + 1) t.size).size) := by omega
      have hov2 : ¬ (9223372036854775807 < n0 + (t.size - (n0 + 1))) := by omega
      have hov3 : ¬ (9223372036854775807 < n0 - 0 + (t.size - (n0 + 1))) := by omega
      replace e1 := Hd.mk e1
      replace e2 := Hd.mk e2
      go_upto_region 17 with fail
      go_cut [0] (fun t0 wx => t0 = .string d ∧ Hd (Below w1.heap.size w1 wx))
      case first =>
        as_aux_lemma =>
          go_region
          all_goals
            go_wp2_with fail
            go_meet
            exact ⟨by first | (rw [hdd.out]; done) | (rw [hdd.out]; rfl), ⟨below_drew' (Below.refl _ _)⟩⟩
      case rest =>
      obtain ⟨rfl, hbw⟩ := hcut
      generalize wc = w2 at *
      have r2 := Hd.mk (r1.out.op hbw.out)
      clear r1
      go_upto_region 19 with (go_at_call 50; refine (hdg.out _).mono ?_; rintro e w3 ⟨b3, A3, m3, c3, rfl, hn3, hb3⟩; have r3 := Hd.mk ((r2.out.op hb3).add hn3); clear hb3 hn3)
      have r4 := Hd.mk (r3.out.box2 (b0 := b3) (A := A3) (m := m3) (c := c3))
      have l3 := (r3.out.blk _ _ hC1.out).2.lt
      have hR : Hd (updC C1 w3.heap.size [.bool b3, .slice A3 m3 c3] w.heap.size = some [.bool false, .slice none 0 0]) := ⟨by rw [updC_ne (by omega)]; exact hC1.out⟩
      have h8 : Hd (updC C1 w3.heap.size [.bool b3, .slice A3 m3 c3] w3.heap.size = some [.bool b3, .slice A3 m3 c3]) := ⟨updC_same⟩
      generalize updC C1 w3.heap.size [.bool b3, .slice A3 m3 c3] = C4 at *
      generalize w3.alloc (.cells #[.bool b3, .slice A3 m3 c3] 24) = w4 at *
      generalize w3.heap.size = t8 at *
      have hR8 : w.heap.size ≠ t8 := by omega
      refine SR.cellK r4.out h8.out ?_
      intro f0 f1 fz fy fl
      go_upto_region 21 with fail
      go_cut [] (fun wx => ∃ b A m c, ∃ C, Hd (SR w wx C [(.agg #[.bool b, .slice A m c], (Y : Int))]) ∧ Hd (C t8 = some [.bool b, .slice A m c]) ∧ Hd (C w.heap.size = some [.bool false, .slice none 0 0]))
      case first =>
        as_aux_lemma =>
          go_region_law (first
            | (go_simp; go_at_call 51; refine (hte.out _).mono ?_; rintro e w5 ⟨b5, A5, m5, c5, rfl, hn5, hb5⟩; have r5 := Hd.mk (((r4.out.drew).op hb5).add hn5); clear hb5 hn5; refine SR.cellK r5.out h8.out ?_; intro g0 g1 gz gy gl)
            | (go_simp; go_at_call 18; refine (hmu.out _ _ _ r5.out.v1 r5.out.v0).mono ?_; rintro e w6 ⟨b6, A6, m6, c6, rfl, hn6, hb6⟩; have r6 := Hd.mk ((r5.out.op hb6).add hn6); clear hb6 hn6; refine SR.cellK r6.out h8.out ?_; intro i0 i1 iz iy il))
          all_goals
            have r7 := r6.out.set (b1 := b6) (A1 := A6) (m1 := m6) (c1 := c6) h8.out
            go_wp2_with fail
            go_meet
            first
              | exact ⟨b6, A6, m6, c6, SREx1 r7 (.head _) ⟨⟨updC_same⟩, ⟨(updC_ne hR8).trans hR.out⟩⟩⟩
              | exact ⟨b6, A6, m6, c6, SREx1 r7.drew (.head _) ⟨⟨updC_same⟩, ⟨(updC_ne hR8).trans hR.out⟩⟩⟩
      case rest =>
      obtain ⟨b6, A6, m6, c6, C6, r6, h8', hR'⟩ := hcut
      clear r4 r3 h8 hR f0 f1 fz fy fl
      generalize wc = w6 at *
      go_upto_if 73 with fail
      go_cut [] (fun wx => ∃ b A m c, ∃ C, Hd (SR w wx C [(.agg #[.bool b, .slice A m c], sgX neg Y)]) ∧ Hd (C t8 = some [.bool b, .slice A m c]) ∧ Hd (C w.heap.size = some [.bool false, .slice none 0 0]))
      case first =>
        as_aux_lemma =>
          refine SR.cellK r6.out h8'.out ?_
          intro p0 p1 pz py pl
          cases neg
          · go_wp2_with fail
            go_meet
            exact ⟨b6, A6, m6, c6, C6, r6, h8', hR'⟩
          · go_wp2_with (go_at_call 29; refine (hmi.out _ _ r6.out.v0).mono ?_; rintro e w7 ⟨b7, A7, m7, c7, rfl, hn7, hb7⟩; have r7 := Hd.mk ((r6.out.op hb7).add hn7); clear hb7 hn7; refine SR.cellK r7.out h8'.out ?_; intro i0 i1 iz iy il)
            have r8 := r7.out.set (b1 := b7) (A1 := A7) (m1 := m7) (c1 := c7) h8'.out
            go_meet
            exact ⟨b7, A7, m7, c7, SREx1 r8 (.head _) ⟨⟨updC_same⟩, ⟨(updC_ne hR8).trans hR'.out⟩⟩⟩
      case rest =>
      clear h8' hR' r6
      obtain ⟨b8, A8, m8, c8, C8, r8, h8', hR'⟩ := hcut
      generalize wc = w8 at *
      have hzz : Hd ((sgX neg Y).natAbs = Y) := ⟨sgX_abs neg Y⟩
      obtain ⟨z, hz⟩ : ∃ z : Int, z = sgX neg Y := ⟨_, rfl⟩
      rw [← hz] at hzz r8
      replace hz := Hd.mk hz
      have hwz := Hd.mk fun w1 v1 (q : NumV w1 v1 z) => hwi.out w1 v1 z hzz.out q
      obtain ⟨dc, hdc⟩ : ∃ dc : Bool, dc = decide ((z.natAbs : Int) ≤ mostZ) := ⟨_, rfl⟩
      rw [← hdc] at hwz
      replace hdc := Hd.mk hdc
      refine SR.cellK r8.out h8'.out ?_
      intro f0 f1 fz fy fl
      refine SR.cellK r8.out hR'.out ?_
      intro q0 q1 qz qy ql
      go_upto_region 24 with fail
      go_region_law (first
        | (go_simp; go_at_call 17; refine (hwz.out _ _ (r8.out.drew).v0).mono ?_; rintro e w9 ⟨rfl, hb9⟩; have r9 := Hd.mk ((r8.out.drew).op hb9); clear hb9; refine SR.cellK r9.out h8'.out ?_; intro g0 g1 gz gy gl; refine SR.cellK r9.out hR'.out ?_; intro k0 k1 kz ky kl))
      all_goals
        have r10 := r9.out.set (b1 := b8) (A1 := A8) (m1 := m8) (c1 := c8) hR'.out
        have hf := Hd.mk (And.intro r10.v0 r10.bel)
        clear r10
        go_wp2
        refine bodyPost_ret (v := .tuple #[.agg #[.bool b8, .slice A8 m8 c8], .bool dc]) (by simp [results, Tryz.results15, go_sem, k0, k1, kz, ky, kl]) rfl ?_
        unfold ParsedR
        first
          | exact ⟨b8, A8, m8, c8, by rw [hdc.out, hz.out], by rw [← hz.out]; exact hf.out.1, hf.out.2⟩
          | exact ⟨b8, A8, m8, c8, by rw [hdc.out, hz.out], by rw [← hz.out]; exact hf.out.1.below (below_drew _), below_drew' hf.out.2⟩
end Go.Proofs.YtmamfidjigmahaaGreatDoor
end

section
namespace Go.Proofs.YtmamfidjigmahaaGreatDoor
open Go.RowKit
set_option maxRecDepth 100000
set_option maxHeartbeats 2000000 in
theorem DecParseC_err (bs bu bk : Nat) (s : ByteArray) (w : World) (hok : Ok w) (her : Er w) (hb : Blk w bs 9 [.string s]) (hf : ∀ w1, Ok w1 → Er w1 → Calls Tryz.prog 48 #[.string s] w1 fun e w' => FErr w1 e w') :
    Calls Tryz.prog 47 #[ptr bs, ptr bu, ptr bk] w fun e w' => e = .returned (.tuple #[]) ∧ Below w.heap.size w w' := by
  have cs := hb.cell 0
  simp only [List.getElem?_cons_zero] at cs
  have hf0 := Hd.mk (hf w hok her)
  have hnn := err_nil
  clear hf hok her
  replace hb := Hd.mk hb
  go_enter Tryz.func47, Tryz.ntmps47
  go_wp2_with (go_at_call 48; refine hf0.out.mono ?_; rintro e w2 ⟨a, rfl, hb2⟩; replace hb2 := Hd.mk hb2)
  go_end0
  exact ⟨rfl, hb2.out.alloc hb2.out.size _⟩
set_option maxHeartbeats 2000000 in
theorem DecParse_err (s : ByteArray) (w : World) (hok : Ok w) (her : Er w)
    (hf : ∀ w1, Ok w1 → Er w1 → Calls Tryz.prog 48 #[.string s] w1 fun e w' => FErr w1 e w') :
    Calls Tryz.prog 13 #[.string s] w fun e w' => e = .returned (.tuple #[.string (ByteArray.mk #[]), .bool false]) ∧ Below w.heap.size w w' := by
  obtain ⟨h1, h2, h3⟩ := paW_blk w s
  have hb1 := paW_below w s
  have hs1 : (paW w s).heap.size = w.heap.size + 3 := by simp only [World.size_alloc]
  have h100 := hok.2
  generalize hW : paW w s = w1 at *
  have hb2 : Below w1.heap.size w1 (okW w1) := (Below.refl _ _).alloc (Nat.le_refl _) _
  have hb3 := hb1.trans (hb2.mono hb1.size)
  have hs2 : (okW w1).heap.size = w1.heap.size + 1 := World.size_alloc _ _
  have hc := DecParseC_err w.heap.size (w.heap.size + 1) (w.heap.size + 2) s (okW w1) (hok.below hb3) (her.below hb3) (h1.alloc _) hf
  have hsf := Hd.mk (safe_ok 47 _ w1 (fun w2 => Below (okW w1).heap.size (okW w1) w2) (enters Tryz.func47 (by kernel_rfl) (by kernel_rfl)) (hc.mono fun e w2 ⟨q2, q1⟩ => ⟨q2, q1.block _ (by omega), q1⟩))
  have hfin : Hd (∀ w2 w3, Below (okW w1).heap.size (okW w1) w2 → Put w2 w3 w1.heap.size 4 [.bool true] → Below w.heap.size w w3 ∧ Blk w3 (w.heap.size + 1) 9 [.string (ByteArray.mk #[])] ∧ Blk w3 (w.heap.size + 2) 4 [.bool false]) := ⟨fun w2 w3 q1 q2 => ⟨q2.bel (hb3.trans (q1.mono hb3.size)) hb1.size, q2.blk ((h2.alloc _).of_heap (q1.block _ (by omega))) (by omega), q2.blk ((h3.alloc _).of_heap (q1.block _ (by omega))) (by omega)⟩⟩
  have hmf : ∀ (fn : Fn) (first cap : Array Value) (w : World), (Instr.makeFunc fn first cap).run Tryz.prog w = .ok (.func fn first cap) w := fun _ _ _ _ => rfl
  clear hf hc h1 h2 h3 hb1 hb2 hb3 hok her
  go_enter Tryz.func13, Tryz.ntmps13
  go_wp2_with fail
  refine hsf.out.mono ?_
  rintro e w3 ⟨rfl, w2, hc2, hp3⟩
  obtain ⟨hb3, hu3, hk3⟩ := hfin.out w2 w3 hc2 hp3
  have cu : w3.cell? ⟨w.heap.size + 1, 0, none⟩ = some (.string (ByteArray.mk #[])) := hu3.cell 0
  have ck : w3.cell? ⟨w.heap.size + 1 + 1, 0, none⟩ = some (.bool false) := hk3.cell 0
  have zu : w3.frozen? ⟨w.heap.size + 1, 0, none⟩ = false := hu3.frozen 0
  have zk : w3.frozen? ⟨w.heap.size + 1 + 1, 0, none⟩ = false := hk3.frozen 0
  have lu : w.heap.size + 1 < w3.heap.size := hu3.lt
  have lk : w.heap.size + 1 + 1 < w3.heap.size := hk3.lt
  replace hb3 := Hd.mk hb3
  clear hu3 hk3 hc2 hp3 hsf hfin
  go_wp2
  refine bodyPost_ret (v := .tuple #[.string (ByteArray.mk #[]), .bool false]) (by simp [results, Tryz.results13, go_sem, cu, ck, zu, zk, lu, lk]) rfl ⟨rfl, ?_⟩
  (repeat first | exact hb3.out | refine Below.setCell ?_ (by dsimp only; omega) _)
/-- The signs that a text may not have. -/
def sgn2 (s : ByteArray) (k : Nat) : Prop := ch s k = 43 ∨ ch s k = 95 ∨ (ch s k = 45 ∧ 0 < k)
set_option maxHeartbeats 4000000 in
theorem signs_no (s : ByteArray) (w : World) (hs : s.size < 200) (hn : ∀ k, k < s.size → ¬ sgn2 s k) : Calls Tryz.prog 14 #[.string s] w fun e w' => e = .returned (.bool false) ∧ w = w' := by
  replace hn := Hd.mk hn
  go_enter Tryz.func14, Tryz.ntmps14
  go_wp2
  go_loop [3] (fun i => ∃ k : Nat, k ≤ s.size ∧ i = .int .i64 k) (fun i => s.size - (intOf i).toNat)
  case atStart => exact ⟨0, Nat.zero_le _, rfl⟩
  case round =>
    obtain ⟨k, hk, rfl⟩ := hrel
    by_cases hkt : k < s.size
    · have hlt : decide ((k : Int) < (s.size : Int)) = true := decide_eq_true (by omega)
      have hix := ch_eq (s := s) (k := k) hkt
      have hwk : IntKind.i64.wrap ((k : Int) + 1) = (k : Int) + 1 := IntWalk.i64_in _ (by omega)
      have hi0 : (0 : Int) ≤ (k : Int) := by omega
      have hi1 : (k : Int) < (s.size : Int) := by omega
      have hno := hn.out k hkt
      unfold sgn2 at hno
      generalize ch s k = cc at *
      have b1 : ((cc : Int) == 43) = false := beq_false_of_ne (by omega)
      have b2 : ((cc : Int) == 95) = false := beq_false_of_ne (by omega)
      by_cases h45 : cc = 45
      · have b3 : ((cc : Int) == 45) = true := by rw [h45]; rfl
        have hk0 : decide (0 < (k : Int)) = false := decide_eq_false (by omega)
        have hk1 : k = 0 := by omega
        replace hno := Hd.mk hno
        replace h45 := Hd.mk h45
        subst hk1
        go_wp2
        go_round
        case rel => exact ⟨0 + 1, by omega, rfl⟩
        case measure => simp [intOf]; omega
      · have b3 : ((cc : Int) == 45) = false := beq_false_of_ne (by omega)
        replace hno := Hd.mk hno
        replace h45 := Hd.mk h45
        go_wp2
        go_round
        case rel => exact ⟨k + 1, by omega, by rw [Int.natCast_succ]⟩
        case measure => simp [intOf]; omega
    · obtain rfl : k = s.size := by omega
      have hlt : decide ((s.size : Int) < (s.size : Int)) = false := decide_eq_false (by omega)
      go_wp2
      go_ret
      exact ⟨rfl, rfl⟩
set_option maxHeartbeats 4000000 in
theorem signs_yes (s : ByteArray) (n : Nat) (w : World) (hs : s.size < 200) (hns : n < s.size) (hy : sgn2 s n) (hn : ∀ k, k < n → ¬ sgn2 s k) : Calls Tryz.prog 14 #[.string s] w fun e w' => e = .returned (.bool true) ∧ w = w' := by
  replace hn := Hd.mk hn
  replace hy := Hd.mk hy
  go_enter Tryz.func14, Tryz.ntmps14
  go_wp2
  go_loop [3] (fun i => ∃ k : Nat, k ≤ n ∧ i = .int .i64 k) (fun i => s.size - (intOf i).toNat)
  case atStart => exact ⟨0, Nat.zero_le _, rfl⟩
  case round =>
    obtain ⟨k, hk, rfl⟩ := hrel
    have hkt : k < s.size := by omega
    have hlt : decide ((k : Int) < (s.size : Int)) = true := decide_eq_true (by omega)
    have hix := ch_eq (s := s) (k := k) hkt
    have hwk : IntKind.i64.wrap ((k : Int) + 1) = (k : Int) + 1 := IntWalk.i64_in _ (by omega)
    have hi0 : (0 : Int) ≤ (k : Int) := by omega
    have hi1 : (k : Int) < (s.size : Int) := by omega
    by_cases hkn : k = n
    · subst hkn
      have hyy := hy.out
      unfold sgn2 at hyy
      rcases hyy with h | h | ⟨h, h0⟩
      · rw [h] at hix
        replace h := Hd.mk h
        go_wp2
        go_ret
        exact ⟨rfl, rfl⟩
      · rw [h] at hix
        replace h := Hd.mk h
        go_wp2
        go_ret
        exact ⟨rfl, rfl⟩
      · rw [h] at hix
        replace h := Hd.mk h
        have hk0 : decide (0 < (k : Int)) = true := decide_eq_true (by omega)
        go_wp2
        go_ret
        exact ⟨rfl, rfl⟩
    · have hno := hn.out k (by omega)
      unfold sgn2 at hno
      generalize ch s k = cc at *
      have b1 : ((cc : Int) == 43) = false := beq_false_of_ne (by omega)
      have b2 : ((cc : Int) == 95) = false := beq_false_of_ne (by omega)
      by_cases h45 : cc = 45
      · have b3 : ((cc : Int) == 45) = true := by rw [h45]; rfl
        have hk1 : k = 0 := by omega
        replace hno := Hd.mk hno
        replace h45 := Hd.mk h45
        subst hk1
        go_wp2
        go_round
        case rel => exact ⟨0 + 1, by omega, rfl⟩
        case measure => simp [intOf]; omega
      · have b3 : ((cc : Int) == 45) = false := beq_false_of_ne (by omega)
        replace hno := Hd.mk hno
        replace h45 := Hd.mk h45
        go_wp2
        go_round
        case rel => exact ⟨k + 1, by omega, by rw [Int.natCast_succ]⟩
        case measure => simp [intOf]; omega
end Go.Proofs.YtmamfidjigmahaaGreatDoor
end

section
namespace Go.Proofs.YtmamfidjigmahaaGreatDoor
open Go.RowKit
set_option maxRecDepth 100000
theorem ch_app_l {A B : ByteArray} {k : Nat} (h : k < A.size) : ch (A ++ B) k = ch A k := by
  unfold ch
  rw [bts_append, List.getD_eq_getElem?_getD, List.getElem?_append_left (by rw [bts_length]; exact h), ← List.getD_eq_getElem?_getD]
theorem size_app (A B : ByteArray) : (A ++ B).size = A.size + B.size := by rw [← bts_length, bts_append, List.length_append, bts_length, bts_length]
theorem zeros_size (n : Nat) : (zeros n).size = n := by rw [← bts_length, bts_zeros, List.length_replicate]
theorem mem_bts {s : ByteArray} {b : Nat} (h : b ∈ bts s) : ∃ j, j < s.size ∧ ch s j = b := by
  obtain ⟨j, hj, e⟩ := List.getElem_of_mem h
  refine ⟨j, by rwa [bts_length] at hj, ?_⟩
  unfold ch
  rw [List.getD_eq_getElem?_getD, List.getElem?_eq_getElem hj, e]
  rfl
theorem spl_ne {t : ByteArray} {l : List ByteArray} (h : Spl t l) : l ≠ [] := by cases h <;> simp
theorem spl_len {t : ByteArray} {l : List ByteArray} (h : Spl t l) : l.length ≤ t.size + 1 := by
  induction h with
  | one s h => simp
  | more s i l h1 h2 h3 h4 ih =>
    rw [ext_size _ _ _ (Nat.le_refl _)] at ih
    simp only [List.length_cons]; omega
/-- No sign stands in a text behind its own. -/
theorem unm_nos {s t : ByteArray} {neg : Bool} (hun : unm s = (neg, t)) (hn : ∀ k, k < s.size → ¬ sgn2 s k) {j : Nat} (hj : j < t.size) : ch t j ≠ 43 ∧ ch t j ≠ 45 := by
  have h := unm_cases s hun
  cases neg
  · simp only [Bool.false_eq_true, if_false] at h
    obtain ⟨h1, rfl⟩ := h
    have h2 := hn j hj
    unfold sgn2 at h2
    refine ⟨by omega, fun e => ?_⟩
    rcases Nat.eq_zero_or_pos j with h3 | h3
    · subst h3; exact h1 ⟨by omega, e⟩
    · exact h2 (.inr (.inr ⟨e, h3⟩))
  · simp only [if_true] at h
    obtain ⟨h0, -, rfl⟩ := h
    rw [ext_size _ _ _ (Nat.le_refl _)] at hj
    rw [ch_ext _ _ _ _ (Nat.le_refl _) (by omega)]
    have h2 := hn (1 + j) (by omega)
    unfold sgn2 at h2
    omega
theorem sgP_zero {d : ByteArray} (h1 : ch d 0 ≠ 43) (h2 : ch d 0 ≠ 45) : (sgP d).2 = 0 := by
  unfold sgP
  rw [if_neg h2, if_neg h1]
theorem inR_most (x : Int) : inR x = decide ((x.natAbs : Int) ≤ mostZ) := by
  rw [most_lim]
  unfold inR
  by_cases h : (x.natAbs : Int) ≤ lim
  · rw [decide_eq_true h]; exact decide_eq_true (by omega)
  · rw [decide_eq_false h]; exact decide_eq_false (by omega)
/-- The two answers that fit each other. -/
def PGood (s : ByteArray) (x : Int) : Prop :=
  (∀ w, Ok w → Er w → Calls Tryz.prog 13 #[.string s] w fun e w' => e = .returned (.tuple #[.string (zT x), .bool true]) ∧ Below w.heap.size w w') ∧
  (∀ w, Calls Tryz.prog 15 #[.string s] w fun e w' => ∃ b A n c, e = .returned (.tuple #[.agg #[.bool b, .slice A n c], .bool true]) ∧ NumV w' (.agg #[.bool b, .slice A n c]) x ∧ Below w.heap.size w w')
def PBad (s : ByteArray) : Prop :=
  (∀ w, Ok w → Er w → Calls Tryz.prog 13 #[.string s] w fun e w' => e = .returned (.tuple #[.string (ByteArray.mk #[]), .bool false]) ∧ Below w.heap.size w w') ∧
  (∀ w, Calls Tryz.prog 15 #[.string s] w fun e w' => ∃ b A n c, e = .returned (.tuple #[.agg #[.bool b, .slice A n c], .bool false]) ∧ Below w.heap.size w w')
theorem PBad.mk2 {s : ByteArray} (h1 : ∀ w1, Ok w1 → Er w1 → Calls Tryz.prog 48 #[.string s] w1 fun e w' => FErr w1 e w')
    (h2 : ∀ w, Calls Tryz.prog 15 #[.string s] w fun e w' => e = .returned (.tuple #[.agg #[.bool false, .slice none 0 0], .bool false]) ∧ Below w.heap.size w w') : PBad s :=
  ⟨fun w a b => DecParse_err s w a b h1, fun w => (h2 w).mono fun e w' ⟨he, hb⟩ => ⟨_, _, _, _, he, hb⟩⟩
theorem ParsedR.good {s : ByteArray} {x : Int} (hx : inR x = true) (h : ∀ w, Calls Tryz.prog 15 #[.string s] w fun e w' => ParsedR w x e w') :
    ∀ w, Calls Tryz.prog 15 #[.string s] w fun e w' => ∃ b A n c, e = .returned (.tuple #[.agg #[.bool b, .slice A n c], .bool true]) ∧ NumV w' (.agg #[.bool b, .slice A n c]) x ∧ Below w.heap.size w w' := fun w =>
  (h w).mono fun e w' ⟨b, A, n, c, he, hn, hb⟩ => ⟨b, A, n, c, by rw [he, ← inR_most, hx], hn, hb⟩
theorem ParsedR.bad {s : ByteArray} {x : Int} (hx : inR x = false) (h : ∀ w, Calls Tryz.prog 15 #[.string s] w fun e w' => ParsedR w x e w') :
    ∀ w, Calls Tryz.prog 15 #[.string s] w fun e w' => ∃ b A n c, e = .returned (.tuple #[.agg #[.bool b, .slice A n c], .bool false]) ∧ Below w.heap.size w w' := fun w =>
  (h w).mono fun e w' ⟨b, A, n, c, he, hn, hb⟩ => ⟨b, A, n, c, by rw [he, ← inR_most, hx], hb⟩
theorem outcome (s : ByteArray) (hs : s.size < 120) (hnos : ∀ k, k < s.size → ¬ sgn2 s k) : (∃ x, inR x = true ∧ PGood s x) ∨ PBad s := by
  obtain ⟨neg, t, hun⟩ : ∃ neg t, unm s = (neg, t) := ⟨_, _, rfl⟩
  have hts : t.size ≤ s.size := by have := unm_size s; rw [hun] at this; exact this
  have hns : ∀ j, j < t.size → ch t j ≠ 43 ∧ ch t j ≠ 45 := fun j hj => unm_nos hun hnos hj
  by_cases h0 : t.size = 0
  · right
    exact .mk2 (fun w a b => FromStr_empty s t neg w a b hs hun h0) (fun w => parsed_nod1 s t neg w hs hun (fun k hk => by omega) (by omega) (.inl h0))
  obtain ⟨l, hsp⟩ := spl_ex t.size t (Nat.le_refl _)
  have hsp0 := hsp
  cases hsp with
  | one _ hno =>
    by_cases hall : ∀ j, j < t.size → isD (ch t j)
    · have hD : ∀ b, b ∈ bts t → isD b := fun b hb => by
        obtain ⟨j, hj, e⟩ := mem_bts hb
        rw [← e]; exact hall j hj
      have hnum : nums (bts t ++ List.replicate 18 48) = dn t 0 t.size * 10 ^ 18 := by rw [nums_app, nums_zeros, List.length_replicate, ← dn_all, Nat.add_zero]
      have hpd := fun w => parsed_dig1 s t neg w hs hun hno (by omega) h0 hall
      cases hin : inR (sgX neg (dn t 0 t.size * 10 ^ 18)) with
      | true =>
        left
        refine ⟨_, hin, fun w a b => DecParse_ok s _ w a b hin fun w1 a1 b1 => ?_, ParsedR.good hin hpd⟩
        have hdz : decZ neg t (ByteArray.mk #[]) = (sgX neg (dn t 0 t.size * 10 ^ 18)) := by
          unfold decZ
          rw [show bts (ByteArray.mk #[]) = [] from rfl, List.append_nil, show 18 - (ByteArray.mk #[]).size = 18 from rfl, hnum]
          rfl
        have h := FromStr_ok s t t (ByteArray.mk #[]) neg false w1 a1 b1 hs hun hsp0 h0 rfl (by decide) (fun b hb => by rw [show bts (ByteArray.mk #[]) = [] from rfl, List.append_nil] at hb; exact hD b hb) (by rw [hdz]; exact hin)
        rwa [hdz] at h
      | false =>
        right
        refine ⟨fun w a b => DecParse_err s w a b fun w1 a1 b1 => FromStr_over1 s t neg w1 a1 b1 hs hun h0 t hsp0 hD ?_, ParsedR.bad hin hpd⟩
        rw [hnum]; exact hin
    · right
      have hbad : ∃ j, j < t.size ∧ ¬ isD (ch t j) := by
        refine Classical.byContradiction fun hc => hall fun j hj => Classical.byContradiction fun hd => hc ⟨j, hj, hd⟩
      refine .mk2 (fun w a b => FromStr_bad1 s t neg w a b hs hun h0 t hsp0 ?_ ?_) (fun w => parsed_nod1 s t neg w hs hun hno (by omega) (.inr hbad))
      · have h1 := hns 0 (by omega)
        rw [← ch_app_l (B := zeros 18) (by omega : 0 < t.size)] at h1
        exact sgP_zero h1.1 h1.2
      · obtain ⟨j, hj, hd⟩ := hbad
        exact ⟨j, by rw [size_app]; omega, by rw [ch_app_l hj]; exact hd⟩
  | more _ i l' hi hd hi46 hsp' =>
    have hFs := ext_size t (i + 1) t.size (Nat.le_refl _)
    have hAs := ext_size t 0 i (by omega)
    generalize hA : t.extract 0 i = A at *
    generalize hF : t.extract (i + 1) t.size = F at *
    cases hsp' with
    | one _ hnoF =>
      have hp : Hd (i < t.size → ch t i = 46) := ⟨fun _ => hi46⟩
      have hde : Hd (∀ k, k < t.size → k ≠ i → ch t k ≠ 46) := ⟨fun k hk hne => by
        rcases Nat.lt_or_ge k i with h | h
        · exact hd k h
        · have := hnoF (k - (i + 1)) (by omega)
          rw [← hF, ch_ext _ _ _ _ (Nat.le_refl _) (by omega), show i + 1 + (k - (i + 1)) = k by omega] at this
          exact this⟩
      have hm : F.size + i + 1 = t.size := by omega
      by_cases hF0 : F.size = 0
      · right
        exact .mk2 (fun w a b => FromStr_noF s t neg w a b hs hun h0 A F hsp0 hF0) (fun w => parsed_noF s t neg w hs hun i F.size hi hp hde hm hF0)
      by_cases hF18 : 18 < F.size
      · right
        by_cases hA0 : A.size = 0
        · exact .mk2 (fun w a b => FromStr_noA s t neg w a b hs hun h0 A F hsp0 hF0 hA0) (fun w => parsed_long s t neg w hs hun i F.size hi hp hde hm hF18)
        · exact .mk2 (fun w a b => FromStr_long s t neg w a b hs hun h0 A F hsp0 hA0 hF18) (fun w => parsed_long s t neg w hs hun i F.size hi hp hde hm hF18)
      have hF18 : F.size ≤ 18 := by omega
      by_cases hA0 : A.size = 0
      · right
        exact .mk2 (fun w a b => FromStr_noA s t neg w a b hs hun h0 A F hsp0 hF0 hA0) (fun w => parsed_noA s t neg w hs hun i F.size hi hp hde hm hF0 hF18 (by omega))
      have hdd : Hd (A ++ F = t.extract 0 i ++ t.extract (i + 1) t.size) := ⟨by rw [hA, hF]⟩
      have hds : (A ++ F).size = A.size + F.size := size_app A F
      by_cases hall : ∀ j, j < (A ++ F).size → isD (ch (A ++ F) j)
      · have hD : ∀ b, b ∈ bts A ++ bts F → isD b := fun b hb => by
          rw [← bts_append] at hb
          obtain ⟨j, hj, e⟩ := mem_bts hb
          rw [← e]; exact hall j hj
        have hnum : nums (bts A ++ bts F ++ List.replicate (18 - F.size) 48) = dn (A ++ F) 0 (A ++ F).size * 10 ^ (18 - F.size) := by rw [nums_app, nums_zeros, List.length_replicate, ← bts_append, ← dn_all, Nat.add_zero]
        have hpd := fun w => parsed_dig2 s t neg w hs hun i F.size hi hp hde hm hF0 hF18 (by omega) (A ++ F) hdd (by omega) (by omega) hall
        cases hin : inR (sgX neg (dn (A ++ F) 0 (A ++ F).size * 10 ^ (18 - F.size))) with
        | true =>
          left
          refine ⟨_, hin, fun w a b => DecParse_ok s _ w a b hin fun w1 a1 b1 => ?_, ParsedR.good hin hpd⟩
          have hdz : decZ neg A F = (sgX neg (dn (A ++ F) 0 (A ++ F).size * 10 ^ (18 - F.size))) := by
            unfold decZ
            rw [hnum]
            rfl
          have h := FromStr_ok s t A F neg true w1 a1 b1 hs hun hsp0 hA0 (by rw [if_pos rfl]; exact hF0) hF18 hD (by rw [hdz]; exact hin)
          rwa [hdz] at h
        | false =>
          right
          refine ⟨fun w a b => DecParse_err s w a b fun w1 a1 b1 => FromStr_over2 s t neg w1 a1 b1 hs hun h0 A F hsp0 hA0 hF0 hF18 hD ?_, ParsedR.bad hin hpd⟩
          rw [hnum]; exact hin
      · right
        have hbad : ∃ j, j < (A ++ F).size ∧ ¬ isD (ch (A ++ F) j) := by
          refine Classical.byContradiction fun hc => hall fun j hj => Classical.byContradiction fun hd => hc ⟨j, hj, hd⟩
        refine .mk2 (fun w a b => FromStr_bad2 s t neg w a b hs hun h0 A F hsp0 hA0 hF0 hF18 ?_ ?_) (fun w => parsed_nod2 s t neg w hs hun i F.size hi hp hde hm hF0 hF18 (by omega) (A ++ F) hdd (by omega) (.inr hbad))
        · have h1 := hns 0 (by omega)
          have e : ch (A ++ F ++ zeros (18 - F.size)) 0 = ch t 0 := by
            rw [ch_app_l (by omega : 0 < (A ++ F).size), ch_app_l (by omega : 0 < A.size), ← hA, ch_ext _ _ _ _ (by omega) (by omega)]
          rw [← e] at h1
          exact sgP_zero h1.1 h1.2
        · obtain ⟨j, hj, hd⟩ := hbad
          exact ⟨j, by rw [size_app]; omega, by rw [ch_app_l hj]; exact hd⟩
    | more _ i2 l'' hi2 hd2 hi46' hsp'' =>
      right
      rw [hFs] at hi2
      have hn1 : ch t (i + 1 + i2) = 46 := by rw [← hi46', ← hF, ch_ext _ _ _ _ (Nat.le_refl _) (by omega)]
      have hlen := spl_len hsp0
      have hne := spl_ne hsp''
      refine .mk2 (fun w a b => FromStr_many s t neg w a b hs hun h0 _ hsp0 ?_ (by omega)) (fun w => parsed_many s t neg w hs hun i (i + 1 + i2) (by omega) (by omega) hi46 hn1 fun k hk hne => ?_)
      · cases l'' with
        | nil => exact absurd rfl hne
        | cons a l => simp
      · rcases Nat.lt_or_ge k i with h | h
        · exact hd k h
        · have := hd2 (k - (i + 1)) (by omega)
          rw [← hF, ch_ext _ _ _ _ (Nat.le_refl _) (by omega), show i + 1 + (k - (i + 1)) = k by omega] at this
          exact this
end Go.Proofs.YtmamfidjigmahaaGreatDoor
end

section
namespace Go.Proofs.YtmamfidjigmahaaGreatDoor
open Go.RowKit
set_option maxRecDepth 100000
theorem least {P : Nat → Prop} : ∀ n, (∃ k, k < n ∧ P k) → ∃ m, m < n ∧ P m ∧ ∀ k, k < m → ¬ P k
  | 0, ⟨k, h, _⟩ => absurd h (Nat.not_lt_zero k)
  | n + 1, h => by
    by_cases h2 : ∃ k, k < n ∧ P k
    · obtain ⟨m, h3, h4, h5⟩ := least n h2
      exact ⟨m, by omega, h4, h5⟩
    · obtain ⟨k, hk, hp⟩ := h
      have : k = n := by
        rcases Nat.lt_or_ge k n with h3 | h3
        · exact absurd ⟨k, h3, hp⟩ h2
        · omega
      subst this
      exact ⟨k, hk, hp, fun j hj hpj => h2 ⟨j, hj, hpj⟩⟩
set_option maxHeartbeats 4000000 in
theorem parses_walk (a : ByteArray) (w : World) (hok : Ok w) (her : Er w) :
    Calls Tryz.prog 4 #[.string a] w fun e w' => e = .returned (.bool true) ∧ Below w.heap.size w w' := by
  have hal := Hd.mk alive_any
  by_cases h1 : 2147483647 < a.size
  · have d1 : decide ((2147483647 : Int) < (a.size : Int)) = true := decide_eq_true (by omega)
    go_enter Tryz.func4, Tryz.ntmps4
    go_wp2
    go_ret
    exact ⟨rfl, Below.refl _ _⟩
  have d1 : decide ((2147483647 : Int) < (a.size : Int)) = false := decide_eq_false (by omega)
  by_cases h2 : 110 < a.size
  · have d2 : decide ((110 : Int) < (a.size : Int)) = true := decide_eq_true (by omega)
    go_enter Tryz.func4, Tryz.ntmps4
    go_wp2_with (go_at_call 11; refine (hal.out _ hok her).mono ?_; rintro e w9 ⟨rfl, hb9⟩; replace hb9 := Hd.mk hb9)
    go_ret
    exact ⟨rfl, hb9.out⟩
  have d2 : decide ((110 : Int) < (a.size : Int)) = false := decide_eq_false (by omega)
  by_cases h3 : ∃ k, k < a.size ∧ sgn2 a k
  · obtain ⟨m, hm, hy, hn⟩ := least a.size h3
    have hsy := Hd.mk fun w1 => signs_yes a m w1 (by omega) hm hy hn
    clear hy hn h3
    go_enter Tryz.func4, Tryz.ntmps4
    go_wp2_with (first
      | (go_at_call 14; refine (hsy.out _).mono ?_; rintro e w2 ⟨rfl, rfl⟩)
      | (go_at_call 11; refine (hal.out _ hok her).mono ?_; rintro e w9 ⟨rfl, hb9⟩; replace hb9 := Hd.mk hb9))
    go_ret
    exact ⟨rfl, hb9.out⟩
  have hnos : ∀ k, k < a.size → ¬ sgn2 a k := fun k hk hs => h3 ⟨k, hk, hs⟩
  have hsn := Hd.mk fun w1 => signs_no a w1 (by omega) hnos
  rcases outcome a (by omega) hnos with ⟨x, hx, hg⟩ | hb
  · have hde := Hd.mk hg.1
    have hsp := Hd.mk hg.2
    have hxl := of_decide_eq_true hx
    have htx := Hd.mk fun w1 v1 (q : NumV w1 v1 x) => text_any v1 x w1 q (by have := wlq (x := x) (by omega); omega)
    generalize zT x = sx at *
    replace hxl := Hd.mk hxl
    replace hx := Hd.mk hx
    replace hg := Hd.mk hg
    clear h3 hnos
    go_enter Tryz.func4, Tryz.ntmps4
    go_upto_region 6 with (first
      | (go_at_call 14; refine (hsn.out _).mono ?_; rintro e w2 ⟨rfl, rfl⟩)
      | (go_at_call 15; refine (hsp.out _).mono ?_; rintro e w3 ⟨b3, A3, m3, c3, rfl, hn3, hb3⟩; replace hn3 := Hd.mk hn3; replace hb3 := Hd.mk hb3))
    have hba : Below w3.heap.size w3 (w3.alloc (.cells #[.bool b3, .slice A3 m3 c3] 24)) := (Below.refl _ _).alloc (Nat.le_refl _) _
    have hbk := Blk.new w3 #[.bool b3, .slice A3 m3 c3] 24
    have e0 := hbk.cell 0
    have e1 := hbk.cell 1
    simp only [List.getElem?_cons_succ, List.getElem?_cons_zero] at e0 e1
    have hn4 := Hd.mk (hn3.out.below hba)
    have hb4 := Hd.mk (hb3.out.trans (hba.mono hb3.out.size))
    generalize w3.alloc (.cells #[.bool b3, .slice A3 m3 c3] 24) = w4 at *
    replace hbk := Hd.mk hbk
    clear hba
    go_wp2_with (first
      | (go_at_call 13; refine (hde.out _ (hok.below hb4.out) (her.below hb4.out)).mono ?_; rintro e w5 ⟨rfl, hb5⟩; have f0 := cb hb5 e0; have f1 := cb hb5 e1; have hn5 := Hd.mk (hn4.out.below hb5); have hb6 := Hd.mk (hb4.out.trans (hb5.mono hb4.out.size)); clear hb5)
      | (go_at_call 11; refine (hal.out _ (hok.below hb6.out) (her.below hb6.out)).mono ?_; rintro e w7 ⟨rfl, hb7⟩; have g0 := cb hb7 f0; have g1 := cb hb7 f1; have hn7 := Hd.mk (hn5.out.below hb7); have hb8 := Hd.mk (hb6.out.trans (hb7.mono hb6.out.size)); clear hb7)
      | (go_at_call 16; refine (htx.out _ _ hn7.out).mono ?_; rintro e w9 ⟨rfl, hb9⟩; have hb10 := Hd.mk (hb8.out.trans (hb9.mono hb8.out.size)); clear hb9))
    go_ret
    exact ⟨by simp, hb10.out⟩
  · have hde := Hd.mk hb.1
    have hsp := Hd.mk hb.2
    replace hb := Hd.mk hb
    clear h3 hnos
    go_enter Tryz.func4, Tryz.ntmps4
    go_upto_region 6 with (first
      | (go_at_call 14; refine (hsn.out _).mono ?_; rintro e w2 ⟨rfl, rfl⟩)
      | (go_at_call 15; refine (hsp.out _).mono ?_; rintro e w3 ⟨b3, A3, m3, c3, rfl, hb3⟩; replace hb3 := Hd.mk hb3))
    have hb4 := Hd.mk (hb3.out.alloc hb3.out.size (.cells #[.bool b3, .slice A3 m3 c3] 24))
    generalize w3.alloc (.cells #[.bool b3, .slice A3 m3 c3] 24) = w4 at *
    go_wp2_with (first
      | (go_at_call 13; refine (hde.out _ (hok.below hb4.out) (her.below hb4.out)).mono ?_; rintro e w5 ⟨rfl, hb5⟩; have hb6 := Hd.mk (hb4.out.trans (hb5.mono hb4.out.size)); clear hb5)
      | (go_at_call 11; refine (hal.out _ (hok.below hb6.out) (her.below hb6.out)).mono ?_; rintro e w7 ⟨rfl, hb7⟩; have hb8 := Hd.mk (hb6.out.trans (hb7.mono hb6.out.size)); clear hb7))
    go_ret
    exact ⟨rfl, hb8.out⟩
end Go.Proofs.YtmamfidjigmahaaGreatDoor
end
