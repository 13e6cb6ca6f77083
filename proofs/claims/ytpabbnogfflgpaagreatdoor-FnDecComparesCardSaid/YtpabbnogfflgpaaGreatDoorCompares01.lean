/- FnDecCompares: the walk. Conditions: those that each theorem states. -/
import Derived.Test.YtpabbnogfflgpaaGreatDoorCmp
import Derived.Test.YtpabbnogfflgpaaGreatDoorBase31
import Derived.Test.YtpabbnogfflgpaaGreatDoorBase28
set_option linter.all false

namespace Go.Proofs.YtpabbnogfflgpaaGreatDoor
open Go.RowKit
set_option maxRecDepth 100000
/-- A text of a decimal in range. -/
def Pt (s : ByteArray) : Prop := ∃ x : Int, s = zT x ∧ inR x = true
def sameK (n m : Nat) (s t : Nat → ByteArray) (k : Nat) : Bool := decide (n = m) && (List.range k).all fun i => decide (s i = t i)
theorem sameK_zero (n m : Nat) (s t : Nat → ByteArray) : sameK n m s t 0 = decide (n = m) := by simp [sameK]
theorem sameK_succ (n m : Nat) (s t : Nat → ByteArray) (k : Nat) : sameK n m s t (k + 1) = (sameK n m s t k && decide (s k = t k)) := by
  unfold sameK
  rw [List.range_succ, List.all_append, Bool.and_assoc]
  simp
theorem beq_txt (a b : ByteArray) : (a.toList == b.toList) = decide (a = b) := by
  rw [Bool.eq_iff_iff, beq_iff_eq, decide_eq_true_eq, ByteArray.toList_eq, ByteArray.toList_eq]
  constructor
  · intro h
    cases a
    cases b
    simp only [Array.toList_inj] at h
    rw [h]
  · rintro rfl; rfl
theorem pt_fun {n : Nat} {s : Nat → ByteArray} (h : ∀ j, j < n → Pt (s j)) : ∃ f : Nat → Int, ∀ j, j < n → s j = zT (f j) ∧ inR (f j) = true :=
  ⟨fun j => if hj : j < n then Classical.choose (h j hj) else 0, fun j hj => by simp only [dif_pos hj]; exact Classical.choose_spec (h j hj)⟩
theorem sameK_len {n m : Nat} {s t : Nat → ByteArray} {k : Nat} (h : sameK n m s t k = true) : n = m := by
  unfold sameK at h
  simp only [Bool.and_eq_true, decide_eq_true_eq] at h
  exact h.1
theorem sameK_like {n m : Nat} {x y : Nat → Int} {s t : Nat → ByteArray} (hs : ∀ i, i < n → s i = zT (x i)) (ht : ∀ i, i < m → t i = zT (y i)) : sameK n m s t n = likeB n m x y := by
  by_cases hnm : n = m
  · subst hnm
    unfold sameK likeB
    rw [decide_eq_true rfl, Bool.true_and, Bool.true_and, Bool.eq_iff_iff, List.all_eq_true, List.all_eq_true]
    constructor
    · intro h i hi
      have h1 := h i hi
      rw [decide_eq_true_eq] at h1 ⊢
      rw [hs i (List.mem_range.1 hi), ht i (List.mem_range.1 hi)] at h1
      exact zT_inj h1
    · intro h i hi
      have h1 := h i hi
      rw [decide_eq_true_eq] at h1 ⊢
      rw [hs i (List.mem_range.1 hi), ht i (List.mem_range.1 hi), h1]
  · rw [likeB_ne hnm]
    simp [sameK, hnm]
theorem eq5a (w : World) : (Op.equalIn 10000 40 (.agg #[.bool false, .bool false, .bool false, .bool true, .bool true]) (.agg #[.bool false, .bool false, .bool false, .bool true, .bool true])).run Tryz.prog w = .ok true w := by kernel_rfl
theorem eq5b (w : World) : (Op.equalIn 10000 40 (.agg #[.bool true, .bool false, .bool true, .bool false, .bool true]) (.agg #[.bool true, .bool false, .bool true, .bool false, .bool true])).run Tryz.prog w = .ok true w := by kernel_rfl
theorem eq5c (w : World) : (Op.equalIn 10000 40 (.agg #[.bool false, .bool true, .bool true, .bool false, .bool false]) (.agg #[.bool false, .bool true, .bool true, .bool false, .bool false])).run Tryz.prog w = .ok true w := by kernel_rfl
theorem guard5 : Tryz.prog.eqGuardType Tryz.prog.depth 40 = false := by kernel_rfl
set_option maxHeartbeats 8000000 in
theorem compares_walk (a b : ByteArray) (v2 v3 : Value) (n m : Nat) (s t : Nat → ByteArray) (w : World) (hok : Ok w) (her : Er w) (h2 : TS w v2 n s) (h3 : TS w v3 m t) (hn : n ≤ maxLen) (hm : m ≤ maxLen)
    (hs : ∀ i, i < n → (s i).size ≤ maxLen) (ht : ∀ i, i < m → (t i).size ≤ maxLen) :
    Calls Tryz.prog 4 #[.string a, .string b, v2, v3] w fun e w' => e = .returned (.bool true) ∧ Below w.heap.size w w' := by
  have hf2 := Hd.mk (fits_any v2 n s w h2 hn hs)
  have hf3 := Hd.mk (fits_any v3 m t w h3 hm ht)
  have hal := Hd.mk alive_any
  obtain ⟨A2, c2, rfl, h2f⟩ := h2
  obtain ⟨A3, c3, rfl, h3f⟩ := h3
  have t2 : Hd (TS w (.slice A2 n c2) n s) := ⟨⟨A2, c2, rfl, h2f⟩⟩
  have t3 : Hd (TS w (.slice A3 m c3) m t) := ⟨⟨A3, c3, rfl, h3f⟩⟩
  have g2 := Hd.mk h2f
  have g3 := Hd.mk h3f
  clear h2f h3f
  unfold maxLen at hn hm
  replace hs := Hd.mk hs
  replace ht := Hd.mk ht
  by_cases ha : 2147483647 < a.size
  · have d1 : decide ((2147483647 : Int) < (a.size : Int)) = true := decide_eq_true (by omega)
    go_enter Tryz.func4, Tryz.ntmps4
    go_wp2
    go_ret
    exact ⟨rfl, Below.refl _ _⟩
  have d1 : decide ((2147483647 : Int) < (a.size : Int)) = false := decide_eq_false (by omega)
  by_cases hb : 2147483647 < b.size
  · have d2 : decide ((2147483647 : Int) < (b.size : Int)) = true := decide_eq_true (by omega)
    go_enter Tryz.func4, Tryz.ntmps4
    go_wp2
    go_ret
    exact ⟨rfl, Below.refl _ _⟩
  have d2 : decide ((2147483647 : Int) < (b.size : Int)) = false := decide_eq_false (by omega)
  by_cases q2 : Fit n s
  case neg =>
    rw [decide_eq_false q2] at hf2
    go_enter Tryz.func4, Tryz.ntmps4
    go_wp2_with (go_at_call 16; refine hf2.out.mono ?_; rintro e w1 ⟨rfl, rfl⟩)
    go_ret
    exact ⟨rfl, Below.refl _ _⟩
  by_cases q3 : Fit m t
  case neg =>
    rw [decide_eq_true q2] at hf2
    rw [decide_eq_false q3] at hf3
    go_enter Tryz.func4, Tryz.ntmps4
    go_wp2_with (go_at_call 16; (first | with_reducible refine hf2.out.mono ?_ | with_reducible refine hf3.out.mono ?_); rintro e w1 ⟨rfl, rfl⟩)
    go_ret
    exact ⟨rfl, Below.refl _ _⟩
  rw [decide_eq_true q2] at hf2
  rw [decide_eq_true q3] at hf3
  have hpa := Hd.mk (parts_any a w (by omega))
  have hpb := Hd.mk fun w1 => parts_any b w1 (by omega)
  have hps := Hd.mk fun i (hi : i < n) w1 => parts_any (s i) w1 (by have := q2.2 i hi; omega)
  have hpt := Hd.mk fun i (hi : i < m) w1 => parts_any (t i) w1 (by have := q3.2 i hi; omega)
  replace q2 := Hd.mk q2
  replace q3 := Hd.mk q3
  go_enter Tryz.func4, Tryz.ntmps4
  go_upto_region 4 with (first
    | (go_at_call 16; (first | with_reducible refine hf2.out.mono ?_ | with_reducible refine hf3.out.mono ?_); rintro e w1 ⟨rfl, rfl⟩)
    | (go_at_call 17; refine hpa.out.mono ?_; rintro e w2 ⟨b2, A4, n2, c4, ok, rfl, hx, hb2⟩; replace hx := Hd.mk hx; replace hb2 := Hd.mk hb2))
  have r2 := Hd.mk (((SR.start w [] (fun p hp => by cases hp)).op hb2.out).box2 (b0 := b2) (A := A4) (m := n2) (c := c4))
  have hba : Below w2.heap.size w2 (w2.alloc (.cells #[.bool b2, .slice A4 n2 c4] 24)) := (Below.refl _ _).alloc (Nat.le_refl _) _
  have hC : Hd (updC (fun _ => none) w2.heap.size [.bool b2, .slice A4 n2 c4] w2.heap.size = some [.bool b2, .slice A4 n2 c4]) := ⟨updC_same⟩
  have hCl : Hd (updC (fun _ => none) w2.heap.size [.bool b2, .slice A4 n2 c4] = updC (fun _ => none) w2.heap.size [.bool b2, .slice A4 n2 c4]) := ⟨rfl⟩
  have hxb := Hd.mk fun x (h : NumV w2 (.agg #[.bool b2, .slice A4 n2 c4]) x) => h.below hba
  have hlt3 : w2.heap.size < (w2.alloc (.cells #[.bool b2, .slice A4 n2 c4] 24)).heap.size := by rw [World.size_alloc]; omega
  clear hba hCl
  generalize updC (fun _ => none) w2.heap.size [.bool b2, .slice A4 n2 c4] = C at *
  generalize w2.alloc (.cells #[.bool b2, .slice A4 n2 c4] 24) = w3 at *
  go_upto_region 5 with (go_at_call 17; refine (hpb.out _).mono ?_; rintro e w4 ⟨b4, A5, n4, c5, is, rfl, hy, hb4⟩; replace hy := Hd.mk hy; replace hb4 := Hd.mk hb4)
  have r4 := Hd.mk ((r2.out.op hb4.out).box2 (b0 := b4) (A := A5) (m := n4) (c := c5))
  have hbb : Below w4.heap.size w4 (w4.alloc (.cells #[.bool b4, .slice A5 n4 c5] 24)) := (Below.refl _ _).alloc (Nat.le_refl _) _
  have hxy := Hd.mk fun x (h : NumV w2 (.agg #[.bool b2, .slice A4 n2 c4]) x) => ((hxb.out x h).below hb4.out).below hbb
  have hyb := Hd.mk fun y (h : NumV w4 (.agg #[.bool b4, .slice A5 n4 c5]) y) => h.below hbb
  have hD : Hd (updC C w4.heap.size [.bool b4, .slice A5 n4 c5] w4.heap.size = some [.bool b4, .slice A5 n4 c5]) := ⟨updC_same⟩
  have hC4 : Hd (updC C w4.heap.size [.bool b4, .slice A5 n4 c5] w2.heap.size = some [.bool b2, .slice A4 n2 c4]) := ⟨by rw [updC_ne (by have := hb4.out.size; omega)]; exact hC.out⟩
  clear hbb hC hxb hb4 r2 hb2 hlt3
  generalize updC C w4.heap.size [.bool b4, .slice A5 n4 c5] = C4 at *
  generalize w4.alloc (.cells #[.bool b4, .slice A5 n4 c5] 24) = w5 at *
  have hb5 := Hd.mk r4.out.bel
  cases ok
  · go_wp2_with (go_at_call 10; refine (hal.out _ (hok.below hb5.out) (her.below hb5.out)).mono ?_; rintro e w9 ⟨rfl, hb9⟩; have r9 := Hd.mk (hb5.out.trans (hb9.mono hb5.out.size)); clear hb9)
    go_ret
    exact ⟨rfl, r9.out⟩
  cases is
  · go_wp2_with (go_at_call 10; refine (hal.out _ (hok.below hb5.out) (her.below hb5.out)).mono ?_; rintro e w9 ⟨rfl, hb9⟩; have r9 := Hd.mk (hb5.out.trans (hb9.mono hb5.out.size)); clear hb9)
    go_ret
    exact ⟨rfl, r9.out⟩
  by_cases hn8 : 8 < n
  · have d8 : decide ((8 : Int) < (n : Int)) = true := decide_eq_true (by omega)
    go_wp2_with (go_at_call 10; refine (hal.out _ (hok.below hb5.out) (her.below hb5.out)).mono ?_; rintro e w9 ⟨rfl, hb9⟩; have r9 := Hd.mk (hb5.out.trans (hb9.mono hb5.out.size)); clear hb9)
    go_ret
    exact ⟨rfl, r9.out⟩
  have d8 : decide ((8 : Int) < (n : Int)) = false := decide_eq_false (by omega)
  by_cases hm8 : 8 < m
  · have d9 : decide ((8 : Int) < (m : Int)) = true := decide_eq_true (by omega)
    go_wp2_with (go_at_call 10; refine (hal.out _ (hok.below hb5.out) (her.below hb5.out)).mono ?_; rintro e w9 ⟨rfl, hb9⟩; have r9 := Hd.mk (hb5.out.trans (hb9.mono hb5.out.size)); clear hb9)
    go_ret
    exact ⟨rfl, r9.out⟩
  have d9 : decide ((8 : Int) < (m : Int)) = false := decide_eq_false (by omega)
  obtain ⟨x, rfl, hxm, hnx⟩ := hx.out rfl
  obtain ⟨y, rfl, hym, hny⟩ := hy.out rfl
  rw [most_lim] at hxm hym
  have r5 := Hd.mk ((r4.out.add (hyb.out y hny)).add (hxy.out x hnx))
  have ix : inR x = true := inR_of (by omega) (by omega)
  have iy : inR y = true := inR_of (by omega) (by omega)
  have hlx := wlq hxm
  have hly := wlq hym
  have k0 : Hd (Value.bool ((n : Int) == (m : Int)) = Value.bool (sameK n m s t 0)) := ⟨by rw [sameK_zero]; congr 1; rw [Bool.eq_iff_iff]; simp; omega⟩
  clear hx hy hxy hyb r4 hpa hpb hf2 hf3 hnx hny
  replace hxm := Hd.mk hxm
  replace hym := Hd.mk hym
  go_wp2
  go_loopw [13, 73] (fun q i wr => ∃ k : Nat, k ≤ n ∧ i = .int .i64 k ∧ q = .bool (sameK n m s t k) ∧ Hd (Below w5.heap.size w5 wr) ∧ Hd (∀ j, j < k → Pt (s j))) (fun _ i _ => n - (intOf i).toNat)
  case atStart => exact ⟨0, Nat.zero_le _, rfl, k0.out, ⟨Below.refl _ _⟩, ⟨fun j hj => by omega⟩⟩
  case round =>
    obtain ⟨k, hk, rfl, rfl, hbel, hpq⟩ := hrel
    have hbw := Hd.mk (hb5.out.trans (hbel.out.mono hb5.out.size))
    by_cases hlt : k < n
    · obtain ⟨a2, rfl, ha1, ha2⟩ := g2.out (by omega)
      have e1 := cb' hbw.out (ha2 k hlt)
      have hp := Hd.mk (hps.out k hlt)
      replace ha2 := Hd.mk ha2
      go_upto_region 12 with (go_at_call 17; refine (hp.out _).mono ?_; rintro e w6 ⟨b6, A6, n6, c6, ok6, rfl, hx6, hb6⟩; replace hx6 := Hd.mk hx6; have hb7 := Hd.mk (hbel.out.trans (hb6.mono hbel.out.size)))
      have hb8 := Hd.mk (hb7.out.alloc hb7.out.size (.cells #[.bool b6, .slice A6 n6 c6] 24))
      generalize w6.alloc (.cells #[.bool b6, .slice A6 n6 c6] 24) = w7 at *
      have hbw7 := Hd.mk (hb5.out.trans (hb8.out.mono hb5.out.size))
      cases ok6
      · go_wp2_with (go_at_call 10; refine (hal.out _ (hok.below hbw7.out) (her.below hbw7.out)).mono ?_; rintro e w9 ⟨rfl, hb9⟩; have r9 := Hd.mk (hbw7.out.trans (hb9.mono hbw7.out.size)); clear hb9)
        go_ret
        exact ⟨rfl, r9.out⟩
      obtain ⟨z, hz, hzm, -⟩ := hx6.out rfl
      rw [most_lim] at hzm
      have hpk : Hd (∀ j, j < k + 1 → Pt (s j)) := ⟨fun j hj => if e : j = k then e ▸ ⟨z, hz, inR_of (by omega) (by omega)⟩ else hpq.out j (by omega)⟩
      clear hx6 hzm
      replace hz := Hd.mk hz
      have hsu := Hd.mk (sameK_succ n m s t k)
      clear e1 hb6 hp
      cases hq : sameK n m s t k
      · rw [hq, Bool.false_and] at hsu
        go_upto_region 14 with fail
        go_region
        all_goals
          go_wp2
          go_roundw
          case rel => exact ⟨k + 1, by omega, by rw [Int.natCast_succ], by rw [hsu.out], ⟨below_drew' hb8.out⟩, hpk⟩
          case measure => simp [intOf]; omega
      · have hnm := sameK_len hq
        obtain ⟨a3, rfl, ha3, hc3⟩ := g3.out (by omega)
        have e7 := cb' hbw7.out (ha2.out k hlt)
        have e8 := cb' hbw7.out (hc3 k (by omega))
        rw [hq, Bool.true_and] at hsu
        have hkm : k < m := by omega
        replace hc3 := Hd.mk hc3
        replace hnm := Hd.mk hnm
        go_upto_region 14 with fail
        go_region
        all_goals
          go_wp2
          go_roundw
          case rel => exact ⟨k + 1, by omega, by rw [Int.natCast_succ], by rw [hsu.out, beq_txt], ⟨below_drew' hb8.out⟩, hpk⟩
          case measure => simp [intOf]; omega
    · obtain rfl : k = n := by omega
      rename World => wa
      obtain ⟨fs, hfs⟩ := pt_fun hpq.out
      replace hfs := Hd.mk hfs
      clear hbw
      generalize hq : sameK k m s t k = q at *
      replace hq := Hd.mk hq
      go_wp2
      go_loopw [102] (fun i wr => ∃ k2 : Nat, k2 ≤ m ∧ i = .int .i64 k2 ∧ Hd (Below w5.heap.size w5 wr) ∧ Hd (∀ j, j < k2 → Pt (t j))) (fun i _ => m - (intOf i).toNat)
      case atStart => exact ⟨0, Nat.zero_le _, rfl, hbel, ⟨fun j hj => by omega⟩⟩
      case round =>
        rename Hd (Below w5.heap.size w5 wa) => hbel0
        obtain ⟨k2, hk2, rfl, hbel, hpq2⟩ := hrel
        have hbw := Hd.mk (hb5.out.trans (hbel.out.mono hb5.out.size))
        by_cases hlt2 : k2 < m
        · obtain ⟨a3, rfl, ha1, ha2⟩ := g3.out (by omega)
          have e1 := cb' hbw.out (ha2 k2 hlt2)
          have hp := Hd.mk (hpt.out k2 hlt2)
          replace ha2 := Hd.mk ha2
          go_upto_region 20 with (go_at_call 17; refine (hp.out _).mono ?_; rintro e w6 ⟨b6, A6, n6, c6, ok6, rfl, hx6, hb6⟩; replace hx6 := Hd.mk hx6; have hb7 := Hd.mk (hbel.out.trans (hb6.mono hbel.out.size)))
          have hb8 := Hd.mk (hb7.out.alloc hb7.out.size (.cells #[.bool b6, .slice A6 n6 c6] 24))
          generalize w6.alloc (.cells #[.bool b6, .slice A6 n6 c6] 24) = w7 at *
          have hbw7 := Hd.mk (hb5.out.trans (hb8.out.mono hb5.out.size))
          cases ok6
          · go_wp2_with (go_at_call 10; refine (hal.out _ (hok.below hbw7.out) (her.below hbw7.out)).mono ?_; rintro e w9 ⟨rfl, hb9⟩; have r9 := Hd.mk (hbw7.out.trans (hb9.mono hbw7.out.size)); clear hb9)
            go_ret
            exact ⟨rfl, r9.out⟩
          obtain ⟨z, hz, hzm, -⟩ := hx6.out rfl
          rw [most_lim] at hzm
          have hpk : Hd (∀ j, j < k2 + 1 → Pt (t j)) := ⟨fun j hj => if e : j = k2 then e ▸ ⟨z, hz, inR_of (by omega) (by omega)⟩ else hpq2.out j (by omega)⟩
          clear hx6 hzm
          replace hz := Hd.mk hz
          clear e1 hb6 hp
          go_wp2
          go_roundw
          case rel => exact ⟨k2 + 1, by omega, by rw [Int.natCast_succ], hb8, hpk⟩
          case measure => simp [intOf]; omega
        · obtain rfl : k2 = m := by omega
          obtain ⟨ft, hft⟩ := pt_fun hpq2.out
          have hlk := sameK_like (fun i hi => (hfs.out i hi).1) (fun i hi => (hft i hi).1)
          rw [hq.out] at hlk
          have hde := Hd.mk fun w1 (hb : Below w.heap.size w w1) => DecsEqual_ok _ _ k k2 fs ft w1 (hok.below hb) (her.below hb) ((t2.out.below hb).tr fun i hi => (hfs.out i hi).1) ((t3.out.below hb).tr fun i hi => (hft i hi).1) (fun i hi => (hfs.out i hi).2) (fun i hi => (hft i hi).2) (by omega) (by omega)
          rw [← hlk] at hde
          have hcm := Hd.mk fun w1 v1 v2 (h1 : NumV w1 v1 x) (h2 : NumV w1 v2 y) => ncmpI_any v1 v2 x y w1 h1 h2 (by omega) (by omega)
          have hdc := Hd.mk fun w1 q1 q2 => DecCompare_ok x y ix iy w1 q1 q2
          have hbd := build5
          have hgd := guard5
          have hea := eq5a
          have heb := eq5b
          have hec := eq5c
          have r6 := Hd.mk (r5.out.op hbel.out)
          refine SR.cellK r6.out hC4.out ?_
          intro f0 f1 fz fy fl
          refine SR.cellK r6.out hD.out ?_
          intro i0 i1 iz iy' il
          clear hlk hft hfs t2 t3 r5 hq hps hpt
          rcases Int.lt_trichotomy x y with h | h | h
          · rw [cmpI_lt h] at hcm
            rw [show decide (x = y) = false from decide_eq_false (by omega), show decide (y < x) = false from decide_eq_false (by omega), show decide (y ≤ x) = false from decide_eq_false (by omega), show decide (x < y) = true from decide_eq_true (by omega), show decide (x ≤ y) = true from decide_eq_true (by omega)] at hdc
            replace h := Hd.mk h
            generalize zT x = sx at *
            generalize zT y = sy at *
            go_wp2_with (first
              | (go_at_call 18; refine (hcm.out _ _ _ r6.out.v0 r6.out.v1).mono ?_; rintro e w8 ⟨rfl, hb8⟩; have r8 := Hd.mk (r6.out.op hb8); clear hb8)
              | (go_at_call 10; refine (hal.out _ (hok.below r8.out.bel) (her.below r8.out.bel)).mono ?_; rintro e w9 ⟨rfl, hb9⟩; have r9 := Hd.mk (r8.out.op hb9); clear hb9)
              | (go_at_call 19; refine (hdc.out _ (hok.below r9.out.bel) (her.below r9.out.bel)).mono ?_; rintro e w10 ⟨rfl, hb10⟩; have r10 := Hd.mk (r9.out.op hb10); clear hb10)
              | (go_at_call 20; refine (hde.out _ r10.out.bel).mono ?_; rintro e w11 ⟨rfl, hb11⟩; have r11 := Hd.mk (r10.out.op hb11); clear hb11))
            go_ret
            exact ⟨rfl, r11.out.bel⟩
          · rw [show cmpI x y = 0 by rw [h, cmpI_eq]] at hcm
            rw [show decide (x = y) = true from decide_eq_true (by omega), show decide (y < x) = false from decide_eq_false (by omega), show decide (y ≤ x) = true from decide_eq_true (by omega), show decide (x < y) = false from decide_eq_false (by omega), show decide (x ≤ y) = true from decide_eq_true (by omega)] at hdc
            replace h := Hd.mk h
            generalize zT x = sx at *
            generalize zT y = sy at *
            go_wp2_with (first
              | (go_at_call 18; refine (hcm.out _ _ _ r6.out.v0 r6.out.v1).mono ?_; rintro e w8 ⟨rfl, hb8⟩; have r8 := Hd.mk (r6.out.op hb8); clear hb8)
              | (go_at_call 10; refine (hal.out _ (hok.below r8.out.bel) (her.below r8.out.bel)).mono ?_; rintro e w9 ⟨rfl, hb9⟩; have r9 := Hd.mk (r8.out.op hb9); clear hb9)
              | (go_at_call 19; refine (hdc.out _ (hok.below r9.out.bel) (her.below r9.out.bel)).mono ?_; rintro e w10 ⟨rfl, hb10⟩; have r10 := Hd.mk (r9.out.op hb10); clear hb10)
              | (go_at_call 20; refine (hde.out _ r10.out.bel).mono ?_; rintro e w11 ⟨rfl, hb11⟩; have r11 := Hd.mk (r10.out.op hb11); clear hb11))
            go_ret
            exact ⟨rfl, r11.out.bel⟩
          · rw [cmpI_gt h] at hcm
            rw [show decide (x = y) = false from decide_eq_false (by omega), show decide (y < x) = true from decide_eq_true (by omega), show decide (y ≤ x) = true from decide_eq_true (by omega), show decide (x < y) = false from decide_eq_false (by omega), show decide (x ≤ y) = false from decide_eq_false (by omega)] at hdc
            replace h := Hd.mk h
            generalize zT x = sx at *
            generalize zT y = sy at *
            go_wp2_with (first
              | (go_at_call 18; refine (hcm.out _ _ _ r6.out.v0 r6.out.v1).mono ?_; rintro e w8 ⟨rfl, hb8⟩; have r8 := Hd.mk (r6.out.op hb8); clear hb8)
              | (go_at_call 10; refine (hal.out _ (hok.below r8.out.bel) (her.below r8.out.bel)).mono ?_; rintro e w9 ⟨rfl, hb9⟩; have r9 := Hd.mk (r8.out.op hb9); clear hb9)
              | (go_at_call 19; refine (hdc.out _ (hok.below r9.out.bel) (her.below r9.out.bel)).mono ?_; rintro e w10 ⟨rfl, hb10⟩; have r10 := Hd.mk (r9.out.op hb10); clear hb10)
              | (go_at_call 20; refine (hde.out _ r10.out.bel).mono ?_; rintro e w11 ⟨rfl, hb11⟩; have r11 := Hd.mk (r10.out.op hb11); clear hb11))
            go_ret
            exact ⟨rfl, r11.out.bel⟩
end Go.Proofs.YtpabbnogfflgpaaGreatDoor
