/- The reference: whole numbers of at most 256 bits. Conditions: those that each theorem states. -/
import Derived.Test.YtpabbnogfflgpaaGreatDoorBase30
import Derived.Test.YtpabbnogfflgpaaGreatDoorMakes01
set_option linter.all false

namespace Go.Proofs.YtpabbnogfflgpaaGreatDoor
open Go.RowKit
set_option maxRecDepth 100000
set_option maxHeartbeats 4000000 in
theorem read2_any (s : ByteArray) (w : World) (hs : s.size < 200) :
    Calls Tryz.prog 31 #[.string s] w fun e w' => ∃ v ok, e = .returned (.tuple #[v, .bool ok]) ∧ (∃ b A n c, v = .agg #[.bool b, .slice A n c]) ∧ (ok = true → ∃ x : Int, s = zT x ∧ NumV w' v x) ∧ (ok = false → v = .agg #[.bool false, .slice none 0 0]) ∧ Below w.heap.size w w' := by
  have hlaw := unsig_law s
  have hts := unsig_size s
  generalize hneg : (unsig s).1 = neg at hlaw
  generalize ht : (unsig s).2 = t at hlaw hts
  have hun : Hd (unsig s = (neg, t)) := ⟨by rw [← hneg, ← ht]⟩
  clear hneg ht
  obtain ⟨m, hm1, hm2, hm3⟩ := trail t t.size (Nat.le_refl _)
  have hdg := Hd.mk fun w1 => digits_any t m w1 (by omega) hm1 hm2 hm3
  have hread := Hd.mk (read_law (s := s) (t := t) (neg := neg) hlaw)
  have hsl := Hd.mk (Slot.start w)
  generalize hw0 : w.alloc (.cells #[.bool false, .slice none 0 0] 24) = w0 at hsl
  have hb0 : Below w.heap.size w w0 := by subst hw0; exact (Below.refl _ _).alloc (Nat.le_refl _) _
  have hz := str_zero t
  have hzz : (t.toList == [48]) = decide (bts t = [48]) := by rw [← hz]; congr 1; simp [ByteArray.toList_eq]
  replace hlaw := Hd.mk hlaw
  replace hm2 := Hd.mk hm2
  replace hm3 := Hd.mk hm3
  replace hb0 := Hd.mk hb0
  go_enter Tryz.func31, Tryz.ntmps31
  go_upto_region 1 with fail
  go_cut [4] (fun ng wx => ng = .bool neg ∧ wx = w0)
  case first =>
    have hu := hun.out
    unfold unsig at hu
    replace hz := Hd.mk hz; replace hzz := Hd.mk hzz
    by_cases h1 : 1 < s.size
    · have hix := ch_eq (s := s) (k := 0) (by omega)
      by_cases h2 : ch s 0 = 45
      · rw [if_pos ⟨h1, h2⟩] at hu
        obtain ⟨rfl, rfl⟩ := Prod.mk.inj hu
        rw [h2] at hix
        have hss : 1 ≤ s.size := by omega
        go_wp2_with fail
        go_meet
        exact ⟨rfl, rfl⟩
      · rw [if_neg (fun h => h2 h.2)] at hu
        obtain ⟨rfl, rfl⟩ := Prod.mk.inj hu
        have h45 : ((ch s 0 : Int) == 45) = false := by simp; omega
        generalize ch s 0 = c at *
        go_wp2_with fail
        go_meet
        exact ⟨rfl, rfl⟩
    · rw [if_neg (fun h => h1 h.1)] at hu
      obtain ⟨rfl, rfl⟩ := Prod.mk.inj hu
      go_wp2_with fail
      go_meet
      exact ⟨rfl, rfl⟩
  case rest =>
  obtain ⟨rfl, rfl⟩ := hcut
  have hex : if neg = true then s.extract 1 s.size = t ∧ 1 ≤ s.size else s = t := by
    have hu := hun.out
    unfold unsig at hu
    split at hu
    · next h => obtain ⟨rfl, rfl⟩ := Prod.mk.inj hu; exact ⟨rfl, by omega⟩
    · obtain ⟨rfl, rfl⟩ := Prod.mk.inj hu; rfl
  cases neg
  · simp only [Bool.false_eq_true, if_false] at hex
    subst hex
    by_cases hok : m = s.size ∧ s.size ≠ 0
    · rw [decide_eq_true hok] at hdg
      have hDa : Hd (∀ k, k < s.size → isD (ch s k)) := ⟨fun k hk => by have := hm2.out (s.size - 1 - k) (by omega); rwa [show s.size - 1 - (s.size - 1 - k) = k by omega] at this⟩
      have hix := ch_eq (s := s) (k := 0) (by omega)
      replace hok := Hd.mk hok
      by_cases hz1 : 1 < s.size ∧ ch s 0 = 48
      · obtain ⟨hz1, hz2⟩ := hz1
        rw [hz2] at hix
        replace hz := Hd.mk hz; replace hzz := Hd.mk hzz
        go_wp2_with (go_at_call 86; refine (hdg.out _).mono ?_; rintro e w2 ⟨v2, rfl, hn2, ⟨b2, A2, n2, c2, hv2⟩, hb2⟩; subst hv2; have hsb := Hd.mk (hsl.out.below hb2); have hbb := Hd.mk (hb0.out.trans (hb2.mono hb0.out.size)); obtain ⟨q1, q2, q3, q4, q5, q6⟩ := hsb.out; clear hb2; replace hn2 := Hd.mk hn2)
        have hfn := hsb.out.num (u0 := .bool false) (u1 := .slice none 0 0) hbb.out (num_zero _)
        have hfin := Hd.mk (hfn.2.alloc hfn.2.size (.cells #[.bool b2, .slice A2 n2 c2] 24))
        refine bodyPost_ret (v := .tuple #[.agg #[.bool false, .slice none 0 0], .bool false]) (by simp [results, Tryz.results31, go_sem, q2, q3, q4, q5, q6]) rfl ⟨_, false, rfl, ⟨_, _, _, _, rfl⟩, (fun h => by cases h), (fun _ => rfl), hfin.out⟩
      · have hz3 : s.size = 1 ∨ ch s 0 ≠ 48 := by have := hok.out.2; omega
        have hres := Hd.mk (hread.out hDa.out hok.out.2 hz3 (fun h => by cases h))
        have hgood : Hd (∀ w2 w4 b2 A2 n2 c2, NumV w2 (.agg #[.bool b2, .slice A2 n2 c2]) ((dn s 0 s.size : Nat) : Int) → Below w2.heap.size w2 w4 → NumV w4 (.agg #[.bool false, .slice A2 n2 c2]) (if false = true then -((dn s 0 s.size : Nat) : Int) else ((dn s 0 s.size : Nat) : Int))) := ⟨fun w2 w4 b2 A2 n2 c2 h1 h2 => num_sign h1 h2 (fun h => by cases h)⟩
        generalize ch s 0 = c0 at *
        replace hz := Hd.mk hz; replace hzz := Hd.mk hzz
        rcases Nat.lt_or_ge 1 s.size with hz4 | hz4
        · have hz5 : decide (1 < (s.size : Int)) = true := decide_eq_true (by omega)
          have h48 : ((c0 : Int) == 48) = false := by simp; omega
          replace hz1 := Hd.mk hz1
          replace hz3 := Hd.mk hz3
          go_wp2_with (go_at_call 86; refine (hdg.out _).mono ?_; rintro e w2 ⟨v2, rfl, hn2, ⟨b2, A2, n2, c2, hv2⟩, hb2⟩; subst hv2; have hsb := Hd.mk (hsl.out.below hb2); have hbb := Hd.mk (hb0.out.trans (hb2.mono hb0.out.size)); obtain ⟨q1, q2, q3, q4, q5, q6⟩ := hsb.out; clear hb2; replace hn2 := Hd.mk hn2)
          have hnum := hgood.out _ _ _ _ _ _ (hn2.out hok.out.1) (Below.refl _ _)
          have hfn := hsb.out.num (u0 := .bool false) (u1 := .slice A2 n2 c2) hbb.out hnum
          have hfin := Hd.mk (And.intro (hfn.1.below ((Below.refl _ _).alloc (Nat.le_refl _) (.cells #[.bool false, .slice A2 n2 c2] 24))) (hfn.2.alloc hfn.2.size (.cells #[.bool false, .slice A2 n2 c2] 24)))
          replace hfn := Hd.mk hfn
          replace hnum := Hd.mk hnum
          refine bodyPost_ret (v := .tuple #[.agg #[.bool false, .slice A2 n2 c2], .bool true]) (by simp [results, Tryz.results31, go_sem, q2, q3, q4, q5, q6]) rfl ⟨_, true, rfl, ⟨_, _, _, _, rfl⟩, fun _ => ⟨_, hres.out, hfin.out.1⟩, (fun h => by cases h), hfin.out.2⟩
        · have hz5 := decide_eq_false (p := 1 < (s.size : Int)) (by omega)
          replace hz4 := Hd.mk hz4
          replace hz1 := Hd.mk hz1
          replace hz3 := Hd.mk hz3
          go_wp2_with (go_at_call 86; refine (hdg.out _).mono ?_; rintro e w2 ⟨v2, rfl, hn2, ⟨b2, A2, n2, c2, hv2⟩, hb2⟩; subst hv2; have hsb := Hd.mk (hsl.out.below hb2); have hbb := Hd.mk (hb0.out.trans (hb2.mono hb0.out.size)); obtain ⟨q1, q2, q3, q4, q5, q6⟩ := hsb.out; clear hb2; replace hn2 := Hd.mk hn2)
          have hnum := hgood.out _ _ _ _ _ _ (hn2.out hok.out.1) (Below.refl _ _)
          have hfn := hsb.out.num (u0 := .bool false) (u1 := .slice A2 n2 c2) hbb.out hnum
          have hfin := Hd.mk (And.intro (hfn.1.below ((Below.refl _ _).alloc (Nat.le_refl _) (.cells #[.bool false, .slice A2 n2 c2] 24))) (hfn.2.alloc hfn.2.size (.cells #[.bool false, .slice A2 n2 c2] 24)))
          replace hfn := Hd.mk hfn
          replace hnum := Hd.mk hnum
          refine bodyPost_ret (v := .tuple #[.agg #[.bool false, .slice A2 n2 c2], .bool true]) (by simp [results, Tryz.results31, go_sem, q2, q3, q4, q5, q6]) rfl ⟨_, true, rfl, ⟨_, _, _, _, rfl⟩, fun _ => ⟨_, hres.out, hfin.out.1⟩, (fun h => by cases h), hfin.out.2⟩
    · rw [decide_eq_false hok] at hdg
      replace hok := Hd.mk hok
      replace hz := Hd.mk hz; replace hzz := Hd.mk hzz
      go_wp2_with (go_at_call 86; refine (hdg.out _).mono ?_; rintro e w2 ⟨v2, rfl, hn2, ⟨b2, A2, n2, c2, hv2⟩, hb2⟩; subst hv2; have hsb := Hd.mk (hsl.out.below hb2); have hbb := Hd.mk (hb0.out.trans (hb2.mono hb0.out.size)); obtain ⟨q1, q2, q3, q4, q5, q6⟩ := hsb.out; clear hb2; replace hn2 := Hd.mk hn2)
      have hfn := hsb.out.num (u0 := .bool false) (u1 := .slice none 0 0) hbb.out (num_zero _)
      have hfin := Hd.mk (hfn.2.alloc hfn.2.size (.cells #[.bool b2, .slice A2 n2 c2] 24))
      refine bodyPost_ret (v := .tuple #[.agg #[.bool false, .slice none 0 0], .bool false]) (by simp [results, Tryz.results31, go_sem, q2, q3, q4, q5, q6]) rfl ⟨_, false, rfl, ⟨_, _, _, _, rfl⟩, (fun h => by cases h), (fun _ => rfl), hfin.out⟩
  · simp only [if_true] at hex
    obtain ⟨hex, hs1⟩ := hex
    by_cases hok : m = t.size ∧ t.size ≠ 0
    · rw [decide_eq_true hok] at hdg
      have hDa : Hd (∀ k, k < t.size → isD (ch t k)) := ⟨fun k hk => by have := hm2.out (t.size - 1 - k) (by omega); rwa [show t.size - 1 - (t.size - 1 - k) = k by omega] at this⟩
      have hix := ch_eq (s := t) (k := 0) (by omega)
      replace hok := Hd.mk hok
      by_cases hz1 : 1 < t.size ∧ ch t 0 = 48
      · obtain ⟨hz1, hz2⟩ := hz1
        rw [hz2] at hix
        replace hz := Hd.mk hz; replace hzz := Hd.mk hzz
        go_wp2_with (go_at_call 86; refine (hdg.out _).mono ?_; rintro e w2 ⟨v2, rfl, hn2, ⟨b2, A2, n2, c2, hv2⟩, hb2⟩; subst hv2; have hsb := Hd.mk (hsl.out.below hb2); have hbb := Hd.mk (hb0.out.trans (hb2.mono hb0.out.size)); obtain ⟨q1, q2, q3, q4, q5, q6⟩ := hsb.out; clear hb2; replace hn2 := Hd.mk hn2)
        have hfn := hsb.out.num (u0 := .bool false) (u1 := .slice none 0 0) hbb.out (num_zero _)
        have hfin := Hd.mk (hfn.2.alloc hfn.2.size (.cells #[.bool b2, .slice A2 n2 c2] 24))
        refine bodyPost_ret (v := .tuple #[.agg #[.bool false, .slice none 0 0], .bool false]) (by simp [results, Tryz.results31, go_sem, q2, q3, q4, q5, q6]) rfl ⟨_, false, rfl, ⟨_, _, _, _, rfl⟩, (fun h => by cases h), (fun _ => rfl), hfin.out⟩
      · have hz3 : t.size = 1 ∨ ch t 0 ≠ 48 := by have := hok.out.2; omega
        by_cases hz0 : bts t = [48]
        · rw [decide_eq_true hz0] at hz hzz
          have hsz1 : t.size = 1 := by have := bts_length t; rw [hz0] at this; exact this.symm
          generalize ch t 0 = c0 at *
          replace hz0 := Hd.mk hz0
          replace hz1 := Hd.mk hz1
          replace hz3 := Hd.mk hz3
          go_wp2_with (go_at_call 86; refine (hdg.out _).mono ?_; rintro e w2 ⟨v2, rfl, hn2, ⟨b2, A2, n2, c2, hv2⟩, hb2⟩; subst hv2; have hsb := Hd.mk (hsl.out.below hb2); have hbb := Hd.mk (hb0.out.trans (hb2.mono hb0.out.size)); obtain ⟨q1, q2, q3, q4, q5, q6⟩ := hsb.out; clear hb2; replace hn2 := Hd.mk hn2)
          have hfn := hsb.out.num (u0 := .bool false) (u1 := .slice none 0 0) hbb.out (num_zero _)
          have hfin := Hd.mk (hfn.2.alloc hfn.2.size (.cells #[.bool b2, .slice A2 n2 c2] 24))
          refine bodyPost_ret (v := .tuple #[.agg #[.bool false, .slice none 0 0], .bool false]) (by simp [results, Tryz.results31, go_sem, q2, q3, q4, q5, q6]) rfl ⟨_, false, rfl, ⟨_, _, _, _, rfl⟩, (fun h => by cases h), (fun _ => rfl), hfin.out⟩
        · rw [decide_eq_false hz0] at hz hzz
          have hres := Hd.mk (hread.out hDa.out hok.out.2 hz3 (fun _ => hz0))
          have hdn : dn t 0 t.size ≠ 0 := fun e => hz0 (by rw [read_pos hDa.out hok.out.2 hz3, e]; exact dtxt_nums (l := [48]) (by intro b hb; simp at hb; subst hb; unfold isD; omega) (by simp) (.inl rfl))
          have hgood : Hd (∀ w2 w4 b2 A2 n2 c2, NumV w2 (.agg #[.bool b2, .slice A2 n2 c2]) ((dn t 0 t.size : Nat) : Int) → Below w2.heap.size w2 w4 → NumV w4 (.agg #[.bool true, .slice A2 n2 c2]) (if true = true then -((dn t 0 t.size : Nat) : Int) else ((dn t 0 t.size : Nat) : Int))) := ⟨fun w2 w4 b2 A2 n2 c2 h1 h2 => num_sign h1 h2 (fun _ => hdn)⟩
          generalize ch t 0 = c0 at *
          replace hz0 := Hd.mk hz0
          replace hdn := Hd.mk hdn
          rcases Nat.lt_or_ge 1 t.size with hz4 | hz4
          · have hz5 : decide (1 < (t.size : Int)) = true := decide_eq_true (by omega)
            have h48 : ((c0 : Int) == 48) = false := by simp; omega
            replace hz1 := Hd.mk hz1
            replace hz3 := Hd.mk hz3
            go_wp2_with (go_at_call 86; refine (hdg.out _).mono ?_; rintro e w2 ⟨v2, rfl, hn2, ⟨b2, A2, n2, c2, hv2⟩, hb2⟩; subst hv2; have hsb := Hd.mk (hsl.out.below hb2); have hbb := Hd.mk (hb0.out.trans (hb2.mono hb0.out.size)); obtain ⟨q1, q2, q3, q4, q5, q6⟩ := hsb.out; clear hb2; replace hn2 := Hd.mk hn2)
            have hnum := hgood.out _ _ _ _ _ _ (hn2.out hok.out.1) (Below.refl _ _)
            have hfn := hsb.out.num (u0 := .bool true) (u1 := .slice A2 n2 c2) hbb.out hnum
            have hfin := Hd.mk (And.intro (hfn.1.below ((Below.refl _ _).alloc (Nat.le_refl _) (.cells #[.bool true, .slice A2 n2 c2] 24))) (hfn.2.alloc hfn.2.size (.cells #[.bool true, .slice A2 n2 c2] 24)))
            replace hfn := Hd.mk hfn
            replace hnum := Hd.mk hnum
            refine bodyPost_ret (v := .tuple #[.agg #[.bool true, .slice A2 n2 c2], .bool true]) (by simp [results, Tryz.results31, go_sem, q2, q3, q4, q5, q6]) rfl ⟨_, true, rfl, ⟨_, _, _, _, rfl⟩, fun _ => ⟨_, hres.out, hfin.out.1⟩, (fun h => by cases h), hfin.out.2⟩
          · have hz5 := decide_eq_false (p := 1 < (t.size : Int)) (by omega)
            replace hz4 := Hd.mk hz4
            replace hz1 := Hd.mk hz1
            replace hz3 := Hd.mk hz3
            go_wp2_with (go_at_call 86; refine (hdg.out _).mono ?_; rintro e w2 ⟨v2, rfl, hn2, ⟨b2, A2, n2, c2, hv2⟩, hb2⟩; subst hv2; have hsb := Hd.mk (hsl.out.below hb2); have hbb := Hd.mk (hb0.out.trans (hb2.mono hb0.out.size)); obtain ⟨q1, q2, q3, q4, q5, q6⟩ := hsb.out; clear hb2; replace hn2 := Hd.mk hn2)
            have hnum := hgood.out _ _ _ _ _ _ (hn2.out hok.out.1) (Below.refl _ _)
            have hfn := hsb.out.num (u0 := .bool true) (u1 := .slice A2 n2 c2) hbb.out hnum
            have hfin := Hd.mk (And.intro (hfn.1.below ((Below.refl _ _).alloc (Nat.le_refl _) (.cells #[.bool true, .slice A2 n2 c2] 24))) (hfn.2.alloc hfn.2.size (.cells #[.bool true, .slice A2 n2 c2] 24)))
            replace hfn := Hd.mk hfn
            replace hnum := Hd.mk hnum
            refine bodyPost_ret (v := .tuple #[.agg #[.bool true, .slice A2 n2 c2], .bool true]) (by simp [results, Tryz.results31, go_sem, q2, q3, q4, q5, q6]) rfl ⟨_, true, rfl, ⟨_, _, _, _, rfl⟩, fun _ => ⟨_, hres.out, hfin.out.1⟩, (fun h => by cases h), hfin.out.2⟩
    · rw [decide_eq_false hok] at hdg
      replace hok := Hd.mk hok
      replace hz := Hd.mk hz; replace hzz := Hd.mk hzz
      go_wp2_with (go_at_call 86; refine (hdg.out _).mono ?_; rintro e w2 ⟨v2, rfl, hn2, ⟨b2, A2, n2, c2, hv2⟩, hb2⟩; subst hv2; have hsb := Hd.mk (hsl.out.below hb2); have hbb := Hd.mk (hb0.out.trans (hb2.mono hb0.out.size)); obtain ⟨q1, q2, q3, q4, q5, q6⟩ := hsb.out; clear hb2; replace hn2 := Hd.mk hn2)
      have hfn := hsb.out.num (u0 := .bool false) (u1 := .slice none 0 0) hbb.out (num_zero _)
      have hfin := Hd.mk (hfn.2.alloc hfn.2.size (.cells #[.bool b2, .slice A2 n2 c2] 24))
      refine bodyPost_ret (v := .tuple #[.agg #[.bool false, .slice none 0 0], .bool false]) (by simp [results, Tryz.results31, go_sem, q2, q3, q4, q5, q6]) rfl ⟨_, false, rfl, ⟨_, _, _, _, rfl⟩, (fun h => by cases h), (fun _ => rfl), hfin.out⟩
theorem zT_110 {s : ByteArray} {x : Int} {n : Nat} (h : s = zT x) (hs : s.size ≤ n) : x.natAbs < 10 ^ n := by
  refine Nat.lt_of_lt_of_le (lt_dlen x.natAbs) (Nat.pow_le_pow_right (by decide) ?_)
  have h1 := bts_length s
  rw [h, bts_zT, ztx_length] at h1
  rw [h] at hs
  omega
/-- What Wholes hands back. -/
def WholesR (w : World) (s : ByteArray) (e : Ending) (w' : World) : Prop := ∃ b A n c ok, ∃ x : Int, e = .returned (.tuple #[.agg #[.bool b, .slice A n c], .bool ok]) ∧ (ok = true → s = zT x ∧ x.natAbs < 2 ^ 256) ∧ x.natAbs < 10 ^ 80 ∧ NumV w' (.agg #[.bool b, .slice A n c]) x ∧ Below w.heap.size w w'
set_option maxHeartbeats 2000000 in
theorem wholes_any (s : ByteArray) (w : World) (hs : s.size < 4294967296) :
    Calls Tryz.prog 8 #[.string s] w fun e w' => WholesR w s e w' := by
  have hsl := Hd.mk (Slot.start w)
  have hb0 := Hd.mk ((Below.refl _ _).alloc (Nat.le_refl _) _ : Below w.heap.size w (w.alloc (.cells #[.bool false, .slice none 0 0] 24)))
  by_cases hl : s.size ≤ 80
  · have hrd := Hd.mk fun w1 => read2_any s w1 (by omega)
    go_enter Tryz.func8, Tryz.ntmps8
    go_wp2_with (go_at_call 31; refine (hrd.out _).mono ?_; rintro e w2 ⟨v2, ok, rfl, ⟨b2, A2, m2, c2, hv2⟩, hok, hno, hb⟩; subst hv2; replace hno := Hd.mk hno; have hsb := Hd.mk (hsl.out.below hb); obtain ⟨q1, q2, q3, q4, q5, q6⟩ := hsb.out; have hbb := Hd.mk (hb0.out.trans (hb.mono hb0.out.size)); clear hb; replace hok := Hd.mk hok)
    have hba : Below w2.heap.size w2 (w2.alloc (.cells #[.bool b2, .slice A2 m2 c2] 24)) := (Below.refl _ _).alloc (Nat.le_refl _) _
    have hbk := Blk.new w2 #[.bool b2, .slice A2 m2 c2] 24
    have hs3 := hsb.out.below hba
    have hb3 := hbb.out.trans (hba.mono hbb.out.size)
    have d0 := hbk.cell 0
    have d1 := hbk.cell 1
    simp only [List.getElem?_cons_succ, List.getElem?_cons_zero] at d0 d1
    obtain ⟨q1, q2, q3, q4, q5, q6⟩ := hs3
    replace hs3 := Hd.mk (hsb.out.below hba)
    replace hb3 := Hd.mk hb3
    replace hbk := Hd.mk hbk
    have hba2 := Hd.mk hba
    have hn3a := Hd.mk fun x (h : NumV w2 (.agg #[.bool b2, .slice A2 m2 c2]) x) => h.below hba
    clear hba
    have hw3 : Hd (w2.heap.size ≤ (w2.alloc (.cells #[.bool b2, .slice A2 m2 c2] 24)).heap.size) := ⟨hba2.out.size⟩
    have hKR : w.heap.size < w2.heap.size := hsb.out.lt
    generalize w2.alloc (.cells #[.bool b2, .slice A2 m2 c2] 24) = w3 at *
    generalize w2.heap.size = K2 at *
    cases ok
    · obtain ⟨rfl, hsl0⟩ : b2 = false ∧ Value.slice A2 m2 c2 = .slice none 0 0 := by have := hno.out rfl; simp only [Value.agg.injEq, Array.mk.injEq, List.cons.injEq, Value.bool.injEq, and_true] at this; exact this
      cases hsl0
      go_region
      all_goals
        have hfin := ret_num (u0 := .bool false) (u1 := .slice none 0 0) hb3.out (Nat.le_refl _) q3 q4 (num_zero w3)
        go_wp2
        refine bodyPost_ret (v := .tuple #[.agg #[.bool false, .slice none 0 0], .bool false]) (by simp [results, Tryz.results8, go_sem, q2, q3, q4, q5, q6]) rfl ?_
        unfold WholesR
        exact ⟨_, _, _, _, false, 0, rfl, (fun h => by cases h), by decide, num_zero _, ⟨hfin.2.os, hfin.2.tape, hfin.2.output, hfin.2.size, hfin.2.block⟩⟩
    · obtain ⟨x, hsx, hnx⟩ := hok.out rfl
      have hx80 : x.natAbs < 10 ^ 80 := zT_110 hsx hl
      have hn3 := Hd.mk (hn3a.out x hnx)
      have hx200 : x.natAbs < 10 ^ 200 := Nat.lt_trans hx80 (by decide)
      by_cases hb256 : x.natAbs < 2 ^ 256
      · have hwi := Hd.mk (fun w5 (hb : NumV w5 (.agg #[.bool b2, .slice A2 m2 c2]) x) => bits_le _ x w5 hb hx200 hb256)
        replace hnx := Hd.mk hnx
        replace hsx := Hd.mk hsx
        replace hx80 := Hd.mk hx80
        replace hx200 := Hd.mk hx200
        replace hb256 := Hd.mk hb256
        go_region_law (go_simp; go_at_call 32; refine (hwi.out _ (hn3.out.below (below_drew _))).mono ?_; rintro e w5 ⟨k, rfl, -, -, hk3, hb5⟩; have dk1 : decide ((k : Int) ≤ 256) = true := decide_eq_true (by omega); replace hk3 := Hd.mk hk3; have hbu := below_undrew hb5; have j0 := cb hbu d0; have j1 := cb hbu d1; have hs5 := Hd.mk (hs3.out.below hbu); have hb6 := Hd.mk (hb3.out.trans (hbu.mono hb3.out.size)); obtain ⟨p1, p2, p3, p4, p5, p6⟩ := hs5.out; have hn5 := Hd.mk (hn3.out.below hbu); clear hbu hb5)
        all_goals
          have hfin := Hd.mk (ret_num (u0 := .bool b2) (u1 := .slice A2 m2 c2) hb6.out (Nat.le_refl _) p3 p4 hn5.out)
          go_wp2
          refine bodyPost_ret (v := .tuple #[.agg #[.bool b2, .slice A2 m2 c2], .bool true]) (by simp [results, Tryz.results8, go_sem, p2, p3, p4, p5, p6]) rfl ?_
          have hB : ∀ wx, wx = ((w5.setCell ⟨w.heap.size, 0, none⟩ (.bool b2)).setCell ⟨w.heap.size, 1, none⟩ (.slice A2 m2 c2)).drew → Below w.heap.size w wx := fun wx e => by subst e; exact ⟨hfin.out.2.os, hfin.out.2.tape, hfin.out.2.output, hfin.out.2.size, hfin.out.2.block⟩
          unfold WholesR
          first
            | exact ⟨_, _, _, _, true, x, rfl, (fun _ => ⟨hsx.out, hb256.out⟩), hx80.out, hfin.out.1, hfin.out.2⟩
            | exact ⟨_, _, _, _, true, x, rfl, (fun _ => ⟨hsx.out, hb256.out⟩), hx80.out, hfin.out.1.below (below_drew _), hB _ rfl⟩
      · have hwi := Hd.mk (fun w5 (hb : NumV w5 (.agg #[.bool b2, .slice A2 m2 c2]) x) => bits_gt _ x w5 hb hx200 hb256)
        replace hnx := Hd.mk hnx
        replace hsx := Hd.mk hsx
        replace hx80 := Hd.mk hx80
        replace hx200 := Hd.mk hx200
        replace hb256 := Hd.mk hb256
        go_region_law (go_simp; go_at_call 32; refine (hwi.out _ (hn3.out.below (below_drew _))).mono ?_; rintro e w5 ⟨k, rfl, -, -, hk3, hb5⟩; have dk1 : decide ((k : Int) ≤ 256) = false := decide_eq_false (by omega); replace hk3 := Hd.mk hk3; have hbu := below_undrew hb5; have j0 := cb hbu d0; have j1 := cb hbu d1; have hs5 := Hd.mk (hs3.out.below hbu); have hb6 := Hd.mk (hb3.out.trans (hbu.mono hb3.out.size)); obtain ⟨p1, p2, p3, p4, p5, p6⟩ := hs5.out; have hn5 := Hd.mk (hn3.out.below hbu); clear hbu hb5)
        all_goals
          have hfin := Hd.mk (ret_num (u0 := .bool b2) (u1 := .slice A2 m2 c2) hb6.out (Nat.le_refl _) p3 p4 hn5.out)
          go_wp2
          refine bodyPost_ret (v := .tuple #[.agg #[.bool b2, .slice A2 m2 c2], .bool false]) (by simp [results, Tryz.results8, go_sem, p2, p3, p4, p5, p6]) rfl ?_
          have hB : ∀ wx, wx = ((w5.setCell ⟨w.heap.size, 0, none⟩ (.bool b2)).setCell ⟨w.heap.size, 1, none⟩ (.slice A2 m2 c2)).drew → Below w.heap.size w wx := fun wx e => by subst e; exact ⟨hfin.out.2.os, hfin.out.2.tape, hfin.out.2.output, hfin.out.2.size, hfin.out.2.block⟩
          unfold WholesR
          first
            | exact ⟨_, _, _, _, false, x, rfl, (fun h => by cases h), hx80.out, hfin.out.1, hfin.out.2⟩
            | exact ⟨_, _, _, _, false, x, rfl, (fun h => by cases h), hx80.out, hfin.out.1.below (below_drew _), hB _ rfl⟩
  · go_enter Tryz.func8, Tryz.ntmps8
    have hfin := Hd.mk (hsl.out.num (u0 := .bool false) (u1 := .slice none 0 0) hb0.out (num_zero _))
    obtain ⟨q1, q2, q3, q4, q5, q6⟩ := hsl.out
    go_wp2
    refine bodyPost_ret (v := .tuple #[.agg #[.bool false, .slice none 0 0], .bool false]) (by simp [results, Tryz.results8, go_sem, q2, q3, q4, q5, q6]) rfl ?_
    unfold WholesR
    first | exact ⟨_, _, _, _, false, 0, rfl, (fun h => by cases h), by decide, hfin.out.1, hfin.out.2⟩ | exact ⟨_, _, _, _, false, 0, rfl, (fun h => by cases h), by decide, num_zero _, hb0.out⟩
end Go.Proofs.YtpabbnogfflgpaaGreatDoor
