/- The reference's numbers: digits read off a text. The reference's numbers: Read. The reference's numbers: Prec, Two, Most, Within, Parts. The reference's numbers: Most, Within. The reference's numbers: Parts. The thin package: a call whose panic is caught. Texts of numbers: what a scan of them reads (plain). Texts to Ints: the sign, Int.scan, SetString in base ten. Conditions: those that each theorem states. -/
import Derived.Test.YtdbjdpooggaonaaGreatDoorBase18
import Derived.Test.YtdbjdpooggaonaaGreatDoorBase15
import Derived.Lib.SlicesS
import Derived.Deep.DeepCutAuto
import Derived.Test.YtdbjdpooggaonaaGreatDoorBase20
import Derived.Recover
import Derived.Test.YtdbjdpooggaonaaGreatDoorBase13
import Derived.Test.YtdbjdpooggaonaaGreatDoorBase16
import Derived.Test.YtdbjdpooggaonaaGreatDoorBase12
set_option linter.all false

section
namespace Go.Proofs.YtdbjdpooggaonaaGreatDoor
open Go.RowKit
set_option maxRecDepth 100000
theorem val_text (s : ByteArray) (p : Nat) : ∀ n, T.val n (fun j => ch s (p + n - 1 - j) - 48) = dn s p n
  | 0 => rfl
  | n + 1 => by
    rw [T.val_head, dn, ← val_text s p n]
    have e : T.val n (fun i => ch s (p + (n + 1) - 1 - (i + 1)) - 48) = T.val n (fun j => ch s (p + n - 1 - j) - 48) := T.val_ext fun i hi => by
      rw [show p + (n + 1) - 1 - (i + 1) = p + n - 1 - i by omega]
    rw [e]
    show ch s (p + (n + 1) - 1 - 0) - 48 + 10 * _ = _
    rw [show p + (n + 1) - 1 - 0 = p + n by omega]; omega
theorem str_empty (s : ByteArray) : (s.toList == (ByteArray.mk #[]).toList) = decide (s.size = 0) := by
  rw [← beq_toListBytes]
  by_cases h0 : s.size = 0
  · have : s = ByteArray.mk #[] := by
      apply ByteArray.ext
      exact Array.eq_empty_of_size_eq_zero h0
    rw [this]; rfl
  · rw [decide_eq_false h0]
    cases e : s == ByteArray.mk #[] with
    | false => rfl
    | true =>
      have e2 : s.data == #[] := e
      have e3 : s.data = #[] := by simpa using e2
      exact absurd (show s.size = 0 by show s.data.size = 0; rw [e3]; rfl) h0
theorem num_zero (w : World) : NumV w (.agg #[.bool false, .slice none 0 0]) 0 := by
  have hw0 : T.wlen 0 = 0 := Nat.le_zero.1 (T.wlen_le (n := 0) (by decide))
  refine ⟨.slice none 0 0, rfl, ?_⟩
  show DS w _ (T.wlen 0) _
  rw [hw0]
  exact ⟨none, 0, rfl, Nat.le_refl _, Nat.zero_le _, fun h => by omega⟩
set_option maxHeartbeats 2000000 in
theorem digits_any (s : ByteArray) (m : Nat) (w : World) (hs : s.size < 200) (hm : m ≤ s.size) (hd : ∀ j, j < m → isD (ch s (s.size - 1 - j))) (hend : m = s.size ∨ (m < s.size ∧ ¬ isD (ch s (s.size - 1 - m)))) :
    Calls Tryz.prog 124 #[.string s] w fun e w' => ∃ v, e = .returned (.tuple #[v, .bool (decide (m = s.size ∧ s.size ≠ 0))]) ∧ (m = s.size → NumV w' v (dn s 0 s.size : Nat)) ∧ (∃ b A n c, v = .agg #[.bool b, .slice A n c]) ∧ Below w.heap.size w w' := by
  have hsl := Hd.mk (Slot.start w)
  generalize hw0 : w.alloc (.cells #[.bool false, .slice none 0 0] 24) = w0 at hsl
  have hb0 : Below w.heap.size w w0 := by subst hw0; exact (Below.refl _ _).alloc (Nat.le_refl _) _
  have hse := str_empty s
  generalize hE : decide (s.size = 0) = bz at hse
  have hse2 : s.toList.isEmpty = bz := by rw [← hse]; cases s.toList with | nil => (rw [show (ByteArray.mk #[]).toList = [] from by simp [ByteArray.toList_eq]]; rfl) | cons a l => (rw [show (ByteArray.mk #[]).toList = [] from by simp [ByteArray.toList_eq]]; rfl)
  replace hE := Hd.mk hE
  have hval := Hd.mk (val_text s 0 s.size)
  replace hb0 := Hd.mk hb0
  replace hd := Hd.mk hd
  replace hend := Hd.mk hend
  have hwi : IntKind.i64.wrap ((s.size : Int) - 1) = (s.size : Int) - 1 := IntWalk.i64_in _ (by omega)
  go_enter Tryz.func124, Tryz.ntmps124
  go_wp2
  replace hw0 := Hd.mk hw0
  go_loopw [4, 5] (fun d i wr => ∃ k q : Nat, k + q = s.size ∧ k ≤ m ∧ i = .int .i64 ((q : Int) - 1) ∧ Hd (OwD w0 wr d k (fun j => ch s (s.size - 1 - j) - 48))) (fun _ i _ => (intOf i + 1).toNat)
  case atStart => exact ⟨0, s.size, by omega, Nat.zero_le _, rfl, ⟨OwD.nil _ _⟩⟩
  case round =>
    obtain ⟨k, q, hkq, hkm, rfl, how⟩ := hrel
    rcases Nat.eq_zero_or_pos q with hq0 | hq0
    · subst hq0
      have hks : k = s.size := by omega
      have hms : m = s.size := by omega
      obtain ⟨A, c, rfl, hdd⟩ := how.out.ds
      have hfl : ∀ i, i < k → ch s (s.size - 1 - i) - 48 < 10 := fun i hi => by have := hd.out i (by omega); unfold isD at this; omega
      have hsg := Hd.mk (nv (signed_any false _ k _ wr how.out.ds hfl (by omega)))
      have hvv : T.val k (fun j => ch s (s.size - 1 - j) - 48) = dn s 0 s.size := by
        have := hval.out
        rw [Nat.zero_add] at this
        rw [hks]; exact this
      rw [hvv, if_neg (by decide)] at hsg
      have hsr := Hd.mk (hsl.out.below how.out.bel)
      have hbr := Hd.mk (hb0.out.trans (how.out.bel.mono hb0.out.size))
      have hre : decide (m = s.size ∧ s.size ≠ 0) = !bz := by rw [hms, ← hE.out]; by_cases h : s.size = 0 <;> simp [h]
      replace hre := Hd.mk hre
      replace hvv := Hd.mk hvv
      replace hfl := Hd.mk hfl
      replace hdd := Hd.mk hdd
      replace hms := Hd.mk hms
      replace hks := Hd.mk hks
      go_wp2_with (go_at_call 114; refine hsg.out.mono ?_; rintro e w2 ⟨b, A2, m2, c2, rfl, hnv, hb⟩; obtain ⟨q1, q2, q3, q4, q5, q6⟩ := hsr.out.below hb; have hfin := Hd.mk ((hsr.out.below hb).num (u0 := .bool b) (u1 := .slice A2 m2 c2) (hbr.out.trans (hb.mono hbr.out.size)) hnv); clear hb hnv)
      rw [hre.out]
      refine bodyPost_ret (v := .tuple #[.agg #[.bool b, .slice A2 m2 c2], .bool (!bz)]) (by simp [results, Tryz.results124, go_sem, q2, q3, q4, q5, q6]) rfl ⟨_, rfl, fun _ => hfin.out.1, ⟨_, _, _, _, rfl⟩, hfin.out.2⟩
    · obtain ⟨j, rfl⟩ : ∃ j, q = j + 1 := ⟨q - 1, by omega⟩
      rw [show ((j + 1 : Nat) : Int) - 1 = (j : Int) by omega]
      have hjs : j < s.size := by omega
      have hix := ch_eq (s := s) (k := j) hjs
      have hcl := ch_lt s j
      have hjk : s.size - 1 - k = j := by omega
      by_cases hkl : k < m
      · have hD := hd.out k hkl
        rw [hjk] at hD
        have hfk : Hd (ch s (s.size - 1 - k) - 48 = ch s j - 48) := ⟨by rw [hjk]⟩
        generalize ch s j = c at *
        unfold isD at hD
        obtain ⟨d0, rfl⟩ : ∃ d, c = d + 48 := ⟨c - 48, by omega⟩
        rw [Nat.add_sub_cancel] at hfk
        have hw1 : IntKind.u8.wrap (((d0 + 48 : Nat) : Int) - 48) = (d0 : Int) := by rw [IntWalk.u8_in _ (by omega)]; omega
        have hlo : decide (((d0 + 48 : Nat) : Int) < 48) = false := decide_eq_false (by omega)
        have hhi : decide (57 < ((d0 + 48 : Nat) : Int)) = false := decide_eq_false (by omega)
        have hwj : IntKind.i64.wrap ((j : Int) - 1) = (j : Int) - 1 := IntWalk.i64_in _ (by omega)
        replace hse := Hd.mk hse
        replace hse2 := Hd.mk hse2
        replace hjk := Hd.mk hjk
        go_wp2_with (at_builtin; refine wpList_push rfl (.tmp 24) (.tmp 29) rfl _ k (fun j => ch s (s.size - 1 - j) - 48) rfl how.out _ ?hc rfl (by omega) ?_; (case hc => (show (d0 : Int) = ((ch s (s.size - 1 - k) - 48 : Nat) : Int); rw [hfk.out])); intro v' w' how2 hv' hb2 hsz2; obtain ⟨g', cap', rfl⟩ := hv'; replace how2 := Hd.mk how2; replace hb2 := Hd.mk hb2)
        go_roundw
        case rel => exact ⟨k + 1, j, by omega, by omega, rfl, how2⟩
        case measure => simp [intOf] <;> omega
      · have hkm2 : k = m := by omega
        have hD := hend.out.resolve_left (by omega)
        have hD2 := hD.2
        rw [← hkm2, hjk] at hD2
        have hne : ¬ m = s.size := by omega
        have hre : decide (m = s.size ∧ s.size ≠ 0) = false := decide_eq_false (fun h => hne h.1)
        have hsr := hsl.out.below how.out.bel
        have hfin := Hd.mk (hsr.num (u0 := .bool false) (u1 := .slice none 0 0) (hb0.out.trans (how.out.bel.mono hb0.out.size)) (num_zero _))
        obtain ⟨q1, q2, q3, q4, q5, q6⟩ := hsr
        generalize ch s j = c at *
        have hD3 : c < 48 ∨ 57 < c := by unfold isD at hD2; omega
        replace hne := Hd.mk hne
        replace hre := Hd.mk hre
        replace hD := Hd.mk hD
        replace hD2 := Hd.mk hD2
        replace hse := Hd.mk hse
        replace hse2 := Hd.mk hse2
        replace hjk := Hd.mk hjk
        rcases hD3 with h3 | h3
        · have hlo : decide ((c : Int) < 48) = true := decide_eq_true (by omega)
          go_wp2
          rw [hre.out]
          refine bodyPost_ret (v := .tuple #[.agg #[.bool false, .slice none 0 0], .bool false]) (by simp [results, Tryz.results124, go_sem, q2, q3, q4, q5, q6]) rfl ⟨_, rfl, fun h => absurd h hne.out, ⟨_, _, _, _, rfl⟩, hfin.out.2⟩
        · have hlo : decide ((c : Int) < 48) = false := decide_eq_false (by omega)
          have hhi : decide (57 < (c : Int)) = true := decide_eq_true (by omega)
          go_wp2
          rw [hre.out]
          refine bodyPost_ret (v := .tuple #[.agg #[.bool false, .slice none 0 0], .bool false]) (by simp [results, Tryz.results124, go_sem, q2, q3, q4, q5, q6]) rfl ⟨_, rfl, fun h => absurd h hne.out, ⟨_, _, _, _, rfl⟩, hfin.out.2⟩
end Go.Proofs.YtdbjdpooggaonaaGreatDoor
end

section
namespace Go.Proofs.YtdbjdpooggaonaaGreatDoor
open Go.RowKit
set_option maxRecDepth 100000
theorem trail (t : ByteArray) : ∀ n, n ≤ t.size → ∃ m, m ≤ n ∧ (∀ j, j < m → isD (ch t (t.size - 1 - j))) ∧ (m = n ∨ (m < n ∧ ¬ isD (ch t (t.size - 1 - m))))
  | 0, _ => ⟨0, Nat.le_refl _, fun j hj => by omega, .inl rfl⟩
  | n + 1, h => by
    obtain ⟨m, h1, h2, h3⟩ := trail t n (by omega)
    rcases h3 with h3 | ⟨h3, h4⟩
    · by_cases hd : isD (ch t (t.size - 1 - n))
      · refine ⟨n + 1, Nat.le_refl _, fun j hj => ?_, .inl rfl⟩
        by_cases e : j = n
        · subst e; exact hd
        · exact h2 j (by omega)
      · exact ⟨n, by omega, fun j hj => h2 j (by omega), .inr ⟨by omega, hd⟩⟩
    · exact ⟨m, by omega, h2, .inr ⟨by omega, h4⟩⟩
/-- The text without its sign. -/
def unsig (s : ByteArray) : Bool × ByteArray := if 1 < s.size ∧ ch s 0 = 45 then (true, s.extract 1 s.size) else (false, s)
theorem bts_extract (s : ByteArray) : bts (s.extract 1 s.size) = (bts s).drop 1 := by
  unfold bts
  rw [ByteArray.data_extract]
  simp
  exact List.take_of_length_le (by simp)
theorem unsig_law (s : ByteArray) : if (unsig s).1 = true then bts s = 45 :: bts (unsig s).2 else s = (unsig s).2 := by
  unfold unsig
  split
  · next h =>
    show bts s = 45 :: bts (s.extract 1 s.size)
    rw [bts_extract]
    have h1 := ch_get (s := s) (k := 0) (by omega)
    cases e : bts s with
    | nil => rw [e] at h1; cases h1
    | cons a l => rw [e] at h1; simp at h1; rw [h1, h.2]; rfl
  · rfl
theorem unsig_size (s : ByteArray) : (unsig s).2.size ≤ s.size := by
  have h := unsig_law s
  have h1 := bts_length s
  have h2 := bts_length (unsig s).2
  split at h
  · rw [h, List.length_cons] at h1; omega
  · rw [← h]; exact Nat.le_refl _
theorem str_zero (t : ByteArray) : (t.toList == (ByteArray.mk #[48]).toList) = decide (bts t = [48]) := by
  by_cases h : t = ByteArray.mk #[48]
  · rw [(Go.Lib.bytes_beq_iff _ _).2 h, h]; rfl
  · rw [(Go.Lib.bytes_beq_false_iff _ _).2 h]
    refine (decide_eq_false fun e => h ?_).symm
    apply bts_inj
    rw [e]; rfl
theorem num_sign {w2 w4 : World} {b2 neg : Bool} {A2 : Option Addr} {n2 c2 k : Nat} (h : NumV w2 (.agg #[.bool b2, .slice A2 n2 c2]) (k : Int)) (hb : Below w2.heap.size w2 w4) (hk : neg = true → k ≠ 0) :
    NumV w4 (.agg #[.bool neg, .slice A2 n2 c2]) (if neg = true then -(k : Int) else (k : Int)) := by
  obtain ⟨d, e, hd⟩ := h.below hb
  cases e
  rw [Int.natAbs_natCast] at hd
  refine ⟨.slice A2 n2 c2, ?_, ?_⟩
  · cases neg
    · rw [if_neg (by decide), decide_eq_false (by omega)]
    · have := hk rfl
      rw [if_pos rfl, decide_eq_true (by omega)]
  · cases neg
    · rw [if_neg (by decide), Int.natAbs_natCast]; exact hd
    · rw [if_pos rfl, Int.natAbs_neg, Int.natAbs_natCast]; exact hd
set_option maxHeartbeats 4000000 in
theorem read_any (s : ByteArray) (w : World) (hs : s.size < 200) :
    Calls Tryz.prog 31 #[.string s] w fun e w' => ∃ v ok, e = .returned (.tuple #[v, .bool ok]) ∧ (∃ b A n c, v = .agg #[.bool b, .slice A n c]) ∧ (ok = true → ∃ x : Int, s = zT x ∧ NumV w' v x) ∧ Below w.heap.size w w' := by
  have hlaw := unsig_law s
  have hts := unsig_size s
  generalize hneg : (unsig s).1 = neg at hlaw
  generalize ht : (unsig s).2 = t at hlaw hts
  have hun : Hd (unsig s = (neg, t)) := ⟨by rw [← hneg, ← ht]⟩
  clear hneg ht
  obtain ⟨m, hm1, hm2, hm3⟩ := trail t t.size (Nat.le_refl _)
  have hdg := Hd.mk fun w1 => digits_any t m w1 (by omega) hm1 hm2 hm3
  have hread := Hd.mk (read_law (s := s) (t := t) (neg := neg) hlaw)
  have hsl := Hd.mk (Slot.start w)
  generalize hw0 : w.alloc (.cells #[.bool false, .slice none 0 0] 24) = w0 at hsl
  have hb0 : Below w.heap.size w w0 := by subst hw0; exact (Below.refl _ _).alloc (Nat.le_refl _) _
  have hz := str_zero t
  have hzz : (t.toList == [48]) = decide (bts t = [48]) := by rw [← hz]; congr 1; simp [ByteArray.toList_eq]
  replace hlaw := Hd.mk hlaw
  replace hm2 := Hd.mk hm2
  replace hm3 := Hd.mk hm3
  replace hb0 := Hd.mk hb0
  go_enter Tryz.func31, Tryz.ntmps31
  go_upto_region 1 with fail
  go_cut [4] (fun ng wx => ng = .bool neg ∧ wx = w0)
  case first =>
    have hu := hun.out
    unfold unsig at hu
    replace hz := Hd.mk hz; replace hzz := Hd.mk hzz
    by_cases h1 : 1 < s.size
    · have hix := ch_eq (s := s) (k := 0) (by omega)
      by_cases h2 : ch s 0 = 45
      · rw [if_pos ⟨h1, h2⟩] at hu
        obtain ⟨rfl, rfl⟩ := Prod.mk.inj hu
        rw [h2] at hix
        have hss : 1 ≤ s.size := by omega
        go_wp2_with fail
        go_meet
        exact ⟨rfl, rfl⟩
      · rw [if_neg (fun h => h2 h.2)] at hu
        obtain ⟨rfl, rfl⟩ := Prod.mk.inj hu
        have h45 : ((ch s 0 : Int) == 45) = false := by simp; omega
        generalize ch s 0 = c at *
        go_wp2_with fail
        go_meet
        exact ⟨rfl, rfl⟩
    · rw [if_neg (fun h => h1 h.1)] at hu
      obtain ⟨rfl, rfl⟩ := Prod.mk.inj hu
      go_wp2_with fail
      go_meet
      exact ⟨rfl, rfl⟩
  case rest =>
  obtain ⟨rfl, rfl⟩ := hcut
  have hex : if neg = true then s.extract 1 s.size = t ∧ 1 ≤ s.size else s = t := by
    have hu := hun.out
    unfold unsig at hu
    split at hu
    · next h => obtain ⟨rfl, rfl⟩ := Prod.mk.inj hu; exact ⟨rfl, by omega⟩
    · obtain ⟨rfl, rfl⟩ := Prod.mk.inj hu; rfl
  cases neg
  · simp only [Bool.false_eq_true, if_false] at hex
    subst hex
    by_cases hok : m = s.size ∧ s.size ≠ 0
    · rw [decide_eq_true hok] at hdg
      have hDa : Hd (∀ k, k < s.size → isD (ch s k)) := ⟨fun k hk => by have := hm2.out (s.size - 1 - k) (by omega); rwa [show s.size - 1 - (s.size - 1 - k) = k by omega] at this⟩
      have hix := ch_eq (s := s) (k := 0) (by omega)
      replace hok := Hd.mk hok
      by_cases hz1 : 1 < s.size ∧ ch s 0 = 48
      · obtain ⟨hz1, hz2⟩ := hz1
        rw [hz2] at hix
        replace hz := Hd.mk hz; replace hzz := Hd.mk hzz
        go_wp2_with (go_at_call 124; refine (hdg.out _).mono ?_; rintro e w2 ⟨v2, rfl, hn2, ⟨b2, A2, n2, c2, hv2⟩, hb2⟩; subst hv2; have hsb := Hd.mk (hsl.out.below hb2); have hbb := Hd.mk (hb0.out.trans (hb2.mono hb0.out.size)); obtain ⟨q1, q2, q3, q4, q5, q6⟩ := hsb.out; clear hb2; replace hn2 := Hd.mk hn2)
        have hfn := hsb.out.num (u0 := .bool false) (u1 := .slice none 0 0) hbb.out (num_zero _)
        have hfin := Hd.mk (hfn.2.alloc hfn.2.size (.cells #[.bool b2, .slice A2 n2 c2] 24))
        refine bodyPost_ret (v := .tuple #[.agg #[.bool false, .slice none 0 0], .bool false]) (by simp [results, Tryz.results31, go_sem, q2, q3, q4, q5, q6]) rfl ⟨_, false, rfl, ⟨_, _, _, _, rfl⟩, (fun h => by cases h), hfin.out⟩
      · have hz3 : s.size = 1 ∨ ch s 0 ≠ 48 := by have := hok.out.2; omega
        have hres := Hd.mk (hread.out hDa.out hok.out.2 hz3 (fun h => by cases h))
        have hgood : Hd (∀ w2 w4 b2 A2 n2 c2, NumV w2 (.agg #[.bool b2, .slice A2 n2 c2]) ((dn s 0 s.size : Nat) : Int) → Below w2.heap.size w2 w4 → NumV w4 (.agg #[.bool false, .slice A2 n2 c2]) (if false = true then -((dn s 0 s.size : Nat) : Int) else ((dn s 0 s.size : Nat) : Int))) := ⟨fun w2 w4 b2 A2 n2 c2 h1 h2 => num_sign h1 h2 (fun h => by cases h)⟩
        generalize ch s 0 = c0 at *
        replace hz := Hd.mk hz; replace hzz := Hd.mk hzz
        rcases Nat.lt_or_ge 1 s.size with hz4 | hz4
        · have hz5 : decide (1 < (s.size : Int)) = true := decide_eq_true (by omega)
          have h48 : ((c0 : Int) == 48) = false := by simp; omega
          replace hz1 := Hd.mk hz1
          replace hz3 := Hd.mk hz3
          go_wp2_with (go_at_call 124; refine (hdg.out _).mono ?_; rintro e w2 ⟨v2, rfl, hn2, ⟨b2, A2, n2, c2, hv2⟩, hb2⟩; subst hv2; have hsb := Hd.mk (hsl.out.below hb2); have hbb := Hd.mk (hb0.out.trans (hb2.mono hb0.out.size)); obtain ⟨q1, q2, q3, q4, q5, q6⟩ := hsb.out; clear hb2; replace hn2 := Hd.mk hn2)
          have hnum := hgood.out _ _ _ _ _ _ (hn2.out hok.out.1) (Below.refl _ _)
          have hfn := hsb.out.num (u0 := .bool false) (u1 := .slice A2 n2 c2) hbb.out hnum
          have hfin := Hd.mk (And.intro (hfn.1.below ((Below.refl _ _).alloc (Nat.le_refl _) (.cells #[.bool false, .slice A2 n2 c2] 24))) (hfn.2.alloc hfn.2.size (.cells #[.bool false, .slice A2 n2 c2] 24)))
          replace hfn := Hd.mk hfn
          replace hnum := Hd.mk hnum
          refine bodyPost_ret (v := .tuple #[.agg #[.bool false, .slice A2 n2 c2], .bool true]) (by simp [results, Tryz.results31, go_sem, q2, q3, q4, q5, q6]) rfl ⟨_, true, rfl, ⟨_, _, _, _, rfl⟩, fun _ => ⟨_, hres.out, hfin.out.1⟩, hfin.out.2⟩
        · have hz5 := decide_eq_false (p := 1 < (s.size : Int)) (by omega)
          replace hz4 := Hd.mk hz4
          replace hz1 := Hd.mk hz1
          replace hz3 := Hd.mk hz3
          go_wp2_with (go_at_call 124; refine (hdg.out _).mono ?_; rintro e w2 ⟨v2, rfl, hn2, ⟨b2, A2, n2, c2, hv2⟩, hb2⟩; subst hv2; have hsb := Hd.mk (hsl.out.below hb2); have hbb := Hd.mk (hb0.out.trans (hb2.mono hb0.out.size)); obtain ⟨q1, q2, q3, q4, q5, q6⟩ := hsb.out; clear hb2; replace hn2 := Hd.mk hn2)
          have hnum := hgood.out _ _ _ _ _ _ (hn2.out hok.out.1) (Below.refl _ _)
          have hfn := hsb.out.num (u0 := .bool false) (u1 := .slice A2 n2 c2) hbb.out hnum
          have hfin := Hd.mk (And.intro (hfn.1.below ((Below.refl _ _).alloc (Nat.le_refl _) (.cells #[.bool false, .slice A2 n2 c2] 24))) (hfn.2.alloc hfn.2.size (.cells #[.bool false, .slice A2 n2 c2] 24)))
          replace hfn := Hd.mk hfn
          replace hnum := Hd.mk hnum
          refine bodyPost_ret (v := .tuple #[.agg #[.bool false, .slice A2 n2 c2], .bool true]) (by simp [results, Tryz.results31, go_sem, q2, q3, q4, q5, q6]) rfl ⟨_, true, rfl, ⟨_, _, _, _, rfl⟩, fun _ => ⟨_, hres.out, hfin.out.1⟩, hfin.out.2⟩
    · rw [decide_eq_false hok] at hdg
      replace hok := Hd.mk hok
      replace hz := Hd.mk hz; replace hzz := Hd.mk hzz
      go_wp2_with (go_at_call 124; refine (hdg.out _).mono ?_; rintro e w2 ⟨v2, rfl, hn2, ⟨b2, A2, n2, c2, hv2⟩, hb2⟩; subst hv2; have hsb := Hd.mk (hsl.out.below hb2); have hbb := Hd.mk (hb0.out.trans (hb2.mono hb0.out.size)); obtain ⟨q1, q2, q3, q4, q5, q6⟩ := hsb.out; clear hb2; replace hn2 := Hd.mk hn2)
      have hfn := hsb.out.num (u0 := .bool false) (u1 := .slice none 0 0) hbb.out (num_zero _)
      have hfin := Hd.mk (hfn.2.alloc hfn.2.size (.cells #[.bool b2, .slice A2 n2 c2] 24))
      refine bodyPost_ret (v := .tuple #[.agg #[.bool false, .slice none 0 0], .bool false]) (by simp [results, Tryz.results31, go_sem, q2, q3, q4, q5, q6]) rfl ⟨_, false, rfl, ⟨_, _, _, _, rfl⟩, (fun h => by cases h), hfin.out⟩
  · simp only [if_true] at hex
    obtain ⟨hex, hs1⟩ := hex
    by_cases hok : m = t.size ∧ t.size ≠ 0
    · rw [decide_eq_true hok] at hdg
      have hDa : Hd (∀ k, k < t.size → isD (ch t k)) := ⟨fun k hk => by have := hm2.out (t.size - 1 - k) (by omega); rwa [show t.size - 1 - (t.size - 1 - k) = k by omega] at this⟩
      have hix := ch_eq (s := t) (k := 0) (by omega)
      replace hok := Hd.mk hok
      by_cases hz1 : 1 < t.size ∧ ch t 0 = 48
      · obtain ⟨hz1, hz2⟩ := hz1
        rw [hz2] at hix
        replace hz := Hd.mk hz; replace hzz := Hd.mk hzz
        go_wp2_with (go_at_call 124; refine (hdg.out _).mono ?_; rintro e w2 ⟨v2, rfl, hn2, ⟨b2, A2, n2, c2, hv2⟩, hb2⟩; subst hv2; have hsb := Hd.mk (hsl.out.below hb2); have hbb := Hd.mk (hb0.out.trans (hb2.mono hb0.out.size)); obtain ⟨q1, q2, q3, q4, q5, q6⟩ := hsb.out; clear hb2; replace hn2 := Hd.mk hn2)
        have hfn := hsb.out.num (u0 := .bool false) (u1 := .slice none 0 0) hbb.out (num_zero _)
        have hfin := Hd.mk (hfn.2.alloc hfn.2.size (.cells #[.bool b2, .slice A2 n2 c2] 24))
        refine bodyPost_ret (v := .tuple #[.agg #[.bool false, .slice none 0 0], .bool false]) (by simp [results, Tryz.results31, go_sem, q2, q3, q4, q5, q6]) rfl ⟨_, false, rfl, ⟨_, _, _, _, rfl⟩, (fun h => by cases h), hfin.out⟩
      · have hz3 : t.size = 1 ∨ ch t 0 ≠ 48 := by have := hok.out.2; omega
        by_cases hz0 : bts t = [48]
        · rw [decide_eq_true hz0] at hz hzz
          have hsz1 : t.size = 1 := by have := bts_length t; rw [hz0] at this; exact this.symm
          generalize ch t 0 = c0 at *
          replace hz0 := Hd.mk hz0
          replace hz1 := Hd.mk hz1
          replace hz3 := Hd.mk hz3
          go_wp2_with (go_at_call 124; refine (hdg.out _).mono ?_; rintro e w2 ⟨v2, rfl, hn2, ⟨b2, A2, n2, c2, hv2⟩, hb2⟩; subst hv2; have hsb := Hd.mk (hsl.out.below hb2); have hbb := Hd.mk (hb0.out.trans (hb2.mono hb0.out.size)); obtain ⟨q1, q2, q3, q4, q5, q6⟩ := hsb.out; clear hb2; replace hn2 := Hd.mk hn2)
          have hfn := hsb.out.num (u0 := .bool false) (u1 := .slice none 0 0) hbb.out (num_zero _)
          have hfin := Hd.mk (hfn.2.alloc hfn.2.size (.cells #[.bool b2, .slice A2 n2 c2] 24))
          refine bodyPost_ret (v := .tuple #[.agg #[.bool false, .slice none 0 0], .bool false]) (by simp [results, Tryz.results31, go_sem, q2, q3, q4, q5, q6]) rfl ⟨_, false, rfl, ⟨_, _, _, _, rfl⟩, (fun h => by cases h), hfin.out⟩
        · rw [decide_eq_false hz0] at hz hzz
          have hres := Hd.mk (hread.out hDa.out hok.out.2 hz3 (fun _ => hz0))
          have hdn : dn t 0 t.size ≠ 0 := fun e => hz0 (by rw [read_pos hDa.out hok.out.2 hz3, e]; exact dtxt_nums (l := [48]) (by intro b hb; simp at hb; subst hb; unfold isD; omega) (by simp) (.inl rfl))
          have hgood : Hd (∀ w2 w4 b2 A2 n2 c2, NumV w2 (.agg #[.bool b2, .slice A2 n2 c2]) ((dn t 0 t.size : Nat) : Int) → Below w2.heap.size w2 w4 → NumV w4 (.agg #[.bool true, .slice A2 n2 c2]) (if true = true then -((dn t 0 t.size : Nat) : Int) else ((dn t 0 t.size : Nat) : Int))) := ⟨fun w2 w4 b2 A2 n2 c2 h1 h2 => num_sign h1 h2 (fun _ => hdn)⟩
          generalize ch t 0 = c0 at *
          replace hz0 := Hd.mk hz0
          replace hdn := Hd.mk hdn
          rcases Nat.lt_or_ge 1 t.size with hz4 | hz4
          · have hz5 : decide (1 < (t.size : Int)) = true := decide_eq_true (by omega)
            have h48 : ((c0 : Int) == 48) = false := by simp; omega
            replace hz1 := Hd.mk hz1
            replace hz3 := Hd.mk hz3
            go_wp2_with (go_at_call 124; refine (hdg.out _).mono ?_; rintro e w2 ⟨v2, rfl, hn2, ⟨b2, A2, n2, c2, hv2⟩, hb2⟩; subst hv2; have hsb := Hd.mk (hsl.out.below hb2); have hbb := Hd.mk (hb0.out.trans (hb2.mono hb0.out.size)); obtain ⟨q1, q2, q3, q4, q5, q6⟩ := hsb.out; clear hb2; replace hn2 := Hd.mk hn2)
            have hnum := hgood.out _ _ _ _ _ _ (hn2.out hok.out.1) (Below.refl _ _)
            have hfn := hsb.out.num (u0 := .bool true) (u1 := .slice A2 n2 c2) hbb.out hnum
            have hfin := Hd.mk (And.intro (hfn.1.below ((Below.refl _ _).alloc (Nat.le_refl _) (.cells #[.bool true, .slice A2 n2 c2] 24))) (hfn.2.alloc hfn.2.size (.cells #[.bool true, .slice A2 n2 c2] 24)))
            replace hfn := Hd.mk hfn
            replace hnum := Hd.mk hnum
            refine bodyPost_ret (v := .tuple #[.agg #[.bool true, .slice A2 n2 c2], .bool true]) (by simp [results, Tryz.results31, go_sem, q2, q3, q4, q5, q6]) rfl ⟨_, true, rfl, ⟨_, _, _, _, rfl⟩, fun _ => ⟨_, hres.out, hfin.out.1⟩, hfin.out.2⟩
          · have hz5 := decide_eq_false (p := 1 < (t.size : Int)) (by omega)
            replace hz4 := Hd.mk hz4
            replace hz1 := Hd.mk hz1
            replace hz3 := Hd.mk hz3
            go_wp2_with (go_at_call 124; refine (hdg.out _).mono ?_; rintro e w2 ⟨v2, rfl, hn2, ⟨b2, A2, n2, c2, hv2⟩, hb2⟩; subst hv2; have hsb := Hd.mk (hsl.out.below hb2); have hbb := Hd.mk (hb0.out.trans (hb2.mono hb0.out.size)); obtain ⟨q1, q2, q3, q4, q5, q6⟩ := hsb.out; clear hb2; replace hn2 := Hd.mk hn2)
            have hnum := hgood.out _ _ _ _ _ _ (hn2.out hok.out.1) (Below.refl _ _)
            have hfn := hsb.out.num (u0 := .bool true) (u1 := .slice A2 n2 c2) hbb.out hnum
            have hfin := Hd.mk (And.intro (hfn.1.below ((Below.refl _ _).alloc (Nat.le_refl _) (.cells #[.bool true, .slice A2 n2 c2] 24))) (hfn.2.alloc hfn.2.size (.cells #[.bool true, .slice A2 n2 c2] 24)))
            replace hfn := Hd.mk hfn
            replace hnum := Hd.mk hnum
            refine bodyPost_ret (v := .tuple #[.agg #[.bool true, .slice A2 n2 c2], .bool true]) (by simp [results, Tryz.results31, go_sem, q2, q3, q4, q5, q6]) rfl ⟨_, true, rfl, ⟨_, _, _, _, rfl⟩, fun _ => ⟨_, hres.out, hfin.out.1⟩, hfin.out.2⟩
    · rw [decide_eq_false hok] at hdg
      replace hok := Hd.mk hok
      replace hz := Hd.mk hz; replace hzz := Hd.mk hzz
      go_wp2_with (go_at_call 124; refine (hdg.out _).mono ?_; rintro e w2 ⟨v2, rfl, hn2, ⟨b2, A2, n2, c2, hv2⟩, hb2⟩; subst hv2; have hsb := Hd.mk (hsl.out.below hb2); have hbb := Hd.mk (hb0.out.trans (hb2.mono hb0.out.size)); obtain ⟨q1, q2, q3, q4, q5, q6⟩ := hsb.out; clear hb2; replace hn2 := Hd.mk hn2)
      have hfn := hsb.out.num (u0 := .bool false) (u1 := .slice none 0 0) hbb.out (num_zero _)
      have hfin := Hd.mk (hfn.2.alloc hfn.2.size (.cells #[.bool b2, .slice A2 n2 c2] 24))
      refine bodyPost_ret (v := .tuple #[.agg #[.bool false, .slice none 0 0], .bool false]) (by simp [results, Tryz.results31, go_sem, q2, q3, q4, q5, q6]) rfl ⟨_, false, rfl, ⟨_, _, _, _, rfl⟩, (fun h => by cases h), hfin.out⟩
end Go.Proofs.YtdbjdpooggaonaaGreatDoor
end

section
namespace Go.Proofs.YtdbjdpooggaonaaGreatDoor
open Go.RowKit
set_option maxRecDepth 100000
/-- The box of Two's number. -/
structure TwoSt (w wr : World) (K : Nat) (b : Bool) (A : Option Addr) (m c : Nat) (x : Int) : Prop where
  c0 : wr.cell? ⟨K, 0, none⟩ = some (.bool b)
  c1 : wr.cell? ⟨K, 1, none⟩ = some (.slice A m c)
  z0 : wr.frozen? ⟨K, 0, none⟩ = false
  z1 : wr.frozen? ⟨K, 1, none⟩ = false
  num : NumV wr (.agg #[.bool b, .slice A m c]) x
  slot : Slot w wr w.heap.size
  bel : Below w.heap.size w wr
  gt : w.heap.size < K
theorem TwoSt.below {w wr w5 : World} {K m c : Nat} {b : Bool} {A : Option Addr} {x : Int} (h : TwoSt w wr K b A m c x) (hb : Below wr.heap.size wr w5) : TwoSt w w5 K b A m c x :=
  ⟨cb hb h.c0, cb hb h.c1, fb hb h.c0 h.z0, fb hb h.c1 h.z1, h.num.below hb, h.slot.below hb, h.bel.trans (hb.mono h.bel.size), h.gt⟩
theorem TwoSt.next {w w5 : World} {K m c m5 c5 : Nat} {b b5 : Bool} {A A5 : Option Addr} {x y : Int} (h : TwoSt w w5 K b A m c x) (hn : NumV w5 (.agg #[.bool b5, .slice A5 m5 c5]) y) :
    TwoSt w ((w5.setCell ⟨K, 0, none⟩ (.bool b5)).setCell ⟨K, 1, none⟩ (.slice A5 m5 c5)) K b5 A5 m5 c5 y := by
  have hf := ret_num (u0 := .bool b5) (u1 := .slice A5 m5 c5) h.bel (Nat.le_of_lt h.gt) h.c0 h.c1 hn
  have hg := h.gt
  have hc1 : (w5.setCell ⟨K, 0, none⟩ (.bool b5)).cell? ⟨K, 1, none⟩ = some (.slice A m c) := by rw [World.cell?_setCell_other, h.c1]; intro e; cases e
  refine ⟨?_, World.cell?_setCell_same' _ _ _ (by rw [hc1]; rfl), ?_, ?_, hf.1, ⟨h.slot.ge, ?_, cs2 h.slot.c0 (by omega), cs2 h.slot.c1 (by omega), ?_, ?_⟩, hf.2, hg⟩
  · rw [World.cell?_setCell_other]
    · exact World.cell?_setCell_same' _ _ _ (by rw [h.c0]; rfl)
    · intro e; cases e
  · rw [World.frozen?_setCell, World.frozen?_setCell]; exact h.z0
  · rw [World.frozen?_setCell, World.frozen?_setCell]; exact h.z1
  · rw [World.size_setCell, World.size_setCell]; exact h.slot.lt
  · rw [World.frozen?_setCell, World.frozen?_setCell]; exact h.slot.z0
  · rw [World.frozen?_setCell, World.frozen?_setCell]; exact h.slot.z1
theorem pow2_wl {n : Nat} (h : n ≤ 1200) : T.wlen ((2 : Int) ^ n).natAbs < 900 := by
  have e : ((2 : Int) ^ n).natAbs = 2 ^ n := by rw [Int.natAbs_pow]; rfl
  rw [e]
  obtain ⟨k, hk, hn, h9⟩ : ∃ k : Nat, k ≠ 0 ∧ n ≤ 12 * k ∧ 4 * k < 900 := ⟨100, by decide, h, by decide⟩
  refine Nat.lt_of_le_of_lt (T.wlen_le (n := 4 * k) ?_) h9
  refine Nat.lt_of_le_of_lt (Nat.pow_le_pow_right (by decide) hn) ?_
  unfold T.BB
  rw [Nat.pow_mul, Nat.pow_mul]
  exact Nat.pow_lt_pow_left (by decide) hk
set_option maxHeartbeats 4000000 in
theorem two_any (n : Nat) (w : World) (hn : n < 1000) : Calls Tryz.prog 16 #[.int .i64 n] w fun e w' => ∃ v, e = .returned v ∧ NumV w' v (2 ^ n) ∧ Below w.heap.size w w' := by
  have hsl := Hd.mk (Slot.start w)
  have hb0 : Below w.heap.size w (w.alloc (.cells #[.bool false, .slice none 0 0] 24)) := (Below.refl _ _).alloc (Nat.le_refl _) _
  have ho1 := Hd.mk fun w1 => nv (of_nat 1 w1 (by omega))
  rw [show ((1 : Nat) : Int) = 1 from rfl] at ho1
  have ho2 := Hd.mk fun w1 => nv (of_nat 1125899906842624 w1 (by omega))
  rw [show ((1125899906842624 : Nat) : Int) = 1125899906842624 from rfl] at ho2
  replace hb0 := Hd.mk hb0
  go_enter Tryz.func16, Tryz.ntmps16
  go_wp2_with (go_at_call 13; refine (ho1.out _).mono ?_; rintro e w2 ⟨b, A, m, c, rfl, hnv, hb⟩; have hsb := Hd.mk (hsl.out.below hb); obtain ⟨q1, q2, q3, q4, q5, q6⟩ := hsb.out; have hbb := Hd.mk (hb0.out.trans (hb.mono hb0.out.size)); clear hb; replace hnv := Hd.mk hnv)
  have hst0 : TwoSt w (w2.alloc (.cells #[.bool b, .slice A m c] 24)) w2.heap.size b A m c (2 ^ (50 * 0)) := by
    have hbk := Blk.new w2 #[.bool b, .slice A m c] 24
    have hba : Below w2.heap.size w2 (w2.alloc (.cells #[.bool b, .slice A m c] 24)) := (Below.refl _ _).alloc (Nat.le_refl _) _
    exact ⟨hbk.cell 0, hbk.cell 1, hbk.frozen 0, hbk.frozen 1, hnv.out.below hba, hsb.out.below hba, hbb.out.trans (hba.mono hbb.out.size), q2⟩
  replace hst0 := Hd.mk hst0
  clear q1 q3 q4 q5 q6
  generalize w2.heap.size = K at *
  go_loopw [0] (fun nn wr => ∃ j k : Nat, nn = .int .i64 k ∧ k + 50 * j = n ∧ ∃ b A m c, Hd (TwoSt w wr K b A m c (2 ^ (50 * j)))) (fun nn _ => (intOf nn).toNat)
  case atStart => exact ⟨0, n, rfl, by omega, b, A, m, c, hst0⟩
  case round =>
    obtain ⟨j, k, rfl, hkj, b1, A1, m1, c1, hst⟩ := hrel
    obtain ⟨d0, d1, d2, d3, hnum, hslot, hbel, hgt⟩ := hst.out
    replace hnum := Hd.mk hnum
    replace hslot := Hd.mk hslot
    replace hbel := Hd.mk hbel
    have hwl := pow2_wl (n := 50 * j) (by omega)
    have hwl2 : T.wlen (1125899906842624 : Int).natAbs < 900 := pow2_wl (n := 50) (by omega)
    by_cases hk : 50 ≤ k
    · have hmul := Hd.mk fun w5 b4 A4 m4 c4 (h1 : NumV w5 (.agg #[.bool b1, .slice A1 m1 c1]) (2 ^ (50 * j))) (h2 : NumV w5 (.agg #[.bool b4, .slice A4 m4 c4]) 1125899906842624) => nv (ntimes_any _ _ _ _ w5 h1 h2 (by omega) (by omega))
      have hpw : (2 : Int) ^ (50 * j) * 1125899906842624 = 2 ^ (50 * (j + 1)) := by rw [Nat.mul_add, Int.pow_add]; rfl
      rw [hpw] at hmul
      replace hpw := Hd.mk hpw
      replace hwl := Hd.mk hwl
      replace hwl2 := Hd.mk hwl2
      have hwk : IntKind.i64.wrap ((k : Int) - 50) = ((k - 50 : Nat) : Int) := by rw [IntWalk.i64_in _ (by omega)]; omega
      go_wp2
      go_region_law (first | (go_simp; go_at_call 13; refine (ho2.out _).mono ?_; rintro e w4 ⟨b4, A4, m4, c4, rfl, hn4, hb4⟩; have hst4 := Hd.mk (hst.out.below (below_undrew hb4)); obtain ⟨f0, f1, f2, f3, _, _, _, _⟩ := hst4.out; clear hb4; replace hn4 := Hd.mk hn4) | (go_simp; go_at_call 29; refine (hmul.out _ _ _ _ _ hst4.out.num hn4.out).mono ?_; rintro e w5 ⟨b5, A5, m5, c5, rfl, hn5, hb5⟩; have hst5 := Hd.mk (hst4.out.below hb5); obtain ⟨g0, g1, g2, g3, _, _, _, _⟩ := hst5.out; clear hb5; replace hn5 := Hd.mk hn5))
      all_goals
        go_wp2
        go_roundw
        case rel => exact ⟨j + 1, k - 50, rfl, by omega, b5, A5, m5, c5, ⟨hst5.out.next hn5.out⟩⟩
        case measure => simp [intOf] <;> omega
    · have hp2 : 2 ^ k < 9223372036854775808 := Nat.lt_of_lt_of_le (Nat.pow_lt_pow_right (by decide) (show k < 50 by omega)) (by decide)
      have hwlk := pow2_wl (n := k) (by omega)
      have ho3 := Hd.mk fun w1 => nv (of_nat (2 ^ k) w1 hp2)
      have hmul := Hd.mk fun w5 b4 A4 m4 c4 (h1 : NumV w5 (.agg #[.bool b1, .slice A1 m1 c1]) (2 ^ (50 * j))) (h2 : NumV w5 (.agg #[.bool b4, .slice A4 m4 c4]) ((2 ^ k : Nat) : Int)) => nv (ntimes_any _ _ _ _ w5 h1 h2 (by omega) (by rw [show ((2 ^ k : Nat) : Int) = 2 ^ k by rw [Int.natCast_pow]; rfl]; omega))
      have hpw : (2 : Int) ^ (50 * j) * ((2 ^ k : Nat) : Int) = 2 ^ n := by rw [Int.natCast_pow, show ((2 : Nat) : Int) = 2 from rfl, ← Int.pow_add]; congr 1; omega
      rw [hpw] at hmul
      obtain ⟨P2, hP2⟩ : ∃ P2 : Nat, P2 = 2 ^ k := ⟨_, rfl⟩
      rw [← hP2] at ho3 hmul hp2
      have hwu : IntKind.u64.wrap (k : Int) = (k : Int) := IntWalk.u64_in _ (by omega)
      have h2k : (2 : Int) ^ k = (P2 : Int) := by rw [hP2, Int.natCast_pow]; rfl
      have hw2k : IntKind.i64.wrap ((2 : Int) ^ k) = (P2 : Int) := by rw [h2k]; exact IntWalk.i64_in _ (by omega)
      replace hP2 := Hd.mk hP2
      replace h2k := Hd.mk h2k
      replace hpw := Hd.mk hpw
      replace hwl := Hd.mk hwl
      replace hwl2 := Hd.mk hwl2
      replace hwlk := Hd.mk hwlk
      go_wp2
      go_region_law (first | (go_simp; go_at_call 13; refine (ho3.out _).mono ?_; rintro e w4 ⟨b4, A4, m4, c4, rfl, hn4, hb4⟩; have hst4 := Hd.mk (hst.out.below (below_undrew hb4)); obtain ⟨f0, f1, f2, f3, _, _, _, _⟩ := hst4.out; clear hb4; replace hn4 := Hd.mk hn4) | (go_simp; go_at_call 29; refine (hmul.out _ _ _ _ _ hst4.out.num hn4.out).mono ?_; rintro e w5 ⟨b5, A5, m5, c5, rfl, hn5, hb5⟩; have hst5 := Hd.mk (hst4.out.below hb5); obtain ⟨q1, q2, q3, q4, q5, q6⟩ := hst5.out.slot; have hfin := Hd.mk (hst5.out.slot.num (u0 := .bool b5) (u1 := .slice A5 m5 c5) hst5.out.bel hn5); clear hb5))
      all_goals
        go_wp2
        refine bodyPost_ret (v := .agg #[.bool b5, .slice A5 m5 c5]) (by simp [results, Tryz.results16, go_sem, q2, q3, q4, q5, q6]) rfl ⟨_, rfl, hfin.out.1, hfin.out.2⟩
end Go.Proofs.YtdbjdpooggaonaaGreatDoor
end

section
namespace Go.Proofs.YtdbjdpooggaonaaGreatDoor
open Go.RowKit
set_option maxRecDepth 100000
end Go.Proofs.YtdbjdpooggaonaaGreatDoor
end

section
namespace Go.Proofs.YtdbjdpooggaonaaGreatDoor
open Go.RowKit
set_option maxRecDepth 100000
theorem zT_wlen {s : ByteArray} {x : Int} {n : Nat} (h : s = zT x) (hs : s.size ≤ n) : T.wlen x.natAbs ≤ n := by
  refine T.wlen_le (Nat.lt_of_lt_of_le (lt_dlen x.natAbs) (Nat.pow_le_pow_right (by decide) ?_))
  have h1 := bts_length s
  rw [h, bts_zT, ztx_length] at h1
  rw [h] at hs
  omega
end Go.Proofs.YtdbjdpooggaonaaGreatDoor
end

section
namespace Go.Proofs.YtdbjdpooggaonaaGreatDoor
open Go.RowKit
set_option maxRecDepth 100000
theorem anyU : ∃ ms, Tryz.prog.underlying 20 = some (.interface ms) := by
  cases h : Tryz.prog.underlying 20 with
  | none => have h2 : (Tryz.prog.underlying 20).isSome = true := by kernel_rfl
            rw [h] at h2; cases h2
  | some u =>
    cases u with
    | interface ms => exact ⟨ms, rfl⟩
    | _ => exact absurd h (by intro h; have h2 : (match Tryz.prog.underlying 20 with | some (.interface _) => true | _ => false) = true := by kernel_rfl
                              rw [h] at h2; cases h2)
theorem any_nil (w : World) : (binOp .eql 20 .nilIface .nilIface).run Tryz.prog w = .ok (.bool true) w := by
  obtain ⟨ms, hm⟩ := anyU
  have h : ∀ d : Nat, (Op.equalIn (d + 1) 20 .nilIface .nilIface).run Tryz.prog w = .ok true w := fun d => by
    simp [Op.equalIn, run_underlying hm]
  simp only [binOp]
  simp [Op.equal, Op.maxDepth, h 9999]
theorem any_some (u : TypeId) (v : Value) (w : World) : (binOp .eql 20 (.iface u v) .nilIface).run Tryz.prog w = .ok (.bool false) w := by
  obtain ⟨ms, hm⟩ := anyU
  have h : ∀ d : Nat, (Op.equalIn (d + 1) 20 (.iface u v) .nilIface).run Tryz.prog w = .ok false w := fun d => by
    simp [Op.equalIn, run_underlying hm]
  simp only [binOp]
  simp [Op.equal, Op.maxDepth, h 9999]
theorem catch_idle (p : Addr) (x : Bool) (w : World) (hc : w.cell? p = some (.bool x)) (hz : w.frozen? p = false) :
    CallsD Tryz.prog 126 #[.pointer (some p)] .returning w fun e u' w' => e = .returned (.tuple #[]) ∧ u' = .returning ∧ w' = w.setCell p (.bool true) := by
  have ha := any_nil
  refine callsD_of_wpS Tryz.func126 rfl fun c₀ cs hu => ?_
  cases c₀
  simp only at hu
  subst hu
  apply wpS_region
  simp [wpOpsS, go_sem, recoverD, Tryz.ntmps126, ha, hc, hz, bodyPostS, results, Tryz.results126]
theorem catch_pan (p : Addr) (x : Bool) (u : TypeId) (pv : Value) (older : List PanicEntry) (w : World) (hc : w.cell? p = some (.bool x)) (hz : w.frozen? p = false) :
    CallsD Tryz.prog 126 #[.pointer (some p)] (.panicking ({ v := .iface u pv, recovered := false } :: older)) w fun e u' w' =>
      e = .returned (.tuple #[]) ∧ u' = .panicking ({ v := .iface u pv, recovered := true } :: older) ∧ w' = w.setCell p (.bool false) := by
  have ha := any_some
  refine callsD_of_wpS Tryz.func126 rfl fun c₀ cs hu => ?_
  cases c₀
  simp only at hu
  subst hu
  apply wpS_region
  simp [wpOpsS, go_sem, recoverD, Tryz.ntmps126, ha, hc, hz, bodyPostS, results, Tryz.results126]
/-- The world in which a guarded call begins. -/
abbrev okW (w : World) : World := w.alloc (.cells #[.bool false] 4)
set_option maxHeartbeats 2000000 in
theorem safe_ok (f : Nat) (caps : Array Value) (w : World) (A : World → Prop) (hcf : ∀ args w, (callFunc f args).run Tryz.prog w = .ok (.enter f args) w)
    (hf : Calls Tryz.prog f caps (okW w) fun e w2 => e = .returned (.tuple #[]) ∧ w2.heap[w.heap.size]? = (okW w).heap[w.heap.size]? ∧ A w2) :
    Calls Tryz.prog 33 #[.func (.func f) #[] caps] w fun e w' => e = .returned (.bool true) ∧ ∃ w2, A w2 ∧ Put w2 w' w.heap.size 4 [.bool true] := by
  have hmf : ∀ (fn : Fn) (first cap : Array Value) (w : World), (Instr.makeFunc fn first cap).run Tryz.prog w = .ok (.func fn first cap) w := fun _ _ _ _ => rfl
  go_enter_defers Tryz.func33, Tryz.ntmps33
  go_wp2_with fail
  refine hf.mono ?_
  rintro e w2 ⟨rfl, hb, hA⟩
  have hk := (Blk.new w #[.bool false] 4).of_heap hb
  have c0 := hk.cell 0
  have z0 := hk.frozen 0
  simp only [List.getElem?_cons_zero] at c0
  have c1 := World.cell?_setCell_same' w2 ⟨w.heap.size, 0, none⟩ (.bool true) (by rw [c0]; rfl)
  have z1 : (w2.setCell ⟨w.heap.size, 0, none⟩ (.bool true)).frozen? ⟨w.heap.size, 0, none⟩ = false := by rw [World.frozen?_setCell]; exact z0
  go_wp2
  refine leaves_cons (f := 126) (args := #[.pointer (some ⟨w.heap.size, 0, none⟩)]) (by simp) (by simp [go_sem]) ?_
  refine (catch_idle ⟨w.heap.size, 0, none⟩ true _ c1 z1).mono ?_
  rintro e u' w'' ⟨rfl, rfl, rfl⟩
  have c2 := World.cell?_setCell_same' (w2.setCell ⟨w.heap.size, 0, none⟩ (.bool true)) ⟨w.heap.size, 0, none⟩ (.bool true) (by rw [c1]; rfl)
  have hp := ((Put.refl hk).set 0 (.bool true)).set 0 (.bool true)
  simp [Leaves, settle, results, Tryz.results33, go_sem]
  exact ⟨.bool true, by rw [c2], rfl, w2, hA, hp⟩
set_option maxHeartbeats 2000000 in
theorem safe_pan (f : Nat) (caps : Array Value) (w : World) (A : World → Prop) (hcf : ∀ args w, (callFunc f args).run Tryz.prog w = .ok (.enter f args) w)
    (hf : Calls Tryz.prog f caps (okW w) fun e w2 => Pan e ∧ w2.heap[w.heap.size]? = (okW w).heap[w.heap.size]? ∧ A w2) :
    Calls Tryz.prog 33 #[.func (.func f) #[] caps] w fun e w' => e = .returned (.bool false) ∧ ∃ w2, A w2 ∧ Put w2 w' w.heap.size 4 [.bool false] := by
  have hmf : ∀ (fn : Fn) (first cap : Array Value) (w : World), (Instr.makeFunc fn first cap).run Tryz.prog w = .ok (.func fn first cap) w := fun _ _ _ _ => rfl
  go_enter_defers Tryz.func33, Tryz.ntmps33
  go_wp2_with fail
  refine hf.mono ?_
  rintro e w2 ⟨⟨u, pv, rfl⟩, hb, hA⟩
  have hk := (Blk.new w #[.bool false] 4).of_heap hb
  have c0 := hk.cell 0
  have z0 := hk.frozen 0
  simp only [List.getElem?_cons_zero] at c0
  refine leaves_cons (f := 126) (args := #[.pointer (some ⟨w.heap.size, 0, none⟩)]) (by simp) (by simp [go_sem]) ?_
  refine (catch_pan ⟨w.heap.size, 0, none⟩ false u pv [] _ c0 z0).mono ?_
  rintro e u' w'' ⟨rfl, rfl, rfl⟩
  have hp := (Put.refl hk).set 0 (.bool false)
  simp [Leaves, settle, results, Tryz.results33, go_sem, c0, z0]
  exact ⟨w2, hA, hp⟩
end Go.Proofs.YtdbjdpooggaonaaGreatDoor
end

section
namespace Go.Proofs.YtdbjdpooggaonaaGreatDoor
/-- The sign ahead of a number. -/
def sgP (s : ByteArray) : Bool × Nat := if ch s 0 = 45 then (true, 1) else if ch s 0 = 43 then (false, 1) else (false, 0)
/-- The number of a text's digits behind its sign. -/
def sgZ (s : ByteArray) (n : Nat) : Int := if (sgP s).1 = true then -(dn s (sgP s).2 n : Int) else (dn s (sgP s).2 n : Int)
theorem lead (s : ByteArray) (p : Nat) (hp : p ≤ s.size) : ∃ n, p + n ≤ s.size ∧ (∀ j, j < n → isD (ch s (p + j))) ∧ (p + n = s.size ∨ ¬ isD (ch s (p + n))) := by
  obtain ⟨k, hk⟩ : ∃ k, k = s.size - p := ⟨_, rfl⟩
  induction k generalizing p with
  | zero => exact ⟨0, by omega, fun j hj => by omega, .inl (by omega)⟩
  | succ k ih =>
    by_cases h : isD (ch s p)
    · obtain ⟨n, h1, h2, h3⟩ := ih (p + 1) (by omega) (by omega)
      refine ⟨n + 1, by omega, fun j hj => ?_, ?_⟩
      · cases j with
        | zero => exact h
        | succ j => have := h2 j (by omega); rwa [show p + (j + 1) = p + 1 + j by omega]
      · rwa [show p + (n + 1) = p + 1 + n by omega]
    · exact ⟨0, by omega, fun j hj => by omega, .inr h⟩
theorem dn_drop {s : ByteArray} {p : Nat} {l : List Nat} (h : ∀ k, k < l.length → ch s (p + k) = l.getD k 0) : ∀ k, k ≤ l.length → dn s p k = nums (l.take k)
  | 0, _ => by simp [dn, nums]
  | k + 1, hk => by
    rw [dn, dn_drop h k (by omega), List.take_succ_eq_append_getElem (by omega), nums_snoc, h k (by omega), List.getD_eq_getElem?_getD, List.getElem?_eq_getElem (by omega)]
    rfl
theorem scan_of {s : ByteArray} {neg : Bool} {l : List Nat} (hl : ∀ b, b ∈ l → isD b) (h0 : l ≠ []) (hs : bts s = (if neg = true then [45] else []) ++ l) :
    sgP s = (neg, if neg = true then 1 else 0) ∧ (sgP s).2 + l.length = s.size ∧ (∀ j, j < l.length → isD (ch s ((sgP s).2 + j))) ∧ sgZ s l.length = if neg = true then -(nums l : Int) else (nums l : Int) := by
  have hch : ∀ k, k < l.length → ch s ((if neg = true then 1 else 0) + k) = l.getD k 0 := fun k hk => by
    unfold ch; rw [hs]
    cases neg
    · simp
    · simp [Nat.add_comm 1 k]
  have hlen : (if neg = true then 1 else 0) + l.length = s.size := by
    rw [← bts_length, hs]; cases neg <;> simp <;> omega
  have hmem : ∀ k, k < l.length → isD (l.getD k 0) := fun k hk => hl _ (by rw [List.getD_eq_getElem?_getD, List.getElem?_eq_getElem hk]; exact List.getElem_mem hk)
  have hpos : 0 < l.length := List.length_pos_iff.2 h0
  have hsg : sgP s = (neg, if neg = true then 1 else 0) := by
    unfold sgP
    cases neg
    · have h1 := hch 0 hpos
      have h2 := hmem 0 hpos
      rw [← h1] at h2
      simp only [Bool.false_eq_true, if_false, Nat.zero_add] at h2
      unfold isD at h2
      rw [if_neg (by omega), if_neg (by omega)]; rfl
    · have : ch s 0 = 45 := by unfold ch; rw [hs]; rfl
      rw [if_pos this]; rfl
  refine ⟨hsg, by rw [hsg]; exact hlen, fun j hj => by rw [hsg]; rw [hch j hj]; exact hmem j hj, ?_⟩
  have hdn := dn_drop hch l.length (Nat.le_refl _)
  rw [List.take_length] at hdn
  unfold sgZ
  rw [hsg]
  simp only
  rw [hdn]
theorem scan_zT (x : Int) : (sgP (zT x)).2 + dlen x.natAbs = (zT x).size ∧ (∀ j, j < dlen x.natAbs → isD (ch (zT x) ((sgP (zT x)).2 + j))) ∧ sgZ (zT x) (dlen x.natAbs) = x := by
  have h := scan_of (s := zT x) (neg := decide (x < 0)) (l := dtxt false x.natAbs) (fun b hb => dtxt_isD hb) (dtxt_ne _) (by
    rw [bts_zT]
    by_cases h : x < 0
    · rw [ztx_neg h, decide_eq_true h]; rfl
    · rw [ztx_pos (by omega), decide_eq_false h]; rfl)
  rw [dtxt_len, nums_dtxt] at h
  refine ⟨h.2.1, h.2.2.1, h.2.2.2.trans ?_⟩
  by_cases h : x < 0
  · rw [decide_eq_true h, if_pos rfl]; omega
  · rw [decide_eq_false h, if_neg (by simp)]; omega
end Go.Proofs.YtdbjdpooggaonaaGreatDoor
end

section
namespace Go.Proofs.YtdbjdpooggaonaaGreatDoor
open Go.RowKit
set_option maxRecDepth 100000
/-- w' is w but for the blocks B and R, and new ones. -/
structure C2 (w w' : World) (B R : Nat) : Prop where
  os : w'.os = w.os
  tape : w'.tape = w.tape
  output : w'.output = w.output
  size : w.heap.size ≤ w'.heap.size
  block : ∀ k, k < w.heap.size → k ≠ B → k ≠ R → w'.heap[k]? = w.heap[k]?
section
variable {w w' w'' : World} {B R K : Nat} {E : TypeId} {ys : List Value} {s : ByteArray} {pos : Nat} {z : Value} {m : Nat}
theorem C2.refl (w : World) (B R : Nat) : C2 w w B R := ⟨rfl, rfl, rfl, Nat.le_refl _, fun _ _ _ _ => rfl⟩
theorem C2.putB (h : C2 w w' B R) (hp : Put w' w'' B E ys) : C2 w w'' B R := ⟨hp.os.trans h.os, hp.tape.trans h.tape, hp.output.trans h.output, by rw [hp.size]; exact h.size, fun k hk h1 h2 => (hp.other k h1).trans (h.block k hk h1 h2)⟩
theorem C2.putR (h : C2 w w' B R) (hp : Put w' w'' R E ys) : C2 w w'' B R := ⟨hp.os.trans h.os, hp.tape.trans h.tape, hp.output.trans h.output, by rw [hp.size]; exact h.size, fun k hk h1 h2 => (hp.other k h2).trans (h.block k hk h1 h2)⟩
theorem C2.rd (h : C2 w w' B R) (hr : RdTo w' w'' R s pos) : C2 w w'' B R := h.putR hr.choose_spec
theorem C2.sc (h : C2 w w' B R) (hs : Sc w' w'' R s pos z m) : C2 w w'' B R := ⟨hs.chg.os.trans h.os, hs.chg.tape.trans h.tape, hs.chg.output.trans h.output, Nat.le_trans h.size hs.chg.size, fun k hk h1 h2 => (hs.chg.block k (Nat.lt_of_lt_of_le hk h.size) (by simp; omega)).trans (h.block k hk h1 h2)⟩
theorem C2.cell (h : C2 w w' B R) {k : Nat} {i : Nat} {v : Value} (hc : w.cell? ⟨k, i, none⟩ = some v) (h1 : k ≠ B) (h2 : k ≠ R) : w'.cell? ⟨k, i, none⟩ = some v :=
  (World.cell?_of_block (w := w) (a := ⟨k, i, none⟩) (h.block k (World.block_lt_of_cell? w _ hc) h1 h2)).trans hc
theorem C2.chg {b : Nat} (h : C2 w w' B R) (hR : b ≤ R) {w0 : World} (hb : Below b w0 w) (hs : b = w0.heap.size) (hB : B < b) : Chg w0 w' (some B) :=
  ⟨h.os.trans hb.os, h.tape.trans hb.tape, h.output.trans hb.output, Nat.le_trans hb.size h.size, fun k hk hne => (h.block k (by have := hb.size; omega) (fun e => hne (by rw [e])) (by omega)).trans (hb.block k (by omega))⟩
theorem RdTo.trans {pos' : Nat} (h : RdTo w w' R s pos') (k : RdTo w' w'' R s pos) : RdTo w w'' R s pos := by
  obtain ⟨p1, h1⟩ := h
  obtain ⟨p2, h2⟩ := k
  exact ⟨p2, h1.trans h2⟩
theorem RdTo.at (h : RdTo w w' R s pos) : RdAt w' R s pos := RdAt.of_put h.choose_spec
end
theorem err_nil (a : Addr) (w : World) : (binOp .eql 113 (errV a) .nilIface).run Tryz.prog w = .ok (.bool false) w := by
  obtain ⟨ms, hm⟩ := errU
  have h : ∀ d : Nat, (Op.equalIn (d + 1) 113 (errV a) .nilIface).run Tryz.prog w = .ok false w := fun d => by
    simp [Op.equalIn, run_underlying hm]
  simp only [binOp]
  simp [Op.equal, Op.maxDepth, h 9999]
theorem nil_nil (w : World) : (binOp .eql 113 .nilIface .nilIface).run Tryz.prog w = .ok (.bool true) w := by
  obtain ⟨ms, hm⟩ := errU
  have h : ∀ d : Nat, (Op.equalIn (d + 1) 113 .nilIface .nilIface).run Tryz.prog w = .ok true w := fun d => by
    simp [Op.equalIn, run_underlying hm]
  simp only [binOp]
  simp [Op.equal, Op.maxDepth, h 9999]
theorem niln_nil (w : World) : (binOp .neq 113 .nilIface .nilIface).run Tryz.prog w = .ok (.bool false) w := by
  obtain ⟨ms, hm⟩ := errU
  have h : ∀ d : Nat, (Op.equalIn (d + 1) 113 .nilIface .nilIface).run Tryz.prog w = .ok true w := fun d => by
    simp [Op.equalIn, run_underlying hm]
  simp only [binOp]
  simp [Op.equal, Op.maxDepth, h 9999]
set_option maxHeartbeats 4000000 in
theorem scanSign_some (R : Nat) (s : ByteArray) (w : World) (hR : RdAt w R s 0) (h0 : 0 < s.size) (hs : s.size < 140) :
    Calls Tryz.prog 280 #[.iface 149 (ptr R)] w fun e w' => e = .returned (.tuple #[.bool (sgP s).1, .nilIface]) ∧ RdTo w w' R s (sgP s).2 := by
  have hrb := Hd.mk (ReadByte_ch R 0 s w hR h0 (by omega))
  have hm1 := methR
  have hm2 := methU
  have hnn := niln_nil
  have hub := Hd.mk fun w1 (h : RdTo w w1 R s (0 + 1)) => UnreadByte_any R 0 s w1 h.at (by omega)
  unfold sgP
  generalize ch s 0 = c at *
  replace hR := Hd.mk hR
  by_cases h45 : c = 45
  · subst h45
    go_enter Tryz.func280, Tryz.ntmps280
    go_wp2_with (go_at_call 395; refine hrb.out.mono ?_; rintro e w1 ⟨rfl, hr1⟩; replace hr1 := Hd.mk hr1)
    go_ret2
    exact ⟨rfl, hr1.out⟩
  · have e45 : ((c : Int) == 45) = false := by simp; omega
    rw [if_neg h45]
    by_cases h43 : c = 43
    · subst h43
      replace h45 := Hd.mk h45
      go_enter Tryz.func280, Tryz.ntmps280
      go_wp2_with (go_at_call 395; refine hrb.out.mono ?_; rintro e w1 ⟨rfl, hr1⟩; replace hr1 := Hd.mk hr1)
      go_ret2
      exact ⟨rfl, hr1.out⟩
    · have e43 : ((c : Int) == 43) = false := by simp; omega
      rw [if_neg h43]
      replace h45 := Hd.mk h45
      replace h43 := Hd.mk h43
      go_enter Tryz.func280, Tryz.ntmps280
      go_wp2_with (first | (go_at_call 395; refine hrb.out.mono ?_; rintro e w1 ⟨rfl, hr1⟩; replace hr1 := Hd.mk hr1) | (go_at_call 396; refine (hub.out _ hr1.out).mono ?_; rintro e w2 ⟨rfl, hr2⟩; replace hr2 := Hd.mk (hr1.out.trans hr2)))
      go_ret2
      exact ⟨rfl, hr2.out⟩
set_option maxHeartbeats 4000000 in
theorem IScan_ok (B R n : Nat) (s : ByteArray) (E N : Addr) (w : World) (hB : Blk w B 106 [.bool false, .slice none 0 0]) (hR : RdAt w R s 0) (hBR : B ≠ R) (hRg : 16 ≤ R) (hBg : 16 ≤ B) (hRl : R < w.heap.size) (h0 : 0 < s.size) (hs : s.size < 140)
    (hE : w.cell? ⟨2, 0, none⟩ = some (errV E)) (hN : w.cell? ⟨12, 0, none⟩ = some (errV N)) (hpn : (sgP s).2 + n ≤ s.size) (hd : ∀ j, j < n → isD (ch s ((sgP s).2 + j))) (hend : (sgP s).2 + n = s.size ∨ ¬ isD (ch s ((sgP s).2 + n))) (hn : n ≠ 0) :
    Calls Tryz.prog 242 #[ptr B, .iface 149 (ptr R), .int .i64 10] w fun e w' => e = .returned (.tuple #[ptr B, .int .i64 10, .nilIface]) ∧ C2 w w' B R ∧ RdAt w' R s ((sgP s).2 + n) ∧ ∃ o, IntAt w' B (sgZ s n) o ∧ ∀ K, o = some K → w.heap.size ≤ K := by
  have hsg := Hd.mk (scanSign_some R s w hR h0 hs)
  have hns : Hd (∀ w1, RdTo w w1 R s (sgP s).2 → Calls Tryz.prog 281 #[.slice none 0 0, .iface 149 (ptr R), .int .i64 10, .bool false] w1 fun e w' => ∃ v, e = .returned (.tuple #[v, .int .i64 10, .int .i64 n, .nilIface]) ∧ Sc w1 w' R s ((sgP s).2 + n) v (dn s (sgP s).2 n)) := ⟨fun w1 h => by
    obtain ⟨pr, hp⟩ := h
    have := scan10_any R (sgP s).2 n E N s w1 hRg (by rw [hp.size]; exact hRl) hs (RdAt.of_put hp) ((hp.cell_other (by omega) 0).trans hE) ((hp.cell_other (by omega) 0).trans hN) hpn hd hend
    rwa [if_neg hn] at this⟩
  have hz : Hd (∀ z, z = sgZ s n → decide (z < 0) = (decide (0 < wlen (dn s (sgP s).2 n)) && (sgP s).1) ∧ z.natAbs = dn s (sgP s).2 n) := ⟨fun z e => by
    subst e
    unfold sgZ
    generalize dn s (sgP s).2 n = m
    constructor
    · by_cases h : m = 0
      · subst h; rw [wlen_zero]; cases (sgP s).1 <;> simp
      · have : wlen m ≠ 0 := fun h' => h (wlen_eq_zero.1 h')
        cases (sgP s).1 <;> simp <;> omega
    · cases (sgP s).1 <;> simp⟩
  have c0 := hB.cell 0
  have c1 := hB.cell 1
  simp only [List.getElem?_cons_succ, List.getElem?_cons_zero] at c0 c1
  generalize sgZ s n = z at *
  have hz := Hd.mk (hz.out z rfl)
  generalize dn s (sgP s).2 n = m at *
  generalize (sgP s).2 = p at *
  generalize (sgP s).1 = neg at *
  have hfin : Hd (∀ w1 w2 w5 v o, RdTo w w1 R s p → Sc w1 w2 R s (p + n) v m → NatS w2 v m o → (∀ K, o = some K → w1.heap.size ≤ K) → Put w2 w5 B 106 [.bool (decide (0 < wlen m) && neg), v] → C2 w w5 B R ∧ RdAt w5 R s (p + n) ∧ ∃ o, IntAt w5 B z o ∧ ∀ K, o = some K → w.heap.size ≤ K) := ⟨fun w1 w2 w5 v o h1 h2 h3 h4 h5 => by
    have hsz : w1.heap.size = w.heap.size := h1.choose_spec.size
    refine ⟨(((C2.refl w B R).rd h1).sc h2).putB h5, ?_, o, ⟨v, ?_, ?_⟩, fun K hK => by rw [← hsz]; exact h4 K hK⟩
    · obtain ⟨pr, hb⟩ := h2.rd
      exact ⟨pr, h5.blk hb (fun e => hBR e.symm)⟩
    · rw [hz.out.1]; exact h5.here
    · rw [hz.out.2]
      exact h3.of_heap fun K hK => h5.other K (by have := h4 K hK; have := hB.lt; omega)⟩
  replace hd := Hd.mk hd
  replace hend := Hd.mk hend
  replace hR := Hd.mk hR
  replace hE := Hd.mk hE
  replace hN := Hd.mk hN
  replace hB := Hd.mk hB
  have hkB : Hd (∀ w1, RdTo w w1 R s p → Blk w1 B 106 [.bool false, .slice none 0 0]) := ⟨fun w1 h => h.choose_spec.blk hB.out hBR⟩
  have hkB2 : Hd (∀ w1 w2 v, RdTo w w1 R s p → Sc w1 w2 R s (p + n) v m → Blk w2 B 106 [.bool false, .slice none 0 0]) := ⟨fun w1 w2 v h k => k.chg.blk (hkB.out w1 h) (by simp; omega)⟩
  have hm1 := methR
  have hnn := niln_nil
  by_cases h0m : wlen m = 0
  all_goals
    first
      | have hlen : decide (0 < ((wlen m : Nat) : Int)) = true := decide_eq_true (by omega)
      | have hlen : decide (0 < ((wlen m : Nat) : Int)) = false := decide_eq_false (by omega)
    first
      | have hlen2 : decide (0 < wlen m) = true := decide_eq_true (by omega)
      | have hlen2 : decide (0 < wlen m) = false := decide_eq_false (by omega)
    rw [hlen2] at hfin
    replace h0m := Hd.mk h0m
    go_enter Tryz.func242, Tryz.ntmps242
    go_wp2_with (first | (go_at_call 280; refine hsg.out.mono ?_; rintro e w1 ⟨rfl, hr1⟩; have hb1 := hkB.out w1 hr1; have d0 := hb1.cell 0; have d1 := hb1.cell 1; simp only [List.getElem?_cons_succ, List.getElem?_cons_zero] at d0 d1; have y0 := hb1.frozen 0; have y1 := hb1.frozen 1; replace hb1 := Hd.mk hb1; replace hr1 := Hd.mk hr1) | (go_at_call 281; refine (hns.out _ hr1.out).mono ?_; rintro e w2 ⟨v, rfl, hsc⟩; obtain ⟨o, hno, hoK⟩ := hsc.nat; replace hno := Hd.mk hno; obtain ⟨A, cap, rfl, hcl, _⟩ := hno.out; have hb2 := hkB2.out w1 w2 _ hr1.out hsc; have g0 := hb2.cell 0; have g1 := hb2.cell 1; simp only [List.getElem?_cons_succ, List.getElem?_cons_zero] at g0 g1; have q0 := hb2.frozen 0; have q1 := hb2.frozen 1; replace hb2 := Hd.mk hb2; replace hsc := Hd.mk hsc; replace hoK := Hd.mk hoK))
    refine bodyPost_ret (v := .tuple #[ptr B, .int .i64 10, .nilIface]) (by simp [results, Tryz.results242, go_sem]) rfl ⟨rfl, hfin.out w1 w2 _ _ o hr1.out hsc.out hno.out hoK.out ?_⟩
    exact ((Put.refl hb2.out).set 1 _).set 0 _
end Go.Proofs.YtdbjdpooggaonaaGreatDoor
end
