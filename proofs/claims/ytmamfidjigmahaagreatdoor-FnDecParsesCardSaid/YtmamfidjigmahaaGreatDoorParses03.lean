/- The reference: a decimal's text read. Conditions: those that each theorem states. -/
import Derived.Test.YtmamfidjigmahaaGreatDoorParses01
import Derived.Test.YtmamfidjigmahaaGreatDoorBack01
set_option linter.all false

namespace Go.Proofs.YtmamfidjigmahaaGreatDoor
open Go.RowKit
set_option maxRecDepth 100000
/-- A number with its sign. -/
def sgX (neg : Bool) (Y : Nat) : Int := if neg = true then -(Y : Int) else (Y : Int)
theorem sgX_abs (neg : Bool) (Y : Nat) : (sgX neg Y).natAbs = Y := by unfold sgX; cases neg <;> simp
/-- What is handed back for digits. -/
def ParsedR (w : World) (x : Int) (e : Ending) (w' : World) : Prop := ∃ b A n c, e = .returned (.tuple #[.agg #[.bool b, .slice A n c], .bool (decide ((x.natAbs : Int) ≤ mostZ))]) ∧ NumV w' (.agg #[.bool b, .slice A n c]) x ∧ Below w.heap.size w w'
set_option maxHeartbeats 4000000 in
theorem parsed_many (s t : ByteArray) (neg : Bool) (w : World) (hs : s.size < 120) (hun : unm s = (neg, t)) (n0 n1 : Nat) (h01 : n0 < n1) (hn1 : n1 < t.size) (hp0 : ch t n0 = 46) (hp1 : ch t n1 = 46) (hd : ∀ k, k < n1 → k ≠ n0 → ch t k ≠ 46) :
    Calls Tryz.prog 15 #[.string s] w fun e w' => e = .returned (.tuple #[.agg #[.bool false, .slice none 0 0], .bool false]) ∧ Below w.heap.size w w' := by
  have hts : t.size ≤ s.size := by have := unm_size s; rw [hun] at this; exact this
  have hun := unm_cases s hun
  have r0 := SR.start w [] (fun p hp => by cases hp)
  have r1 := r0.box2 (b0 := false) (A := none) (m := 0) (c := 0)
  have hC1 : (updC (fun _ => none) w.heap.size [.bool false, .slice none 0 0]) w.heap.size = some [.bool false, .slice none 0 0] := updC_same
  generalize updC (fun _ => none) w.heap.size [.bool false, .slice none 0 0] = C1 at *
  have l1 : w.heap.size < (w.alloc (.cells #[.bool false, .slice none 0 0] 24)).heap.size := by rw [World.size_alloc]; omega
  replace r1 := Hd.mk r1
  replace hC1 := Hd.mk hC1
  clear r0
  replace hd := Hd.mk hd
  replace hp0 := Hd.mk hp0
  replace hp1 := Hd.mk hp1
  have hse := str_empty s
  have hse3 : (s.toList == []) = decide (s.size = 0) := by rw [← hse]; congr 1; simp [ByteArray.toList_eq]
  have hse2 : s.toList.isEmpty = decide (s.size = 0) := by rw [← hse]; cases s.toList with | nil => (rw [show (ByteArray.mk #[]).toList = [] from by simp [ByteArray.toList_eq]]; rfl) | cons a l => (rw [show (ByteArray.mk #[]).toList = [] from by simp [ByteArray.toList_eq]]; rfl)
  go_enter Tryz.func15, Tryz.ntmps15
  go_upto_region 1 with fail
  generalize w.alloc (.cells #[.bool false, .slice none 0 0] 24) = w1 at *
  go_cut [4] (fun t4 wx => t4 = .bool neg ∧ w1 = wx)
  case first =>
    by_cases hz : s.size = 0
    · have hn : neg = false := by cases neg; (· rfl); (· simp only [if_true] at hun; omega)
      subst hn
      rw [decide_eq_true hz] at hse hse2 hse3
      replace hz := Hd.mk hz
      replace hun := Hd.mk hun
      go_wp2_with fail
      go_meet
      exact ⟨rfl, rfl⟩
    · rw [decide_eq_false hz] at hse hse2 hse3
      have hs0 : 0 < s.size := by omega
      have hix := ch_eq (s := s) (k := 0) hs0
      have h45 : ((ch s 0 : Int) == 45) = neg := by
        cases neg
        · simp only [Bool.false_eq_true, if_false] at hun
          have : ch s 0 ≠ 45 := fun h => hun.1 ⟨hs0, h⟩
          simp; omega
        · simp only [if_true] at hun
          rw [hun.2.1]; rfl
      generalize ch s 0 = cc at *
      replace hz := Hd.mk hz
      replace hun := Hd.mk hun
      go_wp2_with fail
      go_meet
      exact ⟨rfl, rfl⟩
  case rest =>
  obtain ⟨rfl, rfl⟩ := hcut
  clear hse hse2 hse3
  go_upto_if 17 with fail
  go_cut [0] (fun t0 wx => t0 = .string t ∧ w1 = wx)
  case first =>
    cases neg
    · simp only [Bool.false_eq_true, if_false] at hun
      obtain ⟨-, rfl⟩ := hun
      go_wp2_with fail
      go_meet
      exact ⟨rfl, rfl⟩
    · simp only [if_true] at hun
      obtain ⟨hs0, -, rfl⟩ := hun
      have hss : 1 ≤ s.size := hs0
      go_wp2_with fail
      go_meet
      exact ⟨rfl, rfl⟩
  case rest =>
  obtain ⟨rfl, rfl⟩ := hcut
  clear hun
  refine SR.cellK r1.out hC1.out ?_
  intro q0 q1 qz qy ql
  go_wp2
  go_loop [5, 6] (fun p i => ∃ k : Nat, k ≤ n1 ∧ i = .int .i64 k ∧ p = .int .i64 (if n0 < k then (n0 : Int) else -1)) (fun _ i => n1 - (intOf i).toNat)
  case atStart => exact ⟨0, Nat.zero_le _, rfl, by rw [if_neg (by omega)]⟩
  case round =>
    obtain ⟨k, hk, rfl, rfl⟩ := hrel
    have hkt : k < t.size := by omega
    have hlt : decide ((k : Int) < (t.size : Int)) = true := decide_eq_true (by omega)
    have hix := ch_eq (s := t) (k := k) hkt
    have hwk : IntKind.i64.wrap ((k : Int) + 1) = (k : Int) + 1 := IntWalk.i64_in _ (by omega)
    have hi0 : (0 : Int) ≤ (k : Int) := by omega
    have hi1 : (k : Int) < (t.size : Int) := by omega
    by_cases hk1 : k = n1
    · subst hk1
      rw [if_pos h01]
      rw [hp1.out] at hix
      have hge : decide (0 ≤ (n0 : Int)) = true := decide_eq_true (by omega)
      have hf := r1.out.set (b1 := false) (A1 := none) (m1 := 0) (c1 := 0) hC1.out
      have hfb := Hd.mk hf.bel
      clear hf
      go_wp2
      refine bodyPost_ret (v := .tuple #[.agg #[.bool false, .slice none 0 0], .bool false]) (by simp [results, Tryz.results15, go_sem, q0, q1, qz, qy, ql]) rfl ⟨rfl, hfb.out⟩
    · have hkl : k < n1 := by omega
      by_cases hkn : k = n0
      · subst hkn
        rw [if_neg (by omega)]
        rw [hp0.out] at hix
        have hfin : Hd (.int .i64 (k : Int) = Value.int .i64 (if k < k + 1 then (k : Int) else -1)) := ⟨by rw [if_pos (by omega)]⟩
        go_wp2
        go_round
        case rel => exact ⟨k + 1, by omega, by rw [Int.natCast_succ], hfin.out⟩
        case measure => simp [intOf]; omega
      · have hne : ch t k ≠ 46 := hd.out k hkl hkn
        have h46 : ((ch t k : Int) == 46) = false := by simp; omega
        have hfin : Hd ((if n0 < k then (n0 : Int) else -1) = (if n0 < k + 1 then (n0 : Int) else -1)) := ⟨by by_cases h : n0 < k; (· rw [if_pos h, if_pos (by omega)]); (· rw [if_neg h, if_neg (by omega)])⟩
        generalize ch t k = cc at *
        replace hne := Hd.mk hne
        generalize (if n0 < k then (n0 : Int) else -1) = pp at *
        go_wp2
        go_round
        case rel => exact ⟨k + 1, by omega, by rw [Int.natCast_succ], by rw [hfin.out]⟩
        case measure => simp [intOf]; omega
set_option maxHeartbeats 4000000 in
theorem parsed_noF (s t : ByteArray) (neg : Bool) (w : World) (hs : s.size < 120) (hun : unm s = (neg, t)) (n0 more : Nat) (hn0 : n0 < t.size) (hp : Hd (n0 < t.size → ch t n0 = 46)) (hd : Hd (∀ k, k < t.size → k ≠ n0 → ch t k ≠ 46)) (hm : more + n0 + 1 = t.size) (h : more = 0) :
    Calls Tryz.prog 15 #[.string s] w fun e w' => e = .returned (.tuple #[.agg #[.bool false, .slice none 0 0], .bool false]) ∧ Below w.heap.size w w' := by
  have hts : t.size ≤ s.size := by have := unm_size s; rw [hun] at this; exact this
  have hun := unm_cases s hun
  have r0 := SR.start w [] (fun p hp => by cases hp)
  have r1 := r0.box2 (b0 := false) (A := none) (m := 0) (c := 0)
  have hC1 : (updC (fun _ => none) w.heap.size [.bool false, .slice none 0 0]) w.heap.size = some [.bool false, .slice none 0 0] := updC_same
  generalize updC (fun _ => none) w.heap.size [.bool false, .slice none 0 0] = C1 at *
  have l1 : w.heap.size < (w.alloc (.cells #[.bool false, .slice none 0 0] 24)).heap.size := by rw [World.size_alloc]; omega
  replace r1 := Hd.mk r1
  replace hC1 := Hd.mk hC1
  clear r0
  replace h := Hd.mk h
  have hse := str_empty s
  have hse3 : (s.toList == []) = decide (s.size = 0) := by rw [← hse]; congr 1; simp [ByteArray.toList_eq]
  have hse2 : s.toList.isEmpty = decide (s.size = 0) := by rw [← hse]; cases s.toList with | nil => (rw [show (ByteArray.mk #[]).toList = [] from by simp [ByteArray.toList_eq]]; rfl) | cons a l => (rw [show (ByteArray.mk #[]).toList = [] from by simp [ByteArray.toList_eq]]; rfl)
  go_enter Tryz.func15, Tryz.ntmps15
  go_upto_region 1 with fail
  generalize w.alloc (.cells #[.bool false, .slice none 0 0] 24) = w1 at *
  go_cut [4] (fun t4 wx => t4 = .bool neg ∧ w1 = wx)
  case first =>
    by_cases hz : s.size = 0
    · have hn : neg = false := by cases neg; (· rfl); (· simp only [if_true] at hun; omega)
      subst hn
      rw [decide_eq_true hz] at hse hse2 hse3
      replace hz := Hd.mk hz
      replace hun := Hd.mk hun
      go_wp2_with fail
      go_meet
      exact ⟨rfl, rfl⟩
    · rw [decide_eq_false hz] at hse hse2 hse3
      have hs0 : 0 < s.size := by omega
      have hix := ch_eq (s := s) (k := 0) hs0
      have h45 : ((ch s 0 : Int) == 45) = neg := by
        cases neg
        · simp only [Bool.false_eq_true, if_false] at hun
          have : ch s 0 ≠ 45 := fun h => hun.1 ⟨hs0, h⟩
          simp; omega
        · simp only [if_true] at hun
          rw [hun.2.1]; rfl
      generalize ch s 0 = cc at *
      replace hz := Hd.mk hz
      replace hun := Hd.mk hun
      go_wp2_with fail
      go_meet
      exact ⟨rfl, rfl⟩
  case rest =>
  obtain ⟨rfl, rfl⟩ := hcut
  clear hse hse2 hse3
  go_upto_if 17 with fail
  go_cut [0] (fun t0 wx => t0 = .string t ∧ w1 = wx)
  case first =>
    cases neg
    · simp only [Bool.false_eq_true, if_false] at hun
      obtain ⟨-, rfl⟩ := hun
      go_wp2_with fail
      go_meet
      exact ⟨rfl, rfl⟩
    · simp only [if_true] at hun
      obtain ⟨hs0, -, rfl⟩ := hun
      have hss : 1 ≤ s.size := hs0
      go_wp2_with fail
      go_meet
      exact ⟨rfl, rfl⟩
  case rest =>
  obtain ⟨rfl, rfl⟩ := hcut
  clear hun
  refine SR.cellK r1.out hC1.out ?_
  intro q0 q1 qz qy ql
  have hf := r1.out.set (b1 := false) (A1 := none) (m1 := 0) (c1 := 0) hC1.out
  have hfb := Hd.mk hf.bel
  clear hf
  go_wp2
  go_loop [5, 6] (fun p i => ∃ k : Nat, k ≤ t.size ∧ i = .int .i64 k ∧ p = .int .i64 (if n0 < k then (n0 : Int) else -1)) (fun _ i => t.size - (intOf i).toNat)
  case atStart => exact ⟨0, Nat.zero_le _, rfl, by rw [if_neg (by omega)]⟩
  case round =>
    obtain ⟨k, hk, rfl, rfl⟩ := hrel
    by_cases hkt : k < t.size
    · have hlt : decide ((k : Int) < (t.size : Int)) = true := decide_eq_true (by omega)
      have hix := ch_eq (s := t) (k := k) hkt
      have hwk : IntKind.i64.wrap ((k : Int) + 1) = (k : Int) + 1 := IntWalk.i64_in _ (by omega)
      have hi0 : (0 : Int) ≤ (k : Int) := by omega
      have hi1 : (k : Int) < (t.size : Int) := by omega
      by_cases hkn : k = n0
      · subst hkn
        rw [if_neg (by omega)]
        rw [hp.out hkt] at hix
        have hfin : Hd (.int .i64 (k : Int) = Value.int .i64 (if k < k + 1 then (k : Int) else -1)) := ⟨by rw [if_pos (by omega)]⟩
        go_wp2
        go_round
        case rel => exact ⟨k + 1, by omega, by rw [Int.natCast_succ], hfin.out⟩
        case measure => simp [intOf]; omega
      · have hne : ch t k ≠ 46 := hd.out k hkt hkn
        have h46 : ((ch t k : Int) == 46) = false := by simp; omega
        have hfin : Hd ((if n0 < k then (n0 : Int) else -1) = (if n0 < k + 1 then (n0 : Int) else -1)) := ⟨by by_cases h : n0 < k; (· rw [if_pos h, if_pos (by omega)]); (· rw [if_neg h, if_neg (by omega)])⟩
        generalize ch t k = cc at *
        replace hne := Hd.mk hne
        generalize (if n0 < k then (n0 : Int) else -1) = pp at *
        go_wp2
        go_round
        case rel => exact ⟨k + 1, by omega, by rw [Int.natCast_succ], by rw [hfin.out]⟩
        case measure => simp [intOf]; omega
    · obtain rfl : k = t.size := by omega
      have hlt : decide ((t.size : Int) < (t.size : Int)) = false := decide_eq_false (by omega)
      rw [if_pos hn0]
      have hge : decide (0 ≤ (n0 : Int)) = true := decide_eq_true (by omega)
      have w1' : IntKind.i64.wrap ((t.size : Int) - (n0 : Int)) = (t.size : Int) - (n0 : Int) := IntWalk.i64_in _ (by omega)
      have w2' : IntKind.i64.wrap ((t.size : Int) - (n0 : Int) - 1) = (more : Int) := by rw [IntWalk.i64_in _ (by omega)]; omega
      have hb1 : (((more : Nat) : Int) == 0) = true := by rw [h.out]; rfl
      go_wp2
      refine bodyPost_ret (v := .tuple #[.agg #[.bool false, .slice none 0 0], .bool false]) (by simp [results, Tryz.results15, go_sem, q0, q1, qz, qy, ql]) rfl ⟨rfl, hfb.out⟩
set_option maxHeartbeats 4000000 in
theorem parsed_long (s t : ByteArray) (neg : Bool) (w : World) (hs : s.size < 120) (hun : unm s = (neg, t)) (n0 more : Nat) (hn0 : n0 < t.size) (hp : Hd (n0 < t.size → ch t n0 = 46)) (hd : Hd (∀ k, k < t.size → k ≠ n0 → ch t k ≠ 46)) (hm : more + n0 + 1 = t.size) (h : 18 < more) :
    Calls Tryz.prog 15 #[.string s] w fun e w' => e = .returned (.tuple #[.agg #[.bool false, .slice none 0 0], .bool false]) ∧ Below w.heap.size w w' := by
  have hts : t.size ≤ s.size := by have := unm_size s; rw [hun] at this; exact this
  have hun := unm_cases s hun
  have r0 := SR.start w [] (fun p hp => by cases hp)
  have r1 := r0.box2 (b0 := false) (A := none) (m := 0) (c := 0)
  have hC1 : (updC (fun _ => none) w.heap.size [.bool false, .slice none 0 0]) w.heap.size = some [.bool false, .slice none 0 0] := updC_same
  generalize updC (fun _ => none) w.heap.size [.bool false, .slice none 0 0] = C1 at *
  have l1 : w.heap.size < (w.alloc (.cells #[.bool false, .slice none 0 0] 24)).heap.size := by rw [World.size_alloc]; omega
  replace r1 := Hd.mk r1
  replace hC1 := Hd.mk hC1
  clear r0
  have hse := str_empty s
  have hse3 : (s.toList == []) = decide (s.size = 0) := by rw [← hse]; congr 1; simp [ByteArray.toList_eq]
  have hse2 : s.toList.isEmpty = decide (s.size = 0) := by rw [← hse]; cases s.toList with | nil => (rw [show (ByteArray.mk #[]).toList = [] from by simp [ByteArray.toList_eq]]; rfl) | cons a l => (rw [show (ByteArray.mk #[]).toList = [] from by simp [ByteArray.toList_eq]]; rfl)
  go_enter Tryz.func15, Tryz.ntmps15
  go_upto_region 1 with fail
  generalize w.alloc (.cells #[.bool false, .slice none 0 0] 24) = w1 at *
  go_cut [4] (fun t4 wx => t4 = .bool neg ∧ w1 = wx)
  case first =>
    by_cases hz : s.size = 0
    · have hn : neg = false := by cases neg; (· rfl); (· simp only [if_true] at hun; omega)
      subst hn
      rw [decide_eq_true hz] at hse hse2 hse3
      replace hz := Hd.mk hz
      replace hun := Hd.mk hun
      go_wp2_with fail
      go_meet
      exact ⟨rfl, rfl⟩
    · rw [decide_eq_false hz] at hse hse2 hse3
      have hs0 : 0 < s.size := by omega
      have hix := ch_eq (s := s) (k := 0) hs0
      have h45 : ((ch s 0 : Int) == 45) = neg := by
        cases neg
        · simp only [Bool.false_eq_true, if_false] at hun
          have : ch s 0 ≠ 45 := fun h => hun.1 ⟨hs0, h⟩
          simp; omega
        · simp only [if_true] at hun
          rw [hun.2.1]; rfl
      generalize ch s 0 = cc at *
      replace hz := Hd.mk hz
      replace hun := Hd.mk hun
      go_wp2_with fail
      go_meet
      exact ⟨rfl, rfl⟩
  case rest =>
  obtain ⟨rfl, rfl⟩ := hcut
  clear hse hse2 hse3
  go_upto_if 17 with fail
  go_cut [0] (fun t0 wx => t0 = .string t ∧ w1 = wx)
  case first =>
    cases neg
    · simp only [Bool.false_eq_true, if_false] at hun
      obtain ⟨-, rfl⟩ := hun
      go_wp2_with fail
      go_meet
      exact ⟨rfl, rfl⟩
    · simp only [if_true] at hun
      obtain ⟨hs0, -, rfl⟩ := hun
      have hss : 1 ≤ s.size := hs0
      go_wp2_with fail
      go_meet
      exact ⟨rfl, rfl⟩
  case rest =>
  obtain ⟨rfl, rfl⟩ := hcut
  clear hun
  refine SR.cellK r1.out hC1.out ?_
  intro q0 q1 qz qy ql
  have hf := r1.out.set (b1 := false) (A1 := none) (m1 := 0) (c1 := 0) hC1.out
  have hfb := Hd.mk hf.bel
  clear hf
  go_wp2
  go_loop [5, 6] (fun p i => ∃ k : Nat, k ≤ t.size ∧ i = .int .i64 k ∧ p = .int .i64 (if n0 < k then (n0 : Int) else -1)) (fun _ i => t.size - (intOf i).toNat)
  case atStart => exact ⟨0, Nat.zero_le _, rfl, by rw [if_neg (by omega)]⟩
  case round =>
    obtain ⟨k, hk, rfl, rfl⟩ := hrel
    by_cases hkt : k < t.size
    · have hlt : decide ((k : Int) < (t.size : Int)) = true := decide_eq_true (by omega)
      have hix := ch_eq (s := t) (k := k) hkt
      have hwk : IntKind.i64.wrap ((k : Int) + 1) = (k : Int) + 1 := IntWalk.i64_in _ (by omega)
      have hi0 : (0 : Int) ≤ (k : Int) := by omega
      have hi1 : (k : Int) < (t.size : Int) := by omega
      by_cases hkn : k = n0
      · subst hkn
        rw [if_neg (by omega)]
        rw [hp.out hkt] at hix
        have hfin : Hd (.int .i64 (k : Int) = Value.int .i64 (if k < k + 1 then (k : Int) else -1)) := ⟨by rw [if_pos (by omega)]⟩
        go_wp2
        go_round
        case rel => exact ⟨k + 1, by omega, by rw [Int.natCast_succ], hfin.out⟩
        case measure => simp [intOf]; omega
      · have hne : ch t k ≠ 46 := hd.out k hkt hkn
        have h46 : ((ch t k : Int) == 46) = false := by simp; omega
        have hfin : Hd ((if n0 < k then (n0 : Int) else -1) = (if n0 < k + 1 then (n0 : Int) else -1)) := ⟨by by_cases h : n0 < k; (· rw [if_pos h, if_pos (by omega)]); (· rw [if_neg h, if_neg (by omega)])⟩
        generalize ch t k = cc at *
        replace hne := Hd.mk hne
        generalize (if n0 < k then (n0 : Int) else -1) = pp at *
        go_wp2
        go_round
        case rel => exact ⟨k + 1, by omega, by rw [Int.natCast_succ], by rw [hfin.out]⟩
        case measure => simp [intOf]; omega
    · obtain rfl : k = t.size := by omega
      have hlt : decide ((t.size : Int) < (t.size : Int)) = false := decide_eq_false (by omega)
      rw [if_pos hn0]
      have hge : decide (0 ≤ (n0 : Int)) = true := decide_eq_true (by omega)
      have w1' : IntKind.i64.wrap ((t.size : Int) - (n0 : Int)) = (t.size : Int) - (n0 : Int) := IntWalk.i64_in _ (by omega)
      have w2' : IntKind.i64.wrap ((t.size : Int) - (n0 : Int) - 1) = (more : Int) := by rw [IntWalk.i64_in _ (by omega)]; omega
      have hb1 : (((more : Nat) : Int) == 0) = false := beq_false_of_ne (by omega)
      have hb2 : decide (18 < (more : Int)) = true := decide_eq_true (by omega)
      go_wp2
      refine bodyPost_ret (v := .tuple #[.agg #[.bool false, .slice none 0 0], .bool false]) (by simp [results, Tryz.results15, go_sem, q0, q1, qz, qy, ql]) rfl ⟨rfl, hfb.out⟩
set_option maxHeartbeats 4000000 in
theorem parsed_noA (s t : ByteArray) (neg : Bool) (w : World) (hs : s.size < 120) (hun : unm s = (neg, t)) (n0 more : Nat) (hn0 : n0 < t.size) (hp : Hd (n0 < t.size → ch t n0 = 46)) (hd : Hd (∀ k, k < t.size → k ≠ n0 → ch t k ≠ 46)) (hm : more + n0 + 1 = t.size) (h1 : more ≠ 0) (h2 : more ≤ 18) (h : n0 = 0) :
    Calls Tryz.prog 15 #[.string s] w fun e w' => e = .returned (.tuple #[.agg #[.bool false, .slice none 0 0], .bool false]) ∧ Below w.heap.size w w' := by
  have hts : t.size ≤ s.size := by have := unm_size s; rw [hun] at this; exact this
  have hun := unm_cases s hun
  have r0 := SR.start w [] (fun p hp => by cases hp)
  have r1 := r0.box2 (b0 := false) (A := none) (m := 0) (c := 0)
  have hC1 : (updC (fun _ => none) w.heap.size [.bool false, .slice none 0 0]) w.heap.size = some [.bool false, .slice none 0 0] := updC_same
  generalize updC (fun _ => none) w.heap.size [.bool false, .slice none 0 0] = C1 at *
  have l1 : w.heap.size < (w.alloc (.cells #[.bool false, .slice none 0 0] 24)).heap.size := by rw [World.size_alloc]; omega
  replace r1 := Hd.mk r1
  replace hC1 := Hd.mk hC1
  clear r0
  replace h := Hd.mk h
  have hse := str_empty s
  have hse3 : (s.toList == []) = decide (s.size = 0) := by rw [← hse]; congr 1; simp [ByteArray.toList_eq]
  have hse2 : s.toList.isEmpty = decide (s.size = 0) := by rw [← hse]; cases s.toList with | nil => (rw [show (ByteArray.mk #[]).toList = [] from by simp [ByteArray.toList_eq]]; rfl) | cons a l => (rw [show (ByteArray.mk #[]).toList = [] from by simp [ByteArray.toList_eq]]; rfl)
  go_enter Tryz.func15, Tryz.ntmps15
  go_upto_region 1 with fail
  generalize w.alloc (.cells #[.bool false, .slice none 0 0] 24) = w1 at *
  go_cut [4] (fun t4 wx => t4 = .bool neg ∧ w1 = wx)
  case first =>
    by_cases hz : s.size = 0
    · have hn : neg = false := by cases neg; (· rfl); (· simp only [if_true] at hun; omega)
      subst hn
      rw [decide_eq_true hz] at hse hse2 hse3
      replace hz := Hd.mk hz
      replace hun := Hd.mk hun
      go_wp2_with fail
      go_meet
      exact ⟨rfl, rfl⟩
    · rw [decide_eq_false hz] at hse hse2 hse3
      have hs0 : 0 < s.size := by omega
      have hix := ch_eq (s := s) (k := 0) hs0
      have h45 : ((ch s 0 : Int) == 45) = neg := by
        cases neg
        · simp only [Bool.false_eq_true, if_false] at hun
          have : ch s 0 ≠ 45 := fun h => hun.1 ⟨hs0, h⟩
          simp; omega
        · simp only [if_true] at hun
          rw [hun.2.1]; rfl
      generalize ch s 0 = cc at *
      replace hz := Hd.mk hz
      replace hun := Hd.mk hun
      go_wp2_with fail
      go_meet
      exact ⟨rfl, rfl⟩
  case rest =>
  obtain ⟨rfl, rfl⟩ := hcut
  clear hse hse2 hse3
  go_upto_if 17 with fail
  go_cut [0] (fun t0 wx => t0 = .string t ∧ w1 = wx)
  case first =>
    cases neg
    · simp only [Bool.false_eq_true, if_false] at hun
      obtain ⟨-, rfl⟩ := hun
      go_wp2_with fail
      go_meet
      exact ⟨rfl, rfl⟩
    · simp only [if_true] at hun
      obtain ⟨hs0, -, rfl⟩ := hun
      have hss : 1 ≤ s.size := hs0
      go_wp2_with fail
      go_meet
      exact ⟨rfl, rfl⟩
  case rest =>
  obtain ⟨rfl, rfl⟩ := hcut
  clear hun
  refine SR.cellK r1.out hC1.out ?_
  intro q0 q1 qz qy ql
  have hf := r1.out.set (b1 := false) (A1 := none) (m1 := 0) (c1 := 0) hC1.out
  have hfb := Hd.mk hf.bel
  clear hf
  go_wp2
  go_loop [5, 6] (fun p i => ∃ k : Nat, k ≤ t.size ∧ i = .int .i64 k ∧ p = .int .i64 (if n0 < k then (n0 : Int) else -1)) (fun _ i => t.size - (intOf i).toNat)
  case atStart => exact ⟨0, Nat.zero_le _, rfl, by rw [if_neg (by omega)]⟩
  case round =>
    obtain ⟨k, hk, rfl, rfl⟩ := hrel
    by_cases hkt : k < t.size
    · have hlt : decide ((k : Int) < (t.size : Int)) = true := decide_eq_true (by omega)
      have hix := ch_eq (s := t) (k := k) hkt
      have hwk : IntKind.i64.wrap ((k : Int) + 1) = (k : Int) + 1 := IntWalk.i64_in _ (by omega)
      have hi0 : (0 : Int) ≤ (k : Int) := by omega
      have hi1 : (k : Int) < (t.size : Int) := by omega
      by_cases hkn : k = n0
      · subst hkn
        rw [if_neg (by omega)]
        rw [hp.out hkt] at hix
        have hfin : Hd (.int .i64 (k : Int) = Value.int .i64 (if k < k + 1 then (k : Int) else -1)) := ⟨by rw [if_pos (by omega)]⟩
        go_wp2
        go_round
        case rel => exact ⟨k + 1, by omega, by rw [Int.natCast_succ], hfin.out⟩
        case measure => simp [intOf]; omega
      · have hne : ch t k ≠ 46 := hd.out k hkt hkn
        have h46 : ((ch t k : Int) == 46) = false := by simp; omega
        have hfin : Hd ((if n0 < k then (n0 : Int) else -1) = (if n0 < k + 1 then (n0 : Int) else -1)) := ⟨by by_cases h : n0 < k; (· rw [if_pos h, if_pos (by omega)]); (· rw [if_neg h, if_neg (by omega)])⟩
        generalize ch t k = cc at *
        replace hne := Hd.mk hne
        generalize (if n0 < k then (n0 : Int) else -1) = pp at *
        go_wp2
        go_round
        case rel => exact ⟨k + 1, by omega, by rw [Int.natCast_succ], by rw [hfin.out]⟩
        case measure => simp [intOf]; omega
    · obtain rfl : k = t.size := by omega
      have hlt : decide ((t.size : Int) < (t.size : Int)) = false := decide_eq_false (by omega)
      rw [if_pos hn0]
      have hge : decide (0 ≤ (n0 : Int)) = true := decide_eq_true (by omega)
      have w1' : IntKind.i64.wrap ((t.size : Int) - (n0 : Int)) = (t.size : Int) - (n0 : Int) := IntWalk.i64_in _ (by omega)
      have w2' : IntKind.i64.wrap ((t.size : Int) - (n0 : Int) - 1) = (more : Int) := by rw [IntWalk.i64_in _ (by omega)]; omega
      have hb1 : (((more : Nat) : Int) == 0) = false := beq_false_of_ne (by omega)
      have hb2 : decide (18 < (more : Int)) = false := decide_eq_false (by omega)
      have hb3 : (((n0 : Nat) : Int) == 0) = true := by rw [h.out]; rfl
      go_wp2
      refine bodyPost_ret (v := .tuple #[.agg #[.bool false, .slice none 0 0], .bool false]) (by simp [results, Tryz.results15, go_sem, q0, q1, qz, qy, ql]) rfl ⟨rfl, hfb.out⟩
set_option maxHeartbeats 4000000 in
theorem parsed_nod1 (s t : ByteArray) (neg : Bool) (w : World) (hs : s.size < 120) (hun : unm s = (neg, t)) (hd1 : ∀ k, k < t.size → ch t k ≠ 46) (hdn : t.size < 200) (hno : t.size = 0 ∨ ∃ j, j < t.size ∧ ¬ isD (ch t j)) :
    Calls Tryz.prog 15 #[.string s] w fun e w' => e = .returned (.tuple #[.agg #[.bool false, .slice none 0 0], .bool false]) ∧ Below w.heap.size w w' := by
  have hts : t.size ≤ s.size := by have := unm_size s; rw [hun] at this; exact this
  have hun := unm_cases s hun
  have r0 := SR.start w [] (fun p hp => by cases hp)
  have r1 := r0.box2 (b0 := false) (A := none) (m := 0) (c := 0)
  have hC1 : (updC (fun _ => none) w.heap.size [.bool false, .slice none 0 0]) w.heap.size = some [.bool false, .slice none 0 0] := updC_same
  generalize updC (fun _ => none) w.heap.size [.bool false, .slice none 0 0] = C1 at *
  have l1 : w.heap.size < (w.alloc (.cells #[.bool false, .slice none 0 0] 24)).heap.size := by rw [World.size_alloc]; omega
  replace r1 := Hd.mk r1
  replace hC1 := Hd.mk hC1
  clear r0
  obtain ⟨n0, hn0⟩ : ∃ n0, n0 = t.size := ⟨_, rfl⟩
  have hp : Hd (n0 < t.size → ch t n0 = 46) := ⟨fun h => by omega⟩
  have hd : Hd (∀ k, k < t.size → k ≠ n0 → ch t k ≠ 46) := ⟨fun k h _ => hd1 k h⟩
  replace hd1 := Hd.mk hd1
  have hdg : Hd (∀ w1, Calls Tryz.prog 50 #[.string t] w1 fun e w' => ∃ b A n c, e = .returned (.tuple #[.agg #[.bool b, .slice A n c], .bool false]) ∧ Below w1.heap.size w1 w') := ⟨fun w1 => by
    obtain ⟨m, hm1, hm2, hm3⟩ := trail t t.size (Nat.le_refl _)
    have hne : ¬ (m = t.size ∧ t.size ≠ 0) := fun ⟨q1, q2⟩ => by
      rcases hno with h | ⟨j, hj, hjn⟩
      · exact q2 h
      · have := hm2 (t.size - 1 - j) (by omega)
        rw [show t.size - 1 - (t.size - 1 - j) = j by omega] at this
        exact hjn this
    have h := digits_any t m w1 hdn hm1 hm2 hm3
    rw [decide_eq_false hne] at h
    exact h.mono fun e w' ⟨v, he, _, ⟨b, A, n, c, hv⟩, hb⟩ => ⟨b, A, n, c, by rw [he, hv], hb⟩⟩
  replace hno := Hd.mk hno
  have hse := str_empty s
  have hse3 : (s.toList == []) = decide (s.size = 0) := by rw [← hse]; congr 1; simp [ByteArray.toList_eq]
  have hse2 : s.toList.isEmpty = decide (s.size = 0) := by rw [← hse]; cases s.toList with | nil => (rw [show (ByteArray.mk #[]).toList = [] from by simp [ByteArray.toList_eq]]; rfl) | cons a l => (rw [show (ByteArray.mk #[]).toList = [] from by simp [ByteArray.toList_eq]]; rfl)
  go_enter Tryz.func15, Tryz.ntmps15
  go_upto_region 1 with fail
  generalize w.alloc (.cells #[.bool false, .slice none 0 0] 24) = w1 at *
  go_cut [4] (fun t4 wx => t4 = .bool neg ∧ w1 = wx)
  case first =>
    by_cases hz : s.size = 0
    · have hn : neg = false := by cases neg; (· rfl); (· simp only [if_true] at hun; omega)
      subst hn
      rw [decide_eq_true hz] at hse hse2 hse3
      replace hz := Hd.mk hz
      replace hun := Hd.mk hun
      go_wp2_with fail
      go_meet
      exact ⟨rfl, rfl⟩
    · rw [decide_eq_false hz] at hse hse2 hse3
      have hs0 : 0 < s.size := by omega
      have hix := ch_eq (s := s) (k := 0) hs0
      have h45 : ((ch s 0 : Int) == 45) = neg := by
        cases neg
        · simp only [Bool.false_eq_true, if_false] at hun
          have : ch s 0 ≠ 45 := fun h => hun.1 ⟨hs0, h⟩
          simp; omega
        · simp only [if_true] at hun
          rw [hun.2.1]; rfl
      generalize ch s 0 = cc at *
      replace hz := Hd.mk hz
      replace hun := Hd.mk hun
      go_wp2_with fail
      go_meet
      exact ⟨rfl, rfl⟩
  case rest =>
  obtain ⟨rfl, rfl⟩ := hcut
  clear hse hse2 hse3
  go_upto_if 17 with fail
  go_cut [0] (fun t0 wx => t0 = .string t ∧ w1 = wx)
  case first =>
    cases neg
    · simp only [Bool.false_eq_true, if_false] at hun
      obtain ⟨-, rfl⟩ := hun
      go_wp2_with fail
      go_meet
      exact ⟨rfl, rfl⟩
    · simp only [if_true] at hun
      obtain ⟨hs0, -, rfl⟩ := hun
      have hss : 1 ≤ s.size := hs0
      go_wp2_with fail
      go_meet
      exact ⟨rfl, rfl⟩
  case rest =>
  obtain ⟨rfl, rfl⟩ := hcut
  clear hun
  go_wp2
  go_loop [5, 6] (fun p i => ∃ k : Nat, k ≤ t.size ∧ i = .int .i64 k ∧ p = .int .i64 (if n0 < k then (n0 : Int) else -1)) (fun _ i => t.size - (intOf i).toNat)
  case atStart => exact ⟨0, Nat.zero_le _, rfl, by rw [if_neg (by omega)]⟩
  case round =>
    obtain ⟨k, hk, rfl, rfl⟩ := hrel
    by_cases hkt : k < t.size
    · have hlt : decide ((k : Int) < (t.size : Int)) = true := decide_eq_true (by omega)
      have hix := ch_eq (s := t) (k := k) hkt
      have hwk : IntKind.i64.wrap ((k : Int) + 1) = (k : Int) + 1 := IntWalk.i64_in _ (by omega)
      have hi0 : (0 : Int) ≤ (k : Int) := by omega
      have hi1 : (k : Int) < (t.size : Int) := by omega
      by_cases hkn : k = n0
      · exfalso; omega
      · have hne : ch t k ≠ 46 := hd.out k hkt hkn
        have h46 : ((ch t k : Int) == 46) = false := by simp; omega
        have hfin : Hd ((if n0 < k then (n0 : Int) else -1) = (if n0 < k + 1 then (n0 : Int) else -1)) := ⟨by by_cases h : n0 < k; (· rw [if_pos h, if_pos (by omega)]); (· rw [if_neg h, if_neg (by omega)])⟩
        generalize ch t k = cc at *
        replace hne := Hd.mk hne
        generalize (if n0 < k then (n0 : Int) else -1) = pp at *
        go_wp2
        go_round
        case rel => exact ⟨k + 1, by omega, by rw [Int.natCast_succ], by rw [hfin.out]⟩
        case measure => simp [intOf]; omega
    · obtain rfl : k = t.size := by omega
      have hlt : decide ((t.size : Int) < (t.size : Int)) = false := decide_eq_false (by omega)
      rw [if_neg (by omega)]
      have hge : decide ((0 : Int) ≤ -1) = false := by decide
      have r2 := Hd.mk r1.out
      clear r1
      generalize w1 = w2 at *
      go_upto_region 19 with (go_at_call 50; refine (hdg.out _).mono ?_; rintro e w3 ⟨b3, A3, m3, c3, rfl, hb3⟩; have r3 := Hd.mk (r2.out.op hb3); clear hb3)
      have r4 := Hd.mk (r3.out.box2 (b0 := b3) (A := A3) (m := m3) (c := c3))
      have l3 := (r3.out.blk _ _ hC1.out).2.lt
      have hR : Hd (updC C1 w3.heap.size [.bool b3, .slice A3 m3 c3] w.heap.size = some [.bool false, .slice none 0 0]) := ⟨by rw [updC_ne (by omega)]; exact hC1.out⟩
      generalize w3.alloc (.cells #[.bool b3, .slice A3 m3 c3] 24) = w4 at *
      refine SR.cellK r4.out hR.out ?_
      intro q0 q1 qz qy ql
      have hf := r4.out.set (b1 := false) (A1 := none) (m1 := 0) (c1 := 0) hR.out
      have hfb := Hd.mk hf.bel
      clear hf
      go_wp2
      refine bodyPost_ret (v := .tuple #[.agg #[.bool false, .slice none 0 0], .bool false]) (by simp [results, Tryz.results15, go_sem, q0, q1, qz, qy, ql]) rfl ⟨rfl, hfb.out⟩
set_option maxHeartbeats 4000000 in
theorem parsed_nod2 (s t : ByteArray) (neg : Bool) (w : World) (hs : s.size < 120) (hun : unm s = (neg, t)) (n0 more : Nat) (hn0 : n0 < t.size) (hp : Hd (n0 < t.size → ch t n0 = 46)) (hd : Hd (∀ k, k < t.size → k ≠ n0 → ch t k ≠ 46)) (hm : more + n0 + 1 = t.size) (h1 : more ≠ 0) (h2 : more ≤ 18) (h3 : n0 ≠ 0) (d : ByteArray) (hdd : Hd (d = t.extract 0 n0 ++ t.extract (n0 + 1) t.size)) (hdn : d.size < 200) (hno : d.size = 0 ∨ ∃ j, j < d.size ∧ ¬ isD (ch d j)) :
    Calls Tryz.prog 15 #[.string s] w fun e w' => e = .returned (.tuple #[.agg #[.bool false, .slice none 0 0], .bool false]) ∧ Below w.heap.size w w' := by
  have hts : t.size ≤ s.size := by have := unm_size s; rw [hun] at this; exact this
  have hun := unm_cases s hun
  have r0 := SR.start w [] (fun p hp => by cases hp)
  have r1 := r0.box2 (b0 := false) (A := none) (m := 0) (c := 0)
  have hC1 : (updC (fun _ => none) w.heap.size [.bool false, .slice none 0 0]) w.heap.size = some [.bool false, .slice none 0 0] := updC_same
  generalize updC (fun _ => none) w.heap.size [.bool false, .slice none 0 0] = C1 at *
  have l1 : w.heap.size < (w.alloc (.cells #[.bool false, .slice none 0 0] 24)).heap.size := by rw [World.size_alloc]; omega
  replace r1 := Hd.mk r1
  replace hC1 := Hd.mk hC1
  clear r0
  have hdg : Hd (∀ w1, Calls Tryz.prog 50 #[.string d] w1 fun e w' => ∃ b A n c, e = .returned (.tuple #[.agg #[.bool b, .slice A n c], .bool false]) ∧ Below w1.heap.size w1 w') := ⟨fun w1 => by
    obtain ⟨m, hm1, hm2, hm3⟩ := trail d d.size (Nat.le_refl _)
    have hne : ¬ (m = d.size ∧ d.size ≠ 0) := fun ⟨q1, q2⟩ => by
      rcases hno with h | ⟨j, hj, hjn⟩
      · exact q2 h
      · have := hm2 (d.size - 1 - j) (by omega)
        rw [show d.size - 1 - (d.size - 1 - j) = j by omega] at this
        exact hjn this
    have h := digits_any d m w1 hdn hm1 hm2 hm3
    rw [decide_eq_false hne] at h
    exact h.mono fun e w' ⟨v, he, _, ⟨b, A, n, c, hv⟩, hb⟩ => ⟨b, A, n, c, by rw [he, hv], hb⟩⟩
  replace hno := Hd.mk hno
  have hse := str_empty s
  have hse3 : (s.toList == []) = decide (s.size = 0) := by rw [← hse]; congr 1; simp [ByteArray.toList_eq]
  have hse2 : s.toList.isEmpty = decide (s.size = 0) := by rw [← hse]; cases s.toList with | nil => (rw [show (ByteArray.mk #[]).toList = [] from by simp [ByteArray.toList_eq]]; rfl) | cons a l => (rw [show (ByteArray.mk #[]).toList = [] from by simp [ByteArray.toList_eq]]; rfl)
  go_enter Tryz.func15, Tryz.ntmps15
  go_upto_region 1 with fail
  generalize w.alloc (.cells #[.bool false, .slice none 0 0] 24) = w1 at *
  go_cut [4] (fun t4 wx => t4 = .bool neg ∧ w1 = wx)
  case first =>
    by_cases hz : s.size = 0
    · have hn : neg = false := by cases neg; (· rfl); (· simp only [if_true] at hun; omega)
      subst hn
      rw [decide_eq_true hz] at hse hse2 hse3
      replace hz := Hd.mk hz
      replace hun := Hd.mk hun
      go_wp2_with fail
      go_meet
      exact ⟨rfl, rfl⟩
    · rw [decide_eq_false hz] at hse hse2 hse3
      have hs0 : 0 < s.size := by omega
      have hix := ch_eq (s := s) (k := 0) hs0
      have h45 : ((ch s 0 : Int) == 45) = neg := by
        cases neg
        · simp only [Bool.false_eq_true, if_false] at hun
          have : ch s 0 ≠ 45 := fun h => hun.1 ⟨hs0, h⟩
          simp; omega
        · simp only [if_true] at hun
          rw [hun.2.1]; rfl
      generalize ch s 0 = cc at *
      replace hz := Hd.mk hz
      replace hun := Hd.mk hun
      go_wp2_with fail
      go_meet
      exact ⟨rfl, rfl⟩
  case rest =>
  obtain ⟨rfl, rfl⟩ := hcut
  clear hse hse2 hse3
  go_upto_if 17 with fail
  go_cut [0] (fun t0 wx => t0 = .string t ∧ w1 = wx)
  case first =>
    cases neg
    · simp only [Bool.false_eq_true, if_false] at hun
      obtain ⟨-, rfl⟩ := hun
      go_wp2_with fail
      go_meet
      exact ⟨rfl, rfl⟩
    · simp only [if_true] at hun
      obtain ⟨hs0, -, rfl⟩ := hun
      have hss : 1 ≤ s.size := hs0
      go_wp2_with fail
      go_meet
      exact ⟨rfl, rfl⟩
  case rest =>
  obtain ⟨rfl, rfl⟩ := hcut
  clear hun
  go_wp2
  go_loop [5, 6] (fun p i => ∃ k : Nat, k ≤ t.size ∧ i = .int .i64 k ∧ p = .int .i64 (if n0 < k then (n0 : Int) else -1)) (fun _ i => t.size - (intOf i).toNat)
  case atStart => exact ⟨0, Nat.zero_le _, rfl, by rw [if_neg (by omega)]⟩
  case round =>
    obtain ⟨k, hk, rfl, rfl⟩ := hrel
    by_cases hkt : k < t.size
    · have hlt : decide ((k : Int) < (t.size : Int)) = true := decide_eq_true (by omega)
      have hix := ch_eq (s := t) (k := k) hkt
      have hwk : IntKind.i64.wrap ((k : Int) + 1) = (k : Int) + 1 := IntWalk.i64_in _ (by omega)
      have hi0 : (0 : Int) ≤ (k : Int) := by omega
      have hi1 : (k : Int) < (t.size : Int) := by omega
      by_cases hkn : k = n0
      · subst hkn
        rw [if_neg (by omega)]
        rw [hp.out hkt] at hix
        have hfin : Hd (.int .i64 (k : Int) = Value.int .i64 (if k < k + 1 then (k : Int) else -1)) := ⟨by rw [if_pos (by omega)]⟩
        go_wp2
        go_round
        case rel => exact ⟨k + 1, by omega, by rw [Int.natCast_succ], hfin.out⟩
        case measure => simp [intOf]; omega
      · have hne : ch t k ≠ 46 := hd.out k hkt hkn
        have h46 : ((ch t k : Int) == 46) = false := by simp; omega
        have hfin : Hd ((if n0 < k then (n0 : Int) else -1) = (if n0 < k + 1 then (n0 : Int) else -1)) := ⟨by by_cases h : n0 < k; (· rw [if_pos h, if_pos (by omega)]); (· rw [if_neg h, if_neg (by omega)])⟩
        generalize ch t k = cc at *
        replace hne := Hd.mk hne
        generalize (if n0 < k then (n0 : Int) else -1) = pp at *
        go_wp2
        go_round
        case rel => exact ⟨k + 1, by omega, by rw [Int.natCast_succ], by rw [hfin.out]⟩
        case measure => simp [intOf]; omega
    · obtain rfl : k = t.size := by omega
      have hlt : decide ((t.size : Int) < (t.size : Int)) = false := decide_eq_false (by omega)
      rw [if_pos hn0]
      have hge : decide (0 ≤ (n0 : Int)) = true := decide_eq_true (by omega)
      have w1' : IntKind.i64.wrap ((t.size : Int) - (n0 : Int)) = (t.size : Int) - (n0 : Int) := IntWalk.i64_in _ (by omega)
      have w2' : IntKind.i64.wrap ((t.size : Int) - (n0 : Int) - 1) = (more : Int) := by rw [IntWalk.i64_in _ (by omega)]; omega
      have hb1 : (((more : Nat) : Int) == 0) = false := beq_false_of_ne (by omega)
      have hb2 : decide (18 < (more : Int)) = false := decide_eq_false (by omega)
      have hb3 : (((n0 : Nat) : Int) == 0) = false := beq_false_of_ne (by omega)
      have w3' : IntKind.i64.wrap ((n0 : Int) + 1) = ((n0 + 1 : Nat) : Int) := by rw [IntWalk.i64_in _ (by omega)]; omega
      have j0 : (0 : Int) ≤ (n0 : Int) := by omega
      have j1 : (n0 : Int) ≤ (t.size : Int) := by omega
      have j2 : (0 : Int) ≤ ((n0 + 1 : Nat) : Int) := by omega
      have j3 : ((n0 + 1 : Nat) : Int) ≤ (t.size : Int) := by omega
      have j4 : (((n0 + 1 : Nat) : Int)).toNat = n0 + 1 := by omega
      have j5 : ((n0 : Int)).toNat = n0 := by omega
      have j6 : (n0 : Int) + 1 ≤ (t.size : Int) := by omega
      have j7 : (0 : Int) ≤ (n0 : Int) + 1 := by omega
      have e1 := ext_size t 0 n0 (by omega)
      have e2 := ext_size t (n0 + 1) t.size (Nat.le_refl _)
      have hov : ¬ (9223372036854775807 < (t.extract 0 n0).size + (t.extract (n0 + 1) t.size).size) := by omega
      have hov2 : ¬ (9223372036854775807 < n0 + (t.size - (n0 + 1))) := by omega
      have hov3 : ¬ (9223372036854775807 < n0 - 0 + (t.size - (n0 + 1))) := by omega
      replace e1 := Hd.mk e1
      replace e2 := Hd.mk e2
      go_upto_region 17 with fail
      go_cut [0] (fun t0 wx => t0 = .string d ∧ Hd (Below w1.heap.size w1 wx))
      case first =>
        go_region
        all_goals
          go_wp2_with fail
          go_meet
          exact ⟨by first | (rw [hdd.out]; done) | (rw [hdd.out]; rfl), ⟨below_drew' (Below.refl _ _)⟩⟩
      case rest =>
      obtain ⟨rfl, hbw⟩ := hcut
      generalize wc = w2 at *
      have r2 := Hd.mk (r1.out.op hbw.out)
      clear r1
      go_upto_region 19 with (go_at_call 50; refine (hdg.out _).mono ?_; rintro e w3 ⟨b3, A3, m3, c3, rfl, hb3⟩; have r3 := Hd.mk (r2.out.op hb3); clear hb3)
      have r4 := Hd.mk (r3.out.box2 (b0 := b3) (A := A3) (m := m3) (c := c3))
      have l3 := (r3.out.blk _ _ hC1.out).2.lt
      have hR : Hd (updC C1 w3.heap.size [.bool b3, .slice A3 m3 c3] w.heap.size = some [.bool false, .slice none 0 0]) := ⟨by rw [updC_ne (by omega)]; exact hC1.out⟩
      generalize w3.alloc (.cells #[.bool b3, .slice A3 m3 c3] 24) = w4 at *
      refine SR.cellK r4.out hR.out ?_
      intro q0 q1 qz qy ql
      have hf := r4.out.set (b1 := false) (A1 := none) (m1 := 0) (c1 := 0) hR.out
      have hfb := Hd.mk hf.bel
      clear hf
      go_wp2
      refine bodyPost_ret (v := .tuple #[.agg #[.bool false, .slice none 0 0], .bool false]) (by simp [results, Tryz.results15, go_sem, q0, q1, qz, qy, ql]) rfl ⟨rfl, hfb.out⟩
end Go.Proofs.YtmamfidjigmahaaGreatDoor
