/- Decimals' texts that are refused: something else than digits, and out of range. Conditions: those that each theorem states. -/
import Derived.Test.YtmamfidjigmahaaGreatDoorParses01
set_option linter.all false

namespace Go.Proofs.YtmamfidjigmahaaGreatDoor
open Go.RowKit
set_option maxRecDepth 100000
set_option maxHeartbeats 4000000 in
theorem FromStr_bad1 (s t : ByteArray) (neg : Bool) (w : World) (hok : Ok w) (her : Er w) (hs : s.size < 120) (hun : unm s = (neg, t)) (h0 : t.size ≠ 0) (A : ByteArray) (hsp : Spl t [A]) (hsg : (sgP (A ++ zeros 18)).2 = 0) (hbad : ∃ j, j < (A ++ zeros 18).size ∧ ¬ isD (ch (A ++ zeros 18) j)) :
    Calls Tryz.prog 48 #[.string s] w fun e w' => FErr w e w' := by
  have hts : t.size ≤ s.size := by have := unm_size s; rw [hun] at this; exact this
  have hun := unm_cases s hun
  have hb1 : Below w.heap.size w (w.alloc (.cells #[.pointer none] 52)) := (Below.refl _ _).alloc (Nat.le_refl _) _
  have hG := hok.2
  have hok1 := hok.below hb1
  have her1 := her.below hb1
  have hbk := Blk.new w #[.pointer none] 52
  have c0 := hbk.cell 0
  have z0 := hbk.frozen 0
  simp only [List.getElem?_cons_zero] at c0
  have sz1 : w.heap.size < (w.alloc (.cells #[.pointer none] 52)).heap.size := by rw [World.size_alloc]; omega
  replace hb1 := Hd.mk hb1
  replace hok1 := Hd.mk hok1
  replace her1 := Hd.mk her1
  replace hbk := Hd.mk hbk
  clear hok her
  have hsl := Hd.mk fun w1 => zzSplit_any t _ w1 (by omega) hsp
  have htz : (((t.size : Nat) : Int) == 0) = false := beq_false_of_ne (by omega)
  replace hsp := Hd.mk hsp
  obtain rfl := spl_one hsp.out
  have hrp := Hd.mk fun w1 => Tryz.strings_Repeat (ByteArray.mk #[48]) 18 w1 (by omega) (by decide)
  rw [show ((18 : Nat) : Int) = 18 from rfl] at hrp
  have hzz : (⟨(Lib.repeatL (ByteArray.mk #[48]).data.toList 18).toArray⟩ : ByteArray) = zeros 18 := rfl
  have hzs : (zeros 18).size = 18 := by rw [← bts_length, bts_zeros, List.length_replicate]
  have hov2 : ¬ (9223372036854775807 < t.size + (zeros 18).size) := by omega
  have hcsz : (t ++ zeros 18).size = t.size + 18 := by rw [← bts_length, bts_append, List.length_append, bts_length, bts_length, hzs]
  have hcsb : 0 < t.size + 18 ∧ t.size + 18 < 140 := by omega
  have hn := Hd.mk fun s w1 => errNew_any s w1
  have hnw : Hd (∀ w1, Ok w1 → Er w1 → Calls Tryz.prog 101 #[ptr w1.heap.size, .string (t ++ zeros 18), .int .i64 10] (w1.alloc (.cells #[.bool false, .slice none 0 0] 83)) fun e w' => e = .returned (.tuple #[.pointer none, .bool false]) ∧ Below w1.heap.size w1 w') := ⟨fun w1 ho he => by
    have hb1 : Below w1.heap.size w1 (w1.alloc (.cells #[.bool false, .slice none 0 0] 83)) := (Below.refl _ _).alloc (Nat.le_refl _) _
    have hsz1 : (w1.alloc (.cells #[.bool false, .slice none 0 0] 83)).heap.size = w1.heap.size + 1 := World.size_alloc _ _
    exact (SetString_bad w1.heap.size _ _ (Blk.new w1 #[.bool false, .slice none 0 0] 83) (by have := ho.2; omega) (by omega) (by omega) (he.below hb1) hsg hbad).mono fun e w' ⟨h1, hc⟩ => ⟨h1, hc.os.trans hb1.os, hc.tape.trans hb1.tape, hc.output.trans hb1.output, Nat.le_trans hb1.size hc.size, fun k hk => (hc.block k (by omega) (by simp; omega)).trans (hb1.block k hk)⟩⟩
  replace hzs := Hd.mk hzs
  replace hzz := Hd.mk hzz
  replace hcsz := Hd.mk hcsz
  replace hcsb := Hd.mk hcsb
  replace hsg := Hd.mk hsg
  replace hbad := Hd.mk hbad
  go_enter Tryz.func48, Tryz.ntmps48
  go_upto_if 20 with fail
  generalize w.alloc (.cells #[.pointer none] 52) = w1 at *
  go_cut [0, 4] (fun t0 t4 wx => t0 = .string t ∧ t4 = .bool neg ∧ wx = w1)
  case first =>
    cases neg
    · simp only [Bool.false_eq_true, if_false] at hun
      obtain ⟨hn, rfl⟩ := hun
      have hs0 : 0 < t.size := by omega
      have hix := ch_eq (s := t) (k := 0) hs0
      have h45 : ((ch t 0 : Int) == 45) = false := by
        have : ch t 0 ≠ 45 := fun h => hn ⟨hs0, h⟩
        simp; omega
      generalize ch t 0 = cc at *
      go_wp2_with fail
      go_meet
      exact ⟨rfl, rfl, rfl⟩
    · simp only [if_true] at hun
      obtain ⟨hs0, h45, rfl⟩ := hun
      have hix := ch_eq (s := s) (k := 0) hs0
      rw [h45] at hix
      have hss : 1 ≤ s.size := hs0
      go_wp2_with fail
      go_meet
      exact ⟨rfl, rfl, rfl⟩
  case rest =>
  obtain ⟨rfl, rfl, rfl⟩ := hcut
  clear hun
  go_wp2_with (first
    | (go_at_call 98; refine (hsl.out _).mono ?_; rintro e w2 ⟨v2, rfl, how⟩; have hbel2 := Hd.mk (hb1.out.trans (how.bel.mono hb1.out.size)); have hok2 := Hd.mk (hok1.out.below how.bel); have her2 := Hd.mk (her1.out.below how.bel); have e0 := cb how.bel c0; have y0 := fb how.bel c0 z0; have s2 := Nat.lt_of_lt_of_le sz1 how.bel.size; obtain ⟨g, cap, rfl, hcap, hcell⟩ := how.open (by simp); have k0 := hcell 0 _ rfl; simp only [List.length_cons, List.length_nil] at hcap; clear how hcell)
    | (go_at_call 100; refine (hrp.out _).mono ?_; rintro e w3 ⟨rfl, hb3⟩; rw [hzz.out]; have hbel3 := Hd.mk (hbel2.out.trans (hb3.mono hbel2.out.size)); have hok3 := Hd.mk (hok2.out.below hb3); have her3 := Hd.mk (her2.out.below hb3); have e3 := cb hb3 e0; have y3 := fb hb3 e0 y0; have s3 := Nat.lt_of_lt_of_le s2 hb3.size; clear hb3)
    | (go_at_call 101; refine (hnw.out w3 hok3.out her3.out).mono ?_; rintro e w5 ⟨rfl, hb5⟩; have hbel5 := Hd.mk (hbel3.out.trans (hb5.mono hbel3.out.size)); have e5 := cb hb5 e3; have y5 := fb hb5 e3 y3; have s5 := Nat.lt_of_lt_of_le s3 hb5.size; clear hb5)
    | (go_at_call 99; refine (hn.out _ _).mono ?_; rintro e w6 ⟨rfl, rfl⟩))
  refine bodyPost_ret (v := .tuple #[.agg #[.pointer none], errV ⟨w5.heap.size, 0, none⟩]) (by simp [results, Tryz.results48, go_sem, e5, y5, s5]) rfl ⟨_, rfl, ?_⟩
  (repeat first | with_reducible exact hbel5.out | with_reducible exact below_drew' hbel5.out | refine Below.setCell ?_ (by dsimp only; omega) _ | refine below_drew' ?_ | refine Below.alloc ?_ (by first | exact (hbel5.out).size | (simp only [World.size_drew, World.size_setCell]; exact (hbel5.out).size)) _)
set_option maxHeartbeats 4000000 in
theorem FromStr_bad2 (s t : ByteArray) (neg : Bool) (w : World) (hok : Ok w) (her : Er w) (hs : s.size < 120) (hun : unm s = (neg, t)) (h0 : t.size ≠ 0) (A F : ByteArray) (hsp : Spl t [A, F]) (hA : A.size ≠ 0) (hF : F.size ≠ 0) (hF18 : F.size ≤ 18) (hsg : (sgP (A ++ F ++ zeros (18 - F.size))).2 = 0) (hbad : ∃ j, j < (A ++ F ++ zeros (18 - F.size)).size ∧ ¬ isD (ch (A ++ F ++ zeros (18 - F.size)) j)) :
    Calls Tryz.prog 48 #[.string s] w fun e w' => FErr w e w' := by
  have hts : t.size ≤ s.size := by have := unm_size s; rw [hun] at this; exact this
  have hun := unm_cases s hun
  have hb1 : Below w.heap.size w (w.alloc (.cells #[.pointer none] 52)) := (Below.refl _ _).alloc (Nat.le_refl _) _
  have hG := hok.2
  have hok1 := hok.below hb1
  have her1 := her.below hb1
  have hbk := Blk.new w #[.pointer none] 52
  have c0 := hbk.cell 0
  have z0 := hbk.frozen 0
  simp only [List.getElem?_cons_zero] at c0
  have sz1 : w.heap.size < (w.alloc (.cells #[.pointer none] 52)).heap.size := by rw [World.size_alloc]; omega
  replace hb1 := Hd.mk hb1
  replace hok1 := Hd.mk hok1
  replace her1 := Hd.mk her1
  replace hbk := Hd.mk hbk
  clear hok her
  have hsl := Hd.mk fun w1 => zzSplit_any t _ w1 (by omega) hsp
  have htz : (((t.size : Nat) : Int) == 0) = false := beq_false_of_ne (by omega)
  replace hsp := Hd.mk hsp
  have hAF := spl_two hsp.out
  have hAl : 0 < A.size ∧ A.size + F.size < 120 := by omega
  have hF18i : (F.size : Int) ≤ 18 := by omega
  have zA : (((A.size : Nat) : Int) == 0) = false := beq_false_of_ne (by omega)
  have zF : (((F.size : Nat) : Int) == 0) = false := beq_false_of_ne (by omega)
  have gF : decide (18 < ((F.size : Nat) : Int)) = false := decide_eq_false (by omega)
  have hwz : IntKind.i64.wrap (18 - (F.size : Int)) = ((18 - F.size : Nat) : Int) := by rw [IntWalk.i64_in _ (by omega)]; omega
  have hrp := Hd.mk fun w1 => Tryz.strings_Repeat (ByteArray.mk #[48]) (18 - F.size) w1 (by omega) (by show 1 * (18 - F.size) ≤ _; omega)
  have hzz : (⟨(Lib.repeatL (ByteArray.mk #[48]).data.toList (18 - F.size)).toArray⟩ : ByteArray) = zeros (18 - F.size) := rfl
  have hzs : (zeros (18 - F.size)).size = (18 - F.size) := by rw [← bts_length, bts_zeros, List.length_replicate]
  have hov1 : ¬ (9223372036854775807 < A.size + F.size) := by omega
  have happ : (A ++ F).size = A.size + F.size := by rw [← bts_length, bts_append, List.length_append, bts_length, bts_length]
  have hov2 : ¬ (9223372036854775807 < (A ++ F).size + (zeros (18 - F.size)).size) := by omega
  have hov3 : ¬ (9223372036854775807 < A.size + F.size + (zeros (18 - F.size)).size) := by omega
  have hcsz : (A ++ F ++ zeros (18 - F.size)).size = A.size + F.size + (18 - F.size) := by rw [← bts_length, bts_append, bts_append, List.length_append, List.length_append, bts_length, bts_length, bts_length, hzs]
  have hcsb : 0 < A.size + F.size + (18 - F.size) ∧ A.size + F.size + (18 - F.size) < 140 := by omega
  have hn := Hd.mk fun s w1 => errNew_any s w1
  have hnw : Hd (∀ w1, Ok w1 → Er w1 → Calls Tryz.prog 101 #[ptr w1.heap.size, .string (A ++ F ++ zeros (18 - F.size)), .int .i64 10] (w1.alloc (.cells #[.bool false, .slice none 0 0] 83)) fun e w' => e = .returned (.tuple #[.pointer none, .bool false]) ∧ Below w1.heap.size w1 w') := ⟨fun w1 ho he => by
    have hb1 : Below w1.heap.size w1 (w1.alloc (.cells #[.bool false, .slice none 0 0] 83)) := (Below.refl _ _).alloc (Nat.le_refl _) _
    have hsz1 : (w1.alloc (.cells #[.bool false, .slice none 0 0] 83)).heap.size = w1.heap.size + 1 := World.size_alloc _ _
    exact (SetString_bad w1.heap.size _ _ (Blk.new w1 #[.bool false, .slice none 0 0] 83) (by have := ho.2; omega) (by omega) (by omega) (he.below hb1) hsg hbad).mono fun e w' ⟨h1, hc⟩ => ⟨h1, hc.os.trans hb1.os, hc.tape.trans hb1.tape, hc.output.trans hb1.output, Nat.le_trans hb1.size hc.size, fun k hk => (hc.block k (by omega) (by simp; omega)).trans (hb1.block k hk)⟩⟩
  replace hzs := Hd.mk hzs
  replace hzz := Hd.mk hzz
  replace hcsz := Hd.mk hcsz
  replace hcsb := Hd.mk hcsb
  replace hsg := Hd.mk hsg
  replace hbad := Hd.mk hbad
  go_enter Tryz.func48, Tryz.ntmps48
  go_upto_if 20 with fail
  generalize w.alloc (.cells #[.pointer none] 52) = w1 at *
  go_cut [0, 4] (fun t0 t4 wx => t0 = .string t ∧ t4 = .bool neg ∧ wx = w1)
  case first =>
    cases neg
    · simp only [Bool.false_eq_true, if_false] at hun
      obtain ⟨hn, rfl⟩ := hun
      have hs0 : 0 < t.size := by omega
      have hix := ch_eq (s := t) (k := 0) hs0
      have h45 : ((ch t 0 : Int) == 45) = false := by
        have : ch t 0 ≠ 45 := fun h => hn ⟨hs0, h⟩
        simp; omega
      generalize ch t 0 = cc at *
      go_wp2_with fail
      go_meet
      exact ⟨rfl, rfl, rfl⟩
    · simp only [if_true] at hun
      obtain ⟨hs0, h45, rfl⟩ := hun
      have hix := ch_eq (s := s) (k := 0) hs0
      rw [h45] at hix
      have hss : 1 ≤ s.size := hs0
      go_wp2_with fail
      go_meet
      exact ⟨rfl, rfl, rfl⟩
  case rest =>
  obtain ⟨rfl, rfl, rfl⟩ := hcut
  clear hun
  go_wp2_with (first
    | (go_at_call 98; refine (hsl.out _).mono ?_; rintro e w2 ⟨v2, rfl, how⟩; have hbel2 := Hd.mk (hb1.out.trans (how.bel.mono hb1.out.size)); have hok2 := Hd.mk (hok1.out.below how.bel); have her2 := Hd.mk (her1.out.below how.bel); have e0 := cb how.bel c0; have y0 := fb how.bel c0 z0; have s2 := Nat.lt_of_lt_of_le sz1 how.bel.size; obtain ⟨g, cap, rfl, hcap, hcell⟩ := how.open (by simp); have k0 := hcell 0 _ rfl; have k1 := hcell 1 _ rfl; simp only [List.length_cons, List.length_nil] at hcap; clear how hcell)
    | (go_at_call 100; refine (hrp.out _).mono ?_; rintro e w3 ⟨rfl, hb3⟩; rw [hzz.out]; have hbel3 := Hd.mk (hbel2.out.trans (hb3.mono hbel2.out.size)); have hok3 := Hd.mk (hok2.out.below hb3); have her3 := Hd.mk (her2.out.below hb3); have e3 := cb hb3 e0; have y3 := fb hb3 e0 y0; have s3 := Nat.lt_of_lt_of_le s2 hb3.size; clear hb3)
    | (go_at_call 101; refine (hnw.out w3 hok3.out her3.out).mono ?_; rintro e w5 ⟨rfl, hb5⟩; have hbel5 := Hd.mk (hbel3.out.trans (hb5.mono hbel3.out.size)); have e5 := cb hb5 e3; have y5 := fb hb5 e3 y3; have s5 := Nat.lt_of_lt_of_le s3 hb5.size; clear hb5)
    | (go_at_call 99; refine (hn.out _ _).mono ?_; rintro e w6 ⟨rfl, rfl⟩))
  refine bodyPost_ret (v := .tuple #[.agg #[.pointer none], errV ⟨w5.heap.size, 0, none⟩]) (by simp [results, Tryz.results48, go_sem, e5, y5, s5]) rfl ⟨_, rfl, ?_⟩
  (repeat first | with_reducible exact hbel5.out | with_reducible exact below_drew' hbel5.out | refine Below.setCell ?_ (by dsimp only; omega) _ | refine below_drew' ?_ | refine Below.alloc ?_ (by first | exact (hbel5.out).size | (simp only [World.size_drew, World.size_setCell]; exact (hbel5.out).size)) _)
set_option maxHeartbeats 4000000 in
theorem FromStr_over1 (s t : ByteArray) (neg : Bool) (w : World) (hok : Ok w) (her : Er w) (hs : s.size < 120) (hun : unm s = (neg, t)) (h0 : t.size ≠ 0) (A : ByteArray) (hsp : Spl t [A]) (hD : ∀ b, b ∈ bts A → isD b) (hin : inR (if neg = true then -(nums (bts A ++ List.replicate 18 48) : Int) else (nums (bts A ++ List.replicate 18 48) : Int)) = false) :
    Calls Tryz.prog 48 #[.string s] w fun e w' => FErr w e w' := by
  have hts : t.size ≤ s.size := by have := unm_size s; rw [hun] at this; exact this
  have hun := unm_cases s hun
  have hb1 : Below w.heap.size w (w.alloc (.cells #[.pointer none] 52)) := (Below.refl _ _).alloc (Nat.le_refl _) _
  have hG := hok.2
  have hok1 := hok.below hb1
  have her1 := her.below hb1
  have hbk := Blk.new w #[.pointer none] 52
  have c0 := hbk.cell 0
  have z0 := hbk.frozen 0
  simp only [List.getElem?_cons_zero] at c0
  have sz1 : w.heap.size < (w.alloc (.cells #[.pointer none] 52)).heap.size := by rw [World.size_alloc]; omega
  replace hb1 := Hd.mk hb1
  replace hok1 := Hd.mk hok1
  replace her1 := Hd.mk her1
  replace hbk := Hd.mk hbk
  have her0 := Hd.mk her
  have r1 := Hd.mk ((hok.run).box #[.pointer none] 52)
  clear hok her
  have hsl := Hd.mk fun w1 => zzSplit_any t _ w1 (by omega) hsp
  have htz : (((t.size : Nat) : Int) == 0) = false := beq_false_of_ne (by omega)
  replace hsp := Hd.mk hsp
  obtain rfl := spl_one hsp.out
  have hrp := Hd.mk fun w1 => Tryz.strings_Repeat (ByteArray.mk #[48]) 18 w1 (by omega) (by decide)
  rw [show ((18 : Nat) : Int) = 18 from rfl] at hrp
  have hzz : (⟨(Lib.repeatL (ByteArray.mk #[48]).data.toList 18).toArray⟩ : ByteArray) = zeros 18 := rfl
  have hzs : (zeros 18).size = 18 := by rw [← bts_length, bts_zeros, List.length_replicate]
  have hov2 : ¬ (9223372036854775807 < t.size + (zeros 18).size) := by omega
  have hcsz : (t ++ zeros 18).size = t.size + 18 := by rw [← bts_length, bts_append, List.length_append, bts_length, bts_length, hzs]
  have hcsb : 0 < t.size + 18 ∧ t.size + 18 < 140 := by omega
  have hnw : Hd (∀ w1, Ok w1 → Er w1 → Calls Tryz.prog 101 #[ptr w1.heap.size, .string (t ++ zeros 18), .int .i64 10] (w1.alloc (.cells #[.bool false, .slice none 0 0] 83)) fun e w' => e = .returned (.tuple #[ptr w1.heap.size, .bool true]) ∧ NewI w1 w' w1.heap.size (nums (bts t ++ List.replicate 18 48) : Int)) := ⟨fun w1 hok her => by
    have hbs : bts (t ++ zeros 18) = bts t ++ List.replicate 18 48 := by rw [bts_append, bts_zeros]
    obtain ⟨q1, q2, q3, q4⟩ := scan_of (s := t ++ zeros 18) (neg := false) (l := bts t ++ List.replicate 18 48) (fun b hb => by
      rcases List.mem_append.1 hb with h | h
      · exact hD b h
      · rw [(List.mem_replicate.1 h).2]; decide) (fun e => by have := congrArg List.length e; simp only [List.length_append, bts_length, List.length_replicate, List.length_nil] at this; omega) (by rw [hbs]; rfl)
    have hlen : (bts t ++ List.replicate 18 48).length = t.size + 18 := by simp only [List.length_append, bts_length, List.length_replicate]
    rw [hlen] at q2 q3 q4
    have q1' : (sgP (t ++ zeros 18)).2 = 0 := by rw [q1]; rfl
    have hb1 : Below w1.heap.size w1 (w1.alloc (.cells #[.bool false, .slice none 0 0] 83)) := (Below.refl _ _).alloc (Nat.le_refl _) _
    have hsz1 : (w1.alloc (.cells #[.bool false, .slice none 0 0] 83)).heap.size = w1.heap.size + 1 := World.size_alloc _ _
    have hss := SetString_any w1.heap.size (t.size + 18) (t ++ zeros 18) _ (Blk.new w1 #[.bool false, .slice none 0 0] 83) (by have := hok.2; omega) (by omega) (by omega) (her.below hb1) (by omega) q3 (.inl q2) (by omega)
    rw [if_pos q2, decide_eq_true q2, q4, if_neg (by simp)] at hss
    exact hss.mono fun e w' ⟨h1, hc, o, h4, h5⟩ => ⟨h1, Nat.le_refl _, ⟨hc.os.trans hb1.os, hc.tape.trans hb1.tape, hc.output.trans hb1.output, Nat.le_trans hb1.size hc.size, fun k hk => (hc.block k (by omega) (by simp; omega)).trans (hb1.block k hk)⟩, o, h4, fun K hK => by have := h5 K hK; omega⟩⟩
  have hVb : wlen (nums (bts t ++ List.replicate 18 48)) < 800 := by
    have h1 : nums (bts t ++ List.replicate 18 48) < 10 ^ (t.size + 18) := by
      have := nums_lt (l := bts t ++ List.replicate 18 48) (fun b hb => by
        rcases List.mem_append.1 hb with h | h
        · exact hD b h
        · rw [(List.mem_replicate.1 h).2]; decide)
      have hlen : (bts t ++ List.replicate 18 48).length = t.size + 18 := by simp only [List.length_append, bts_length, List.length_replicate]
      rw [hlen] at this
      exact this
    have h2 : (10 : Nat) ^ (t.size + 18) ≤ 10 ^ 140 := Nat.pow_le_pow_right (by decide) (by omega)
    have h3 : wlen (nums (bts t ++ List.replicate 18 48)) ≤ 8 := wlen_le (n := 8) (Nat.lt_of_lt_of_le h1 (Nat.le_trans h2 (by decide)))
    omega
  rw [← Int.natAbs_natCast (nums (bts t ++ List.replicate 18 48))] at hVb
  generalize (nums (bts t ++ List.replicate 18 48) : Int) = V at *
  replace hD := Hd.mk hD
  replace hin := Hd.mk hin
  replace hzs := Hd.mk hzs
  replace hzz := Hd.mk hzz
  replace hcsz := Hd.mk hcsz
  replace hcsb := Hd.mk hcsb
  go_enter Tryz.func48, Tryz.ntmps48
  go_upto_if 20 with fail
  generalize w.alloc (.cells #[.pointer none] 52) = w1 at *
  go_cut [0, 4] (fun t0 t4 wx => t0 = .string t ∧ t4 = .bool neg ∧ wx = w1)
  case first =>
    cases neg
    · simp only [Bool.false_eq_true, if_false] at hun
      obtain ⟨hn, rfl⟩ := hun
      have hs0 : 0 < t.size := by omega
      have hix := ch_eq (s := t) (k := 0) hs0
      have h45 : ((ch t 0 : Int) == 45) = false := by
        have : ch t 0 ≠ 45 := fun h => hn ⟨hs0, h⟩
        simp; omega
      generalize ch t 0 = cc at *
      go_wp2_with fail
      go_meet
      exact ⟨rfl, rfl, rfl⟩
    · simp only [if_true] at hun
      obtain ⟨hs0, h45, rfl⟩ := hun
      have hix := ch_eq (s := s) (k := 0) hs0
      rw [h45] at hix
      have hss : 1 ≤ s.size := hs0
      go_wp2_with fail
      go_meet
      exact ⟨rfl, rfl, rfl⟩
  case rest =>
  obtain ⟨rfl, rfl, rfl⟩ := hcut
  clear hun
  cases neg
  · rw [if_neg (by simp)] at hin
    go_upto_region 28 with (first
    | (go_at_call 98; refine (hsl.out _).mono ?_; rintro e w2 ⟨v2, rfl, how⟩; have hbel2 := Hd.mk (hb1.out.trans (how.bel.mono hb1.out.size)); have r2 := Hd.mk (r1.out.below how.bel); have hok2 := Hd.mk (hok1.out.below how.bel); have her2 := Hd.mk (her1.out.below how.bel); have e0 := cb how.bel c0; have y0 := fb how.bel c0 z0; have s2 := Nat.lt_of_lt_of_le sz1 how.bel.size; obtain ⟨g, cap, rfl, hcap, hcell⟩ := how.open (by simp); have k0 := hcell 0 _ rfl; simp only [List.length_cons, List.length_nil] at hcap; clear how hcell)
    | (go_at_call 100; refine (hrp.out _).mono ?_; rintro e w3 ⟨rfl, hb3⟩; rw [hzz.out]; have her3 := Hd.mk (her2.out.below hb3); have r3 := Hd.mk (r2.out.below hb3); clear hb3)
    | (go_at_call 101; refine (hnw.out w3 r3.out.ok her3.out).mono ?_; rintro e w5 ⟨rfl, hn5⟩; have r5 := Hd.mk (r3.out.new_int hn5); have g5 := r3.out.ge; have l5 := r5.out.ilt upd_same; have s5 := hn5.bel.size; clear hn5))
    have r8 := Hd.mk (r5.out.box #[ptr w3.heap.size] 52)
    have hm8 := Hd.mk (inRange_any _ w3.heap.size V _ _ r8.out.ints upd_same hVb)
    rw [hin.out] at hm8
    go_upto_region 29 with (go_at_call 39; refine hm8.out.mono ?_; rintro e w9 ⟨rfl, hk9, hI9⟩; have r9 := Hd.mk (r8.out.op hk9 hI9); clear hk9 hI9)
    obtain ⟨d9, d9z, d9l⟩ := r9.out.cell (b := w.heap.size) (by rw [updX_ne (by omega), updX_same])
    obtain ⟨E, hE⟩ := (r9.out.er her0.out).e3
    have hE3 : (w9.setCell ⟨w.heap.size, 0, none⟩ (.pointer none)).cell? ⟨2, 0, none⟩ = some (errV E) := by
      rw [World.cell?_setCell_other]
      · exact hE
      · intro e; have h9 := congrArg Addr.block e; dsimp only at h9; omega
    have r10 := r9.out.set1 (b := w.heap.size) (v' := .pointer none) (by rw [updX_ne (by omega), updX_same])
    have hbel10 : Below w.heap.size w (w9.setCell ⟨w.heap.size, 0, none⟩ (.pointer none)) := ⟨r10.keep.os, r10.keep.tape, r10.keep.output, r10.keep.size, fun k hk => r10.keep.block k hk hk⟩
    replace r10 := Hd.mk r10
    go_region
    all_goals
      go_wp2_with fail
      refine bodyPost_ret (v := .tuple #[.agg #[.pointer none], errV E]) (by simp [results, Tryz.results48, go_sem, d9, d9z, d9l]) rfl ⟨_, rfl, ?_⟩
      first | exact hbel10 | exact below_drew' hbel10
  · rw [if_pos rfl] at hin
    go_upto_region 26 with (first
    | (go_at_call 98; refine (hsl.out _).mono ?_; rintro e w2 ⟨v2, rfl, how⟩; have hbel2 := Hd.mk (hb1.out.trans (how.bel.mono hb1.out.size)); have r2 := Hd.mk (r1.out.below how.bel); have hok2 := Hd.mk (hok1.out.below how.bel); have her2 := Hd.mk (her1.out.below how.bel); have e0 := cb how.bel c0; have y0 := fb how.bel c0 z0; have s2 := Nat.lt_of_lt_of_le sz1 how.bel.size; obtain ⟨g, cap, rfl, hcap, hcell⟩ := how.open (by simp); have k0 := hcell 0 _ rfl; simp only [List.length_cons, List.length_nil] at hcap; clear how hcell)
    | (go_at_call 100; refine (hrp.out _).mono ?_; rintro e w3 ⟨rfl, hb3⟩; rw [hzz.out]; have her3 := Hd.mk (her2.out.below hb3); have r3 := Hd.mk (r2.out.below hb3); clear hb3)
    | (go_at_call 101; refine (hnw.out w3 r3.out.ok her3.out).mono ?_; rintro e w5 ⟨rfl, hn5⟩; have r5 := Hd.mk (r3.out.new_int hn5); have g5 := r3.out.ge; have l5 := r5.out.ilt upd_same; have s5 := hn5.bel.size; clear hn5))
    have r6 := Hd.mk (r5.out.new_int (NewI.of_new _))
    have hm6 := Hd.mk (INeg_any _ w5.heap.size w3.heap.size 0 V _ _ r6.out.ints upd_same (by rw [upd_ne (by omega), upd_same]) (by omega))
    go_upto_region 28 with (go_at_call 102; refine hm6.out.mono ?_; rintro e w7 ⟨rfl, hk7, hI7⟩; have r7 := Hd.mk (r6.out.op hk7 hI7); have s7 := hk7.size; (try simp only [World.size_alloc] at s7); clear hk7 hI7)
    have r8 := Hd.mk (r7.out.box #[ptr w5.heap.size] 52)
    have hm8 := Hd.mk (inRange_any _ w5.heap.size (-V) _ _ r8.out.ints upd_same (by rw [Int.natAbs_neg]; exact hVb))
    rw [hin.out] at hm8
    go_upto_region 29 with (go_at_call 39; refine hm8.out.mono ?_; rintro e w9 ⟨rfl, hk9, hI9⟩; have r9 := Hd.mk (r8.out.op hk9 hI9); clear hk9 hI9)
    obtain ⟨d9, d9z, d9l⟩ := r9.out.cell (b := w.heap.size) (by rw [updX_ne (by omega), updX_same])
    obtain ⟨E, hE⟩ := (r9.out.er her0.out).e3
    have hE3 : (w9.setCell ⟨w.heap.size, 0, none⟩ (.pointer none)).cell? ⟨2, 0, none⟩ = some (errV E) := by
      rw [World.cell?_setCell_other]
      · exact hE
      · intro e; have h9 := congrArg Addr.block e; dsimp only at h9; omega
    have r10 := r9.out.set1 (b := w.heap.size) (v' := .pointer none) (by rw [updX_ne (by omega), updX_same])
    have hbel10 : Below w.heap.size w (w9.setCell ⟨w.heap.size, 0, none⟩ (.pointer none)) := ⟨r10.keep.os, r10.keep.tape, r10.keep.output, r10.keep.size, fun k hk => r10.keep.block k hk hk⟩
    replace r10 := Hd.mk r10
    go_region
    all_goals
      go_wp2_with fail
      refine bodyPost_ret (v := .tuple #[.agg #[.pointer none], errV E]) (by simp [results, Tryz.results48, go_sem, d9, d9z, d9l]) rfl ⟨_, rfl, ?_⟩
      first | exact hbel10 | exact below_drew' hbel10
set_option maxHeartbeats 4000000 in
theorem FromStr_over2 (s t : ByteArray) (neg : Bool) (w : World) (hok : Ok w) (her : Er w) (hs : s.size < 120) (hun : unm s = (neg, t)) (h0 : t.size ≠ 0) (A F : ByteArray) (hsp : Spl t [A, F]) (hA : A.size ≠ 0) (hF : F.size ≠ 0) (hF18 : F.size ≤ 18) (hD : ∀ b, b ∈ bts A ++ bts F → isD b) (hin : inR (if neg = true then -(nums (bts A ++ bts F ++ List.replicate (18 - F.size) 48) : Int) else (nums (bts A ++ bts F ++ List.replicate (18 - F.size) 48) : Int)) = false) :
    Calls Tryz.prog 48 #[.string s] w fun e w' => FErr w e w' := by
  have hts : t.size ≤ s.size := by have := unm_size s; rw [hun] at this; exact this
  have hun := unm_cases s hun
  have hb1 : Below w.heap.size w (w.alloc (.cells #[.pointer none] 52)) := (Below.refl _ _).alloc (Nat.le_refl _) _
  have hG := hok.2
  have hok1 := hok.below hb1
  have her1 := her.below hb1
  have hbk := Blk.new w #[.pointer none] 52
  have c0 := hbk.cell 0
  have z0 := hbk.frozen 0
  simp only [List.getElem?_cons_zero] at c0
  have sz1 : w.heap.size < (w.alloc (.cells #[.pointer none] 52)).heap.size := by rw [World.size_alloc]; omega
  replace hb1 := Hd.mk hb1
  replace hok1 := Hd.mk hok1
  replace her1 := Hd.mk her1
  replace hbk := Hd.mk hbk
  have her0 := Hd.mk her
  have r1 := Hd.mk ((hok.run).box #[.pointer none] 52)
  clear hok her
  have hsl := Hd.mk fun w1 => zzSplit_any t _ w1 (by omega) hsp
  have htz : (((t.size : Nat) : Int) == 0) = false := beq_false_of_ne (by omega)
  replace hsp := Hd.mk hsp
  have hAF := spl_two hsp.out
  have hAl : 0 < A.size ∧ A.size + F.size < 120 := by omega
  have hF18i : (F.size : Int) ≤ 18 := by omega
  have zA : (((A.size : Nat) : Int) == 0) = false := beq_false_of_ne (by omega)
  have zF : (((F.size : Nat) : Int) == 0) = false := beq_false_of_ne (by omega)
  have gF : decide (18 < ((F.size : Nat) : Int)) = false := decide_eq_false (by omega)
  have hwz : IntKind.i64.wrap (18 - (F.size : Int)) = ((18 - F.size : Nat) : Int) := by rw [IntWalk.i64_in _ (by omega)]; omega
  have hrp := Hd.mk fun w1 => Tryz.strings_Repeat (ByteArray.mk #[48]) (18 - F.size) w1 (by omega) (by show 1 * (18 - F.size) ≤ _; omega)
  have hzz : (⟨(Lib.repeatL (ByteArray.mk #[48]).data.toList (18 - F.size)).toArray⟩ : ByteArray) = zeros (18 - F.size) := rfl
  have hzs : (zeros (18 - F.size)).size = (18 - F.size) := by rw [← bts_length, bts_zeros, List.length_replicate]
  have hov1 : ¬ (9223372036854775807 < A.size + F.size) := by omega
  have happ : (A ++ F).size = A.size + F.size := by rw [← bts_length, bts_append, List.length_append, bts_length, bts_length]
  have hov2 : ¬ (9223372036854775807 < (A ++ F).size + (zeros (18 - F.size)).size) := by omega
  have hov3 : ¬ (9223372036854775807 < A.size + F.size + (zeros (18 - F.size)).size) := by omega
  have hcsz : (A ++ F ++ zeros (18 - F.size)).size = A.size + F.size + (18 - F.size) := by rw [← bts_length, bts_append, bts_append, List.length_append, List.length_append, bts_length, bts_length, bts_length, hzs]
  have hcsb : 0 < A.size + F.size + (18 - F.size) ∧ A.size + F.size + (18 - F.size) < 140 := by omega
  have hnw : Hd (∀ w1, Ok w1 → Er w1 → Calls Tryz.prog 101 #[ptr w1.heap.size, .string (A ++ F ++ zeros (18 - F.size)), .int .i64 10] (w1.alloc (.cells #[.bool false, .slice none 0 0] 83)) fun e w' => e = .returned (.tuple #[ptr w1.heap.size, .bool true]) ∧ NewI w1 w' w1.heap.size (nums (bts A ++ bts F ++ List.replicate (18 - F.size) 48) : Int)) := ⟨fun w1 hok her => by
    have hbs : bts (A ++ F ++ zeros (18 - F.size)) = bts A ++ bts F ++ List.replicate (18 - F.size) 48 := by rw [bts_append, bts_append, bts_zeros]
    obtain ⟨q1, q2, q3, q4⟩ := scan_of (s := A ++ F ++ zeros (18 - F.size)) (neg := false) (l := bts A ++ bts F ++ List.replicate (18 - F.size) 48) (fun b hb => by
      rcases List.mem_append.1 hb with h | h
      · exact hD b h
      · rw [(List.mem_replicate.1 h).2]; decide) (fun e => by have := congrArg List.length e; simp only [List.length_append, bts_length, List.length_replicate, List.length_nil] at this; omega) (by rw [hbs]; rfl)
    have hlen : (bts A ++ bts F ++ List.replicate (18 - F.size) 48).length = A.size + F.size + (18 - F.size) := by simp only [List.length_append, bts_length, List.length_replicate]
    rw [hlen] at q2 q3 q4
    have q1' : (sgP (A ++ F ++ zeros (18 - F.size))).2 = 0 := by rw [q1]; rfl
    have hb1 : Below w1.heap.size w1 (w1.alloc (.cells #[.bool false, .slice none 0 0] 83)) := (Below.refl _ _).alloc (Nat.le_refl _) _
    have hsz1 : (w1.alloc (.cells #[.bool false, .slice none 0 0] 83)).heap.size = w1.heap.size + 1 := World.size_alloc _ _
    have hss := SetString_any w1.heap.size (A.size + F.size + (18 - F.size)) (A ++ F ++ zeros (18 - F.size)) _ (Blk.new w1 #[.bool false, .slice none 0 0] 83) (by have := hok.2; omega) (by omega) (by omega) (her.below hb1) (by omega) q3 (.inl q2) (by omega)
    rw [if_pos q2, decide_eq_true q2, q4, if_neg (by simp)] at hss
    exact hss.mono fun e w' ⟨h1, hc, o, h4, h5⟩ => ⟨h1, Nat.le_refl _, ⟨hc.os.trans hb1.os, hc.tape.trans hb1.tape, hc.output.trans hb1.output, Nat.le_trans hb1.size hc.size, fun k hk => (hc.block k (by omega) (by simp; omega)).trans (hb1.block k hk)⟩, o, h4, fun K hK => by have := h5 K hK; omega⟩⟩
  have hVb : wlen (nums (bts A ++ bts F ++ List.replicate (18 - F.size) 48)) < 800 := by
    have h1 : nums (bts A ++ bts F ++ List.replicate (18 - F.size) 48) < 10 ^ (A.size + F.size + (18 - F.size)) := by
      have := nums_lt (l := bts A ++ bts F ++ List.replicate (18 - F.size) 48) (fun b hb => by
        rcases List.mem_append.1 hb with h | h
        · exact hD b h
        · rw [(List.mem_replicate.1 h).2]; decide)
      have hlen : (bts A ++ bts F ++ List.replicate (18 - F.size) 48).length = A.size + F.size + (18 - F.size) := by simp only [List.length_append, bts_length, List.length_replicate]
      rw [hlen] at this
      exact this
    have h2 : (10 : Nat) ^ (A.size + F.size + (18 - F.size)) ≤ 10 ^ 140 := Nat.pow_le_pow_right (by decide) (by omega)
    have h3 : wlen (nums (bts A ++ bts F ++ List.replicate (18 - F.size) 48)) ≤ 8 := wlen_le (n := 8) (Nat.lt_of_lt_of_le h1 (Nat.le_trans h2 (by decide)))
    omega
  rw [← Int.natAbs_natCast (nums (bts A ++ bts F ++ List.replicate (18 - F.size) 48))] at hVb
  generalize (nums (bts A ++ bts F ++ List.replicate (18 - F.size) 48) : Int) = V at *
  replace hD := Hd.mk hD
  replace hin := Hd.mk hin
  replace hzs := Hd.mk hzs
  replace hzz := Hd.mk hzz
  replace hcsz := Hd.mk hcsz
  replace hcsb := Hd.mk hcsb
  go_enter Tryz.func48, Tryz.ntmps48
  go_upto_if 20 with fail
  generalize w.alloc (.cells #[.pointer none] 52) = w1 at *
  go_cut [0, 4] (fun t0 t4 wx => t0 = .string t ∧ t4 = .bool neg ∧ wx = w1)
  case first =>
    cases neg
    · simp only [Bool.false_eq_true, if_false] at hun
      obtain ⟨hn, rfl⟩ := hun
      have hs0 : 0 < t.size := by omega
      have hix := ch_eq (s := t) (k := 0) hs0
      have h45 : ((ch t 0 : Int) == 45) = false := by
        have : ch t 0 ≠ 45 := fun h => hn ⟨hs0, h⟩
        simp; omega
      generalize ch t 0 = cc at *
      go_wp2_with fail
      go_meet
      exact ⟨rfl, rfl, rfl⟩
    · simp only [if_true] at hun
      obtain ⟨hs0, h45, rfl⟩ := hun
      have hix := ch_eq (s := s) (k := 0) hs0
      rw [h45] at hix
      have hss : 1 ≤ s.size := hs0
      go_wp2_with fail
      go_meet
      exact ⟨rfl, rfl, rfl⟩
  case rest =>
  obtain ⟨rfl, rfl, rfl⟩ := hcut
  clear hun
  cases neg
  · rw [if_neg (by simp)] at hin
    go_upto_region 28 with (first
    | (go_at_call 98; refine (hsl.out _).mono ?_; rintro e w2 ⟨v2, rfl, how⟩; have hbel2 := Hd.mk (hb1.out.trans (how.bel.mono hb1.out.size)); have r2 := Hd.mk (r1.out.below how.bel); have hok2 := Hd.mk (hok1.out.below how.bel); have her2 := Hd.mk (her1.out.below how.bel); have e0 := cb how.bel c0; have y0 := fb how.bel c0 z0; have s2 := Nat.lt_of_lt_of_le sz1 how.bel.size; obtain ⟨g, cap, rfl, hcap, hcell⟩ := how.open (by simp); have k0 := hcell 0 _ rfl; have k1 := hcell 1 _ rfl; simp only [List.length_cons, List.length_nil] at hcap; clear how hcell)
    | (go_at_call 100; refine (hrp.out _).mono ?_; rintro e w3 ⟨rfl, hb3⟩; rw [hzz.out]; have her3 := Hd.mk (her2.out.below hb3); have r3 := Hd.mk (r2.out.below hb3); clear hb3)
    | (go_at_call 101; refine (hnw.out w3 r3.out.ok her3.out).mono ?_; rintro e w5 ⟨rfl, hn5⟩; have r5 := Hd.mk (r3.out.new_int hn5); have g5 := r3.out.ge; have l5 := r5.out.ilt upd_same; have s5 := hn5.bel.size; clear hn5))
    have r8 := Hd.mk (r5.out.box #[ptr w3.heap.size] 52)
    have hm8 := Hd.mk (inRange_any _ w3.heap.size V _ _ r8.out.ints upd_same hVb)
    rw [hin.out] at hm8
    go_upto_region 29 with (go_at_call 39; refine hm8.out.mono ?_; rintro e w9 ⟨rfl, hk9, hI9⟩; have r9 := Hd.mk (r8.out.op hk9 hI9); clear hk9 hI9)
    obtain ⟨d9, d9z, d9l⟩ := r9.out.cell (b := w.heap.size) (by rw [updX_ne (by omega), updX_same])
    obtain ⟨E, hE⟩ := (r9.out.er her0.out).e3
    have hE3 : (w9.setCell ⟨w.heap.size, 0, none⟩ (.pointer none)).cell? ⟨2, 0, none⟩ = some (errV E) := by
      rw [World.cell?_setCell_other]
      · exact hE
      · intro e; have h9 := congrArg Addr.block e; dsimp only at h9; omega
    have r10 := r9.out.set1 (b := w.heap.size) (v' := .pointer none) (by rw [updX_ne (by omega), updX_same])
    have hbel10 : Below w.heap.size w (w9.setCell ⟨w.heap.size, 0, none⟩ (.pointer none)) := ⟨r10.keep.os, r10.keep.tape, r10.keep.output, r10.keep.size, fun k hk => r10.keep.block k hk hk⟩
    replace r10 := Hd.mk r10
    go_region
    all_goals
      go_wp2_with fail
      refine bodyPost_ret (v := .tuple #[.agg #[.pointer none], errV E]) (by simp [results, Tryz.results48, go_sem, d9, d9z, d9l]) rfl ⟨_, rfl, ?_⟩
      first | exact hbel10 | exact below_drew' hbel10
  · rw [if_pos rfl] at hin
    go_upto_region 26 with (first
    | (go_at_call 98; refine (hsl.out _).mono ?_; rintro e w2 ⟨v2, rfl, how⟩; have hbel2 := Hd.mk (hb1.out.trans (how.bel.mono hb1.out.size)); have r2 := Hd.mk (r1.out.below how.bel); have hok2 := Hd.mk (hok1.out.below how.bel); have her2 := Hd.mk (her1.out.below how.bel); have e0 := cb how.bel c0; have y0 := fb how.bel c0 z0; have s2 := Nat.lt_of_lt_of_le sz1 how.bel.size; obtain ⟨g, cap, rfl, hcap, hcell⟩ := how.open (by simp); have k0 := hcell 0 _ rfl; have k1 := hcell 1 _ rfl; simp only [List.length_cons, List.length_nil] at hcap; clear how hcell)
    | (go_at_call 100; refine (hrp.out _).mono ?_; rintro e w3 ⟨rfl, hb3⟩; rw [hzz.out]; have her3 := Hd.mk (her2.out.below hb3); have r3 := Hd.mk (r2.out.below hb3); clear hb3)
    | (go_at_call 101; refine (hnw.out w3 r3.out.ok her3.out).mono ?_; rintro e w5 ⟨rfl, hn5⟩; have r5 := Hd.mk (r3.out.new_int hn5); have g5 := r3.out.ge; have l5 := r5.out.ilt upd_same; have s5 := hn5.bel.size; clear hn5))
    have r6 := Hd.mk (r5.out.new_int (NewI.of_new _))
    have hm6 := Hd.mk (INeg_any _ w5.heap.size w3.heap.size 0 V _ _ r6.out.ints upd_same (by rw [upd_ne (by omega), upd_same]) (by omega))
    go_upto_region 28 with (go_at_call 102; refine hm6.out.mono ?_; rintro e w7 ⟨rfl, hk7, hI7⟩; have r7 := Hd.mk (r6.out.op hk7 hI7); have s7 := hk7.size; (try simp only [World.size_alloc] at s7); clear hk7 hI7)
    have r8 := Hd.mk (r7.out.box #[ptr w5.heap.size] 52)
    have hm8 := Hd.mk (inRange_any _ w5.heap.size (-V) _ _ r8.out.ints upd_same (by rw [Int.natAbs_neg]; exact hVb))
    rw [hin.out] at hm8
    go_upto_region 29 with (go_at_call 39; refine hm8.out.mono ?_; rintro e w9 ⟨rfl, hk9, hI9⟩; have r9 := Hd.mk (r8.out.op hk9 hI9); clear hk9 hI9)
    obtain ⟨d9, d9z, d9l⟩ := r9.out.cell (b := w.heap.size) (by rw [updX_ne (by omega), updX_same])
    obtain ⟨E, hE⟩ := (r9.out.er her0.out).e3
    have hE3 : (w9.setCell ⟨w.heap.size, 0, none⟩ (.pointer none)).cell? ⟨2, 0, none⟩ = some (errV E) := by
      rw [World.cell?_setCell_other]
      · exact hE
      · intro e; have h9 := congrArg Addr.block e; dsimp only at h9; omega
    have r10 := r9.out.set1 (b := w.heap.size) (v' := .pointer none) (by rw [updX_ne (by omega), updX_same])
    have hbel10 : Below w.heap.size w (w9.setCell ⟨w.heap.size, 0, none⟩ (.pointer none)) := ⟨r10.keep.os, r10.keep.tape, r10.keep.output, r10.keep.size, fun k hk => r10.keep.block k hk hk⟩
    replace r10 := Hd.mk r10
    go_region
    all_goals
      go_wp2_with fail
      refine bodyPost_ret (v := .tuple #[.agg #[.pointer none], errV E]) (by simp [results, Tryz.results48, go_sem, d9, d9z, d9l]) rfl ⟨_, rfl, ?_⟩
      first | exact hbel10 | exact below_drew' hbel10
end Go.Proofs.YtmamfidjigmahaaGreatDoor
