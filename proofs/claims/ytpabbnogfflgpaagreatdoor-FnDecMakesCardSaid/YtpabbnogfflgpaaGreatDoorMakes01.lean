/- FnDecBack: the walk. Texts of numbers that are an int64: what strconv.ParseInt reads of them. Plain lists and numbers; no program in sight. Decimals made of whole numbers. The thin package: a decimal made of a whole number: the closure. The thin package: a decimal made of a whole number. Conditions: those that each theorem states. -/
import Derived.Test.YtpabbnogfflgpaaGreatDoorBase28
import Derived.Test.YtpabbnogfflgpaaGreatDoorBase30
import Derived.Test.YtpabbnogfflgpaaGreatDoorBase31
import Derived.Lib.ParseIntBTie
import Derived.Test.YtpabbnogfflgpaaGreatDoorBase07
import Derived.Test.YtpabbnogfflgpaaGreatDoorShelf
import Derived.Test.YtpabbnogfflgpaaGreatDoorOnes01
import Derived.Test.YtpabbnogfflgpaaGreatDoorPower01
import Derived.Test.YtpabbnogfflgpaaGreatDoorBase27
set_option linter.all false

section
namespace Go.Proofs.YtpabbnogfflgpaaGreatDoor
open Go.RowKit
set_option maxRecDepth 100000
theorem bits_le (v : Value) (y : Int) (w : World) (hx : NumV w v y) (hl : y.natAbs < 10 ^ 200) (hy : y.natAbs < 2 ^ 256) :
    Calls Tryz.prog 32 #[v] w fun e w' => ∃ k : Nat, e = .returned (.int .i64 k) ∧ decide ((256 : Int) < (k : Int)) = false ∧ decide (256 < k) = false ∧ ¬ (256 < k) ∧ Below w.heap.size w w' :=
  (bits_any v y w hx hl).mono fun _ _ ⟨k, he, hk, hb⟩ => by
    have h := (hk 256).2 hy
    exact ⟨k, he, decide_eq_false (by omega), decide_eq_false (by omega), by omega, hb⟩
theorem bits_gt (v : Value) (y : Int) (w : World) (hx : NumV w v y) (hl : y.natAbs < 10 ^ 200) (hy : ¬ y.natAbs < 2 ^ 256) :
    Calls Tryz.prog 32 #[v] w fun e w' => ∃ k : Nat, e = .returned (.int .i64 k) ∧ decide ((256 : Int) < (k : Int)) = true ∧ decide (256 < k) = true ∧ 256 < k ∧ Below w.heap.size w w' :=
  (bits_any v y w hx hl).mono fun _ _ ⟨k, he, hk, hb⟩ => by
    have h : ¬ k ≤ 256 := fun h => hy ((hk 256).1 h)
    exact ⟨k, he, decide_eq_true (by omega), decide_eq_true (by omega), by omega, hb⟩
theorem decL_short {x : Int} (h : inR x = true) : (mkT (decL x)).size < 120 := by
  have h1 := inR_130 h
  have h2 := of_decide_eq_true h
  have hx : x.natAbs < 10 ^ 96 := by
    have hl : lim.natAbs < 10 ^ 96 := by decide
    have hl2 : (lim.natAbs : Int) = lim := by decide
    omega
  have hd : dlen x.natAbs ≤ 96 := by
    by_cases h0 : x.natAbs = 0
    · rw [h0, dlen_small (by omega)]; omega
    · exact dlen_le_of hx h0
  rw [mkT_size]
  unfold decL
  rw [ptL_af]
  simp only [List.length_append, fL_len, List.length_singleton]
  have ha : (aL (dtxt false x.natAbs)).length ≤ 96 := by
    unfold aL
    split
    · simp
    · rw [List.length_take, dtxt_len]; omega
  split <;> simp <;> omega
theorem DecParse_back (x : Int) (w : World) (hok : Ok w) (her : Er w) (hx : inR x = true) :
    Calls Tryz.prog 35 #[.string (mkT (decL x))] w fun e w' => e = .returned (.tuple #[.string (zT x), .bool true]) ∧ Below w.heap.size w w' :=
  DecParse_ok _ x w hok her hx fun w1 h1 h2 => by
    have hD : ∀ b, b ∈ dtxt false x.natAbs → isD b := fun b hb => dtxt_isD hb
    have h := FromStr_ok (mkT (decL x)) (mkT (ptL (dtxt false x.natAbs))) (mkT (aL (dtxt false x.natAbs))) (mkT (fL (dtxt false x.natAbs))) (decide (x < 0)) true w1 h1 h2 (decL_short hx) (unm_decL x)
      (by rw [if_pos rfl, ptL_af]; exact Spl_pt (fun b => aL_D hD) (fun b => fL_D hD)) (by rw [mkT_size]; exact fun h => aL_ne _ (List.length_eq_zero_iff.1 h)) (by rw [if_pos rfl, mkT_size, fL_len]; omega) (by rw [mkT_size, fL_len]; omega)
      (fun b hb => by
        rw [bts_mkT (isD_lt fun b => aL_D hD), bts_mkT (isD_lt fun b => fL_D hD)] at hb
        rcases List.mem_append.1 hb with hb | hb
        · exact aL_D hD hb
        · exact fL_D hD hb) (by rw [decZ_decL]; exact hx)
    rw [decZ_decL] at h
    exact h
end Go.Proofs.YtpabbnogfflgpaaGreatDoor
end

section
namespace Go.Proofs.YtpabbnogfflgpaaGreatDoor
open Go.Lib
theorem fold_ge : ∀ (l : List Nat) (acc : Nat), acc ≤ l.foldl (fun n b => 10 * n + (b - 48)) acc
  | [], _ => Nat.le_refl _
  | b :: l, acc => Nat.le_trans (by omega) (fold_ge l (10 * acc + (b - 48)))
theorem parse_digits : ∀ (l : List Nat) (acc : Nat), (∀ b, b ∈ l → isD b) → l.foldl (fun n b => 10 * n + (b - 48)) acc < 18446744073709551616 → parseUint10 acc (l.map UInt8.ofNat) = .ok (l.foldl (fun n b => 10 * n + (b - 48)) acc)
  | [], acc, _, _ => rfl
  | b :: l, acc, hd, hl => by
    have hb := hd b (by simp)
    unfold isD at hb
    have hn : (UInt8.ofNat b).toNat = b := by simp [UInt8.toNat_ofNat']; omega
    have hg := fold_ge l (10 * acc + (b - 48))
    simp only [List.foldl_cons] at hl ⊢
    simp only [List.map_cons, parseUint10, hn]
    rw [if_pos hb, if_neg (by omega), if_neg (by omega), show acc * 10 + (b - 48) = 10 * acc + (b - 48) by omega]
    exact parse_digits l _ (fun c hc => hd c (by simp [hc])) hl
theorem parse_mag (a : Nat) (h : a < 18446744073709551616) : parseMag ((dtxt false a).map UInt8.ofNat) = .ok a := by
  have h1 := nums_dtxt a
  unfold nums at h1
  unfold parseMag
  rw [if_neg (by intro e; exact dtxt_ne a (List.map_eq_nil_iff.1 e)), parse_digits _ 0 (fun b hb => dtxt_isD hb) (by rw [h1]; exact h), h1]
theorem atoi_zT {x : Int} (h1 : -9223372036854775808 ≤ x) (h2 : x ≤ 9223372036854775807) : atoiAll (zT x).data.toList = .ok x := by
  have e : (zT x).data.toList = (ztx x).map UInt8.ofNat := by simp [zT, mkT]
  rw [e]
  by_cases hx : x < 0
  · rw [ztx_neg hx]
    have hm := parse_mag x.natAbs (by omega)
    simp only [List.map_cons, atoiAll, show (UInt8.ofNat 45).toNat = 45 from rfl]
    simp only [or_true, if_true, hm, not_true, false_and, if_false, true_and]
    rw [if_neg (by omega)]
    congr 1
    omega
  · rw [ztx_pos (by omega)]
    have hm := parse_mag x.natAbs (by omega)
    cases hl : dtxt false x.natAbs with
    | nil => exact absurd hl (dtxt_ne _)
    | cons b l =>
      have hb := dtxt_isD (a := x.natAbs) (b := b) (by rw [hl]; simp)
      unfold isD at hb
      have hn : (UInt8.ofNat b).toNat = b := by simp [UInt8.toNat_ofNat']; omega
      rw [hl] at hm
      simp only [List.map_cons] at hm ⊢
      simp only [atoiAll, hn]
      rw [if_neg (by omega), hm]
      simp only
      rw [if_neg (by omega), if_neg (by omega), if_neg (by omega)]
      congr 1
      omega
theorem parseInt_zT {x : Int} (h1 : -9223372036854775808 ≤ x) (h2 : x ≤ 9223372036854775807) : parseIntB 64 (zT x).data.toList = .ok x := by
  rw [parseIntB_64]; exact atoi_zT h1 h2
end Go.Proofs.YtpabbnogfflgpaaGreatDoor
end

section
namespace Go.Proofs.YtpabbnogfflgpaaGreatDoor
open Go.RowKit
set_option maxRecDepth 100000
set_option maxHeartbeats 1000000 in
theorem ISetInt64_any (P : Nat → Prop) (bz : Nat) (z x : Int) (S : Nat → Option Int) (w : World) (hI : Ints P w S) (hz : S bz = some z) (h1 : -9223372036854775808 ≤ x) (h2 : x ≤ 9223372036854775807) :
    Calls Tryz.prog 134 #[ptr bz, .int .i64 x] w fun e w' => e = .returned (ptr bz) ∧ Keep P w w' ∧ Ints P w' (upd S bz x) := by
  obtain ⟨own, hst⟩ := hI
  obtain ⟨A, cap, hb, hn, g0, g1, h3, h4⟩ := (hst.at_ bz z hz).open
  have hset := sl (Below.refl _ _) (setUint64_any (.slice A (wlen z.natAbs) cap) x.natAbs (own bz) w hn.recv (by unfold BB; omega))
  have hoz : own bz ≠ some bz := fun e => by have := (hst.no bz z bz hz e).2; rw [hz] at this; cases this
  have hlz := hb.lt
  replace hst := Hd.mk hst
  replace hn := Hd.mk hn
  replace hset := Hd.mk hset
  replace hz := Hd.mk hz
  have fz := hb.frozen 1
  have fz0 := hb.frozen 0
  replace hb := Hd.mk hb
  by_cases hx0 : x < 0
  · have dx : decide (x < 0) = true := decide_eq_true hx0
    obtain ⟨y1, hy1⟩ : ∃ y1, IntKind.i64.wrap (-x) = y1 := ⟨_, rfl⟩
    have hy2 : IntKind.u64.wrap y1 = (x.natAbs : Int) := by
      by_cases hm : x = -9223372036854775808
      · subst hm; rw [← hy1]; rfl
      · rw [IntWalk.i64_in _ (by omega)] at hy1
        rw [← hy1]
        exact (IntWalk.u64_in _ (by omega)).trans (by omega)
    generalize hmm : x.natAbs = m at *
    replace hmm := Hd.mk hmm
    replace dx := Hd.mk dx
    have dx' := dx.out
    go_enter Tryz.func134, Tryz.ntmps134
    go_wp2_with (go_at_call 180; refine hset.out.mono ?_; rintro e w2 ⟨A2, cap2, rfl, hr⟩; obtain ⟨o2, hn2, hc2, ho2⟩ := hr; obtain ⟨hb2, l0, l1, lz0, lz⟩ := blk_facts hc2 hb.out hoz; replace hr := Hd.mk (show NatR w w2 (own bz) m (.slice A2 (wlen m) cap2) from ⟨o2, hn2, hc2, ho2⟩); clear hn2 hc2 ho2; replace hb2 := Hd.mk hb2)
    go_ret
    have hp := ((Put.refl hb2.out).set 1 (.slice A2 (wlen m) cap2)).set 0 (.bool true)
    obtain ⟨q1, q2⟩ := hst.out.write (z' := x) hz.out hr.out (by rw [dx.out]; exact hp) hmm.out.symm
    exact ⟨rfl, q1, q2⟩
  · have dx : decide (x < 0) = false := decide_eq_false hx0
    have hy2 : IntKind.u64.wrap x = (x.natAbs : Int) := (IntWalk.u64_in _ (by omega)).trans (by omega)
    generalize hmm : x.natAbs = m at *
    replace hmm := Hd.mk hmm
    replace dx := Hd.mk dx
    have dx' := dx.out
    go_enter Tryz.func134, Tryz.ntmps134
    go_wp2_with (go_at_call 180; refine hset.out.mono ?_; rintro e w2 ⟨A2, cap2, rfl, hr⟩; obtain ⟨o2, hn2, hc2, ho2⟩ := hr; obtain ⟨hb2, l0, l1, lz0, lz⟩ := blk_facts hc2 hb.out hoz; replace hr := Hd.mk (show NatR w w2 (own bz) m (.slice A2 (wlen m) cap2) from ⟨o2, hn2, hc2, ho2⟩); clear hn2 hc2 ho2; replace hb2 := Hd.mk hb2)
    go_ret
    have hp := ((Put.refl hb2.out).set 1 (.slice A2 (wlen m) cap2)).set 0 (.bool false)
    obtain ⟨q1, q2⟩ := hst.out.write (z' := x) hz.out hr.out (by rw [dx.out]; exact hp) hmm.out.symm
    exact ⟨rfl, q1, q2⟩
theorem small_ok (x : Int) (w : World) (h1 : -9223372036854775808 ≤ x) (h2 : x ≤ 9223372036854775807) : Calls Tryz.prog 41 #[.string (zT x)] w fun e w' => e = .returned (.int .i64 x) ∧ Below w.heap.size w w' := by
  have hp := Hd.mk (Tryz.strconv_ParseInt_10_at64_ok (zT x) (by have := (zT_short (x := x) (Nat.lt_of_le_of_lt (show x.natAbs ≤ 9223372036854775808 by omega) (by decide))).1; omega) x (parseInt_zT h1 h2) w)
  generalize zT x = s at *
  go_enter Tryz.func41, Tryz.ntmps41
  go_wp2_with fail
  refine hp.out.mono ?_
  rintro e w2 ⟨rfl, hw2⟩
  replace hw2 := Hd.mk hw2
  go_wp2
  go_ret
  refine ⟨rfl, ?_⟩
  rcases hw2.out with h | ⟨t, h⟩
  · rw [h]; exact Below.refl _ _
  · rw [h]; exact Lib.bytesWorld_below _ _ _
set_option maxHeartbeats 1000000 in
theorem NewDecWP_any (i : Int) (p : Nat) (hp : p ≤ 18) (w : World) (hok : Ok w) (h1 : -9223372036854775808 ≤ i) (h2 : i ≤ 9223372036854775807) :
    Calls Tryz.prog 42 #[.int .i64 i, .int .i64 (p : Int)] w fun e w' => ∃ B, e = .returned (.agg #[ptr B]) ∧ NewI w w' B (i * ((10 ^ (18 - p) : Nat) : Int)) := by
  have r0 := Hd.mk hok.run
  have hwp : wlen (((10 ^ (18 - p) : Nat) : Int)).natAbs < 12 := by rw [Int.natAbs_natCast]; exact pow10_wl (by omega)
  have hwi : wlen i.natAbs < 12 := wl (n := 1) (by unfold BB; omega) (by decide)
  have r1 := Hd.mk (r0.out.box #[.pointer none] 71)
  clear r0
  go_enter Tryz.func42, Tryz.ntmps42
  go_wp2_with fail
  refine (NewInt_any i _ h1 h2).mono ?_
  rintro e w2 ⟨B2, rfl, hn2⟩
  have r2 := Hd.mk (r1.out.new_int hn2)
  have g2 := hn2.ge
  have s2 := hn2.bel.size
  try simp only [World.size_alloc] at g2 s2
  have l2 := r2.out.ilt upd_same
  have q2 := Hd.mk hn2.bel
  clear hn2 r1
  go_wp2_with fail
  refine (pm_any p hp _ r2.out.ok).mono ?_
  rintro e w3 ⟨B3, rfl, hn3⟩
  have r3 := Hd.mk (r2.out.new_int hn3)
  have g3 := hn3.ge
  have s3 := hn3.bel.size
  try simp only [World.size_alloc] at g3 s3
  have l3 := r3.out.ilt upd_same
  have q3 := Hd.mk hn3.bel
  clear hn3 r2
  have hm := Hd.mk (IMul_any _ B2 B2 B3 i i _ _ w3 r3.out.ints (by rw [upd_ne (by omega), upd_same]) (by rw [upd_ne (by omega), upd_same]) upd_same (by omega) (by omega) (fun _ => by omega))
  go_wp2_with fail
  refine (hm.out).mono ?_
  rintro e w4 ⟨rfl, hk4, hI4⟩
  have s4 := hk4.size
  try simp only [World.size_alloc] at s4
  have r4 := Hd.mk (r3.out.op hk4 hI4)
  clear hk4 hI4 r3
  obtain ⟨c4, c4z, c4l⟩ := r4.out.cell (b := w.heap.size) updX_same
  go_wp2
  have r5 := r4.out.set1 (b := w.heap.size) (v := .pointer none) (v' := ptr B2) updX_same
  refine bodyPost_ret (v := .agg #[ptr B2]) (by simp [results, Tryz.results42, go_sem, c4, c4z, c4l]) rfl ⟨_, rfl, r5.newI upd_same⟩
set_option maxHeartbeats 1000000 in
theorem NewDec_any (i : Int) (w : World) (hok : Ok w) (h1 : -9223372036854775808 ≤ i) (h2 : i ≤ 9223372036854775807) :
    Calls Tryz.prog 40 #[.int .i64 i] w fun e w' => ∃ B, e = .returned (.agg #[ptr B]) ∧ NewI w w' B (i * E18) := by
  have r0 := Hd.mk hok.run
  have hn := Hd.mk fun w1 (h : Ok w1) => NewDecWP_any i 0 (by omega) w1 h h1 h2
  rw [show ((10 ^ (18 - 0) : Nat) : Int) = E18 by unfold E18; decide] at hn
  generalize i * E18 = z at *
  have r1 := Hd.mk (r0.out.box #[.pointer none] 71)
  clear r0
  go_enter Tryz.func40, Tryz.ntmps40
  go_wp2_with fail
  refine (hn.out _ r1.out.ok).mono ?_
  rintro e w2 ⟨B2, rfl, hn2⟩
  have r2 := Hd.mk (r1.out.new_int hn2)
  have g2 := hn2.ge
  have s2 := hn2.bel.size
  try simp only [World.size_alloc] at g2 s2
  have l2 := r2.out.ilt upd_same
  have q2 := Hd.mk hn2.bel
  clear hn2 r1
  obtain ⟨c2, c2z, c2l⟩ := r2.out.cell (b := w.heap.size) updX_same
  go_wp2
  have r3 := r2.out.set1 (b := w.heap.size) (v := .pointer none) (v' := ptr B2) updX_same
  refine bodyPost_ret (v := .agg #[ptr B2]) (by simp [results, Tryz.results40, go_sem, c2, c2z, c2l]) rfl ⟨_, rfl, r3.newI upd_same⟩
set_option maxHeartbeats 1000000 in
theorem NewIntBig_ok (P : Nat → Prop) (bx : Nat) (x : Int) (S : Nat → Option Int) (w : World) (hI : Ints P w S) (hx : S bx = some x) (hz : x.natAbs < 2 ^ 256) :
    Calls Tryz.prog 130 #[ptr bx] w fun e w' => ∃ B, e = .returned (.agg #[ptr B]) ∧ w.heap.size ≤ B ∧ Keep P w w' ∧ Ints P w' (upd S B x) := by
  have r0 := Hd.mk (Run.start hI)
  have hlx := hI.lt hx
  have hlo := Hd.mk hI.low
  clear hI
  have r1 := Hd.mk (r0.out.box #[.pointer none] 76)
  clear r0
  have hov := Hd.mk (overflows_no _ bx x _ _ r1.out.ints hx hz)
  have r2 := Hd.mk (r1.out.new_int (NewI.of_new _))
  clear r1
  simp only [World.size_alloc] at r2
  have hm := Hd.mk (ISet_any _ (w.heap.size + 1) bx 0 x _ _ r2.out.ints upd_same (by rw [upd_ne (by omega), hx]) (by have := wl256 hz; omega))
  replace hx := Hd.mk hx
  replace hz := Hd.mk hz
  go_enter Tryz.func130, Tryz.ntmps130
  go_wp2_with (first | (go_at_call 176; refine hov.out.mono ?_; rintro e w2 ⟨rfl, rfl⟩) | (go_at_call 142; refine hm.out.mono ?_; rintro e w3 ⟨rfl, hk3, hI3⟩; have r3 := Hd.mk (r2.out.op hk3 hI3); clear hk3 hI3; obtain ⟨c3, c3z, c3l⟩ := r3.out.cell (b := w.heap.size) updX_same))
  have r5 := r3.out.set1 (b := w.heap.size) (v := .pointer none) (v' := ptr (w.heap.size + 1)) updX_same
  refine bodyPost_ret (v := .agg #[ptr (w.heap.size + 1)]) (by simp [results, Tryz.results130, go_sem, c3, c3z, c3l]) rfl ⟨_, rfl, by omega, r5.fin.1, r5.fin.2.sub fun k z hk => ?_⟩
  rcases upd_cases hk with ⟨rfl, rfl⟩ | ⟨hne, hk⟩
  · repeat first | exact upd_same | rw [upd_ne (by omega)]
  · have hkl := hlo.out.lt hk
    repeat rw [upd_ne (by first | exact hne | ((try simp only [World.size_alloc]); omega))]
    exact hk
set_option maxHeartbeats 1000000 in
theorem integer_ok (x : Int) (w : World) (hok : Ok w) (her : Er w) (hx : x.natAbs < 2 ^ 256) : Calls Tryz.prog 44 #[.string (zT x)] w fun e w' => ∃ B, e = .returned (.agg #[ptr B]) ∧ NewI w w' B x := by
  have r0 := Hd.mk hok.run
  have hb1 : Below w.heap.size w (w.alloc (.cells #[.pointer none] 76)) := (Below.refl _ _).alloc (Nat.le_refl _) _
  have her1 := Hd.mk (her.below hb1)
  clear hb1
  have r1 := Hd.mk (r0.out.box #[.pointer none] 76)
  clear r0
  have hnu := Hd.mk fun w1 h1 h2 => number_ok x w1 h1 h2 (Nat.lt_trans hx (by decide))
  have hni := Hd.mk fun (Q : Nat → Prop) B S1 w1 (h : Ints Q w1 S1) (h1 : S1 B = some x) => NewIntBig_ok Q B x S1 w1 h h1 hx
  replace hx := Hd.mk hx
  generalize zT x = s at *
  go_enter Tryz.func44, Tryz.ntmps44
  go_wp2_with fail
  refine (hnu.out _ r1.out.ok her1.out).mono ?_
  rintro e w2 ⟨B2, rfl, hn2⟩
  have r2 := Hd.mk (r1.out.new_int hn2)
  have g2 := hn2.ge
  have s2 := hn2.bel.size
  try simp only [World.size_alloc] at g2 s2
  have l2 := r2.out.ilt upd_same
  have q2 := Hd.mk hn2.bel
  clear hn2 r1
  have hm := Hd.mk (hni.out _ B2 _ _ r2.out.ints upd_same)
  go_wp2_with fail
  refine (hm.out).mono ?_
  rintro e w3 ⟨B3, rfl, g3, hk3, hI3⟩
  have s3 := hk3.size
  try simp only [World.size_alloc] at g3 s3
  have r3 := Hd.mk (r2.out.op hk3 hI3)
  have l3 := r3.out.ilt upd_same
  clear hk3 hI3 r2
  obtain ⟨c3, c3z, c3l⟩ := r3.out.cell (b := w.heap.size) updX_same
  go_wp2
  have r4 := r3.out.set1 (b := w.heap.size) (v := .pointer none) (v' := ptr B3) updX_same
  refine bodyPost_ret (v := .agg #[ptr B3]) (by simp [results, Tryz.results44, go_sem, c3, c3z, c3l]) rfl ⟨_, rfl, r4.newI upd_same⟩
theorem cIsNil_any (bd : Nat) (w : World) : Calls Tryz.prog 177 #[.agg #[ptr bd]] w fun e w' => e = .returned (.bool false) ∧ w' = w.alloc (.cells #[ptr bd] 76) := by
  go_enter Tryz.func177, Tryz.ntmps177
  go_wp2
  go_ret
  exact ⟨rfl, rfl⟩
set_option maxHeartbeats 1000000 in
theorem BigIntMut_any (P : Nat → Prop) (bd : Nat) (x : Int) (S : Nat → Option Int) (w : World) (hI : Ints P w S) (hx : S bd = some x) :
    Calls Tryz.prog 131 #[.agg #[ptr bd]] w fun e w' => e = .returned (ptr bd) ∧ Keep P w w' ∧ Ints P w' S := by
  have r0 := Hd.mk (Run.start hI)
  clear hI
  have r1 := Hd.mk (r0.out.box #[ptr bd] 76)
  clear r0
  have r2 := Hd.mk (r1.out.box #[ptr bd] 76)
  clear r1
  simp only [World.size_alloc] at r2
  have hni := Hd.mk (cIsNil_any bd)
  replace hx := Hd.mk hx
  go_enter Tryz.func131, Tryz.ntmps131
  go_wp2_with (go_at_call 177; refine (hni.out _).mono ?_; rintro e w2 ⟨rfl, rfl⟩)
  go_ret
  exact ⟨rfl, r2.out.fin⟩
set_option maxHeartbeats 1000000 in
theorem NewDecFIP_any (P : Nat → Prop) (bx p : Nat) (x : Int) (S : Nat → Option Int) (w : World) (hI : Ints P w S) (hx : S bx = some x) (hp : p ≤ 18) (hw : wlen x.natAbs < 40) :
    Calls Tryz.prog 45 #[.agg #[ptr bx], .int .i64 (p : Int)] w fun e w' => ∃ B, e = .returned (.agg #[ptr B]) ∧ w.heap.size ≤ B ∧ Keep P w w' ∧ Ints P w' (upd S B (x * ((10 ^ (18 - p) : Nat) : Int))) := by
  have r0 := Hd.mk (Run.start hI)
  have hlx := hI.lt hx
  have hwp : wlen (((10 ^ (18 - p) : Nat) : Int)).natAbs < 12 := by rw [Int.natAbs_natCast]; exact pow10_wl (by omega)
  have hlo := Hd.mk hI.low
  clear hI
  have r1 := Hd.mk (r0.out.box #[ptr bx] 76)
  clear r0
  have r2 := Hd.mk (r1.out.box #[.pointer none] 71)
  clear r1
  have r3 := Hd.mk (r2.out.new_int (NewI.of_new _))
  clear r2
  simp only [World.size_alloc] at r3
  have hbm := Hd.mk (BigIntMut_any _ bx x _ _ r3.out.ints (by rw [upd_ne (by omega)]; exact hx))
  replace hx := Hd.mk hx
  go_enter Tryz.func45, Tryz.ntmps45
  go_wp2_with fail
  refine (hbm.out).mono ?_
  rintro e w4 ⟨rfl, hk4, hI4⟩
  have s4 := hk4.size
  try simp only [World.size_alloc] at s4
  have r4 := Hd.mk (r3.out.op hk4 hI4)
  clear hk4 hI4 r3
  go_wp2_with fail
  refine (pm_any p hp _ r4.out.ok).mono ?_
  rintro e w5 ⟨B5, rfl, hn5⟩
  have r5 := Hd.mk (r4.out.new_int hn5)
  have g5 := hn5.ge
  have s5 := hn5.bel.size
  try simp only [World.size_alloc] at g5 s5
  have l5 := r5.out.ilt upd_same
  have q5 := Hd.mk hn5.bel
  clear hn5 r4
  have hm := Hd.mk (IMul_any _ (w.heap.size + 1 + 1) bx B5 0 x _ _ w5 r5.out.ints (by rw [upd_ne (by omega), upd_same]) (by rw [upd_ne (by omega), upd_ne (by omega)]; exact hx.out) upd_same hw (by omega) (fun e => by omega))
  go_wp2_with fail
  refine (hm.out).mono ?_
  rintro e w6 ⟨rfl, hk6, hI6⟩
  have s6 := hk6.size
  try simp only [World.size_alloc] at s6
  have r6 := Hd.mk (r5.out.op hk6 hI6)
  clear hk6 hI6 r5
  obtain ⟨c6, c6z, c6l⟩ := r6.out.cell (b := (w.heap.size + 1)) updX_same
  go_wp2
  have r7 := r6.out.set1 (b := w.heap.size + 1) (v := .pointer none) (v' := ptr (w.heap.size + 1 + 1)) updX_same
  refine bodyPost_ret (v := .agg #[ptr (w.heap.size + 1 + 1)]) (by simp [results, Tryz.results45, go_sem, c6, c6z, c6l]) rfl ⟨_, rfl, by omega, r7.fin.1, r7.fin.2.sub fun k z hk => ?_⟩
  rcases upd_cases hk with ⟨rfl, rfl⟩ | ⟨hne, hk⟩
  · repeat first | exact upd_same | rw [upd_ne (by omega)]
  · have hkl := hlo.out.lt hk
    repeat rw [upd_ne (by first | exact hne | ((try simp only [World.size_alloc]); omega))]
    exact hk
set_option maxHeartbeats 1000000 in
theorem NewDecFI_any (P : Nat → Prop) (bx : Nat) (x : Int) (S : Nat → Option Int) (w : World) (hI : Ints P w S) (hx : S bx = some x) (hw : wlen x.natAbs < 40) :
    Calls Tryz.prog 43 #[.agg #[ptr bx]] w fun e w' => ∃ B, e = .returned (.agg #[ptr B]) ∧ w.heap.size ≤ B ∧ Keep P w w' ∧ Ints P w' (upd S B (x * E18)) := by
  have r0 := Hd.mk (Run.start hI)
  have hlx := hI.lt hx
  have hlo := Hd.mk hI.low
  clear hI
  have r1 := Hd.mk (r0.out.box #[ptr bx] 76)
  clear r0
  have r2 := Hd.mk (r1.out.box #[.pointer none] 71)
  clear r1
  simp only [World.size_alloc] at r2
  have hm := Hd.mk (NewDecFIP_any _ bx 0 x _ _ r2.out.ints hx (by decide) hw)
  rw [show ((10 ^ (18 - 0) : Nat) : Int) = E18 by unfold E18; decide] at hm
  generalize x * E18 = z at *
  replace hx := Hd.mk hx
  go_enter Tryz.func43, Tryz.ntmps43
  go_wp2_with fail
  refine (hm.out).mono ?_
  rintro e w4 ⟨B4, rfl, g4, hk4, hI4⟩
  have s4 := hk4.size
  try simp only [World.size_alloc] at g4 s4
  have r4 := Hd.mk (r2.out.op hk4 hI4)
  have l4 := r4.out.ilt upd_same
  clear hk4 hI4 r2
  obtain ⟨c4, c4z, c4l⟩ := r4.out.cell (b := (w.heap.size + 1)) updX_same
  go_wp2
  have r5 := r4.out.set1 (b := w.heap.size + 1) (v := .pointer none) (v' := ptr B4) updX_same
  refine bodyPost_ret (v := .agg #[ptr B4]) (by simp [results, Tryz.results43, go_sem, c4, c4z, c4l]) rfl ⟨_, rfl, by omega, r5.fin.1, r5.fin.2.sub fun k z hk => ?_⟩
  rcases upd_cases hk with ⟨rfl, rfl⟩ | ⟨hne, hk⟩
  · repeat first | exact upd_same | rw [upd_ne (by omega)]
  · have hkl := hlo.out.lt hk
    repeat rw [upd_ne (by first | exact hne | ((try simp only [World.size_alloc]); omega))]
    exact hk
set_option maxHeartbeats 1000000 in
theorem ToDec_any (P : Nat → Prop) (bx : Nat) (x : Int) (S : Nat → Option Int) (w : World) (hI : Ints P w S) (hx : S bx = some x) (hw : wlen x.natAbs < 40) :
    Calls Tryz.prog 51 #[.agg #[ptr bx]] w fun e w' => ∃ B, e = .returned (.agg #[ptr B]) ∧ w.heap.size ≤ B ∧ Keep P w w' ∧ Ints P w' (upd S B (x * E18)) := by
  have r0 := Hd.mk (Run.start hI)
  have hlx := hI.lt hx
  have hlo := Hd.mk hI.low
  clear hI
  have r1 := Hd.mk (r0.out.box #[ptr bx] 76)
  clear r0
  have r2 := Hd.mk (r1.out.box #[.pointer none] 71)
  clear r1
  simp only [World.size_alloc] at r2
  have hm := Hd.mk (NewDecFI_any _ bx x _ _ r2.out.ints hx hw)
  generalize x * E18 = z at *
  replace hx := Hd.mk hx
  go_enter Tryz.func51, Tryz.ntmps51
  go_wp2_with fail
  refine (hm.out).mono ?_
  rintro e w4 ⟨B4, rfl, g4, hk4, hI4⟩
  have s4 := hk4.size
  try simp only [World.size_alloc] at g4 s4
  have r4 := Hd.mk (r2.out.op hk4 hI4)
  have l4 := r4.out.ilt upd_same
  clear hk4 hI4 r2
  obtain ⟨c4, c4z, c4l⟩ := r4.out.cell (b := (w.heap.size + 1)) updX_same
  go_wp2
  have r5 := r4.out.set1 (b := w.heap.size + 1) (v := .pointer none) (v' := ptr B4) updX_same
  refine bodyPost_ret (v := .agg #[ptr B4]) (by simp [results, Tryz.results51, go_sem, c4, c4z, c4l]) rfl ⟨_, rfl, by omega, r5.fin.1, r5.fin.2.sub fun k z hk => ?_⟩
  rcases upd_cases hk with ⟨rfl, rfl⟩ | ⟨hne, hk⟩
  · repeat first | exact upd_same | rw [upd_ne (by omega)]
  · have hkl := hlo.out.lt hk
    repeat rw [upd_ne (by first | exact hne | ((try simp only [World.size_alloc]); omega))]
    exact hk
end Go.Proofs.YtpabbnogfflgpaaGreatDoor
end

section
namespace Go.Proofs.YtpabbnogfflgpaaGreatDoor
open Go.RowKit
set_option maxRecDepth 100000
set_option maxHeartbeats 2000000 in
theorem dSetInt64_any (P : Nat → Prop) (bd : Nat) (z x : Int) (S : Nat → Option Int) (w : World) (hI : Ints P w S) (hz : S bd = some z) (h1 : -9223372036854775808 ≤ x) (h2 : x ≤ 9223372036854775807) :
    Calls Tryz.prog 50 #[.agg #[ptr bd], .int .i64 x] w fun e w' => e = .returned (.agg #[ptr bd]) ∧ Keep P w w' ∧ Ints P w' (upd S bd (x * E18)) := by
  have r0 := Hd.mk (Run.start hI)
  have hlo := Hd.mk hI.low
  have hl := hI.lt hz
  clear hI
  have r1 := Hd.mk (r0.out.box #[ptr bd] 71)
  clear r0
  have r2 := Hd.mk (r1.out.box #[.pointer none] 71)
  clear r1
  simp only [World.size_alloc] at r2
  have hwx : wlen x.natAbs < 12 := wl (n := 1) (by unfold BB; omega) (by decide)
  have hm := Hd.mk (ISetInt64_any _ bd z x _ _ r2.out.ints hz h1 h2)
  replace hz := Hd.mk hz
  go_enter Tryz.func50, Tryz.ntmps50
  go_wp2_with fail
  refine (hm.out).mono ?_
  rintro e w3 ⟨rfl, hk3, hI3⟩
  have s3 := hk3.size
  try simp only [World.size_alloc] at s3
  have r3 := Hd.mk (r2.out.op hk3 hI3)
  clear hk3 hI3 r2
  obtain ⟨c3, c3z, c3l⟩ := r3.out.cell (b := w.heap.size) (by rw [updX_ne (by omega), updX_same])
  go_upto_region 2 with fail
  go_region_law (first
    | (go_simp; go_at_call 135; refine (precisionReuse_any _ r3.out.drew.ok).mono ?_; rintro e w4 ⟨B4, rfl, hn4⟩; have r4 := Hd.mk (r3.out.drew.new_int hn4); have g4 : w3.heap.size ≤ B4 := hn4.ge; have l4 := r4.out.ilt upd_same; obtain ⟨c4, c4z, c4l⟩ := r4.out.cell (b := w.heap.size) (by rw [updX_ne (by omega), updX_same]); obtain ⟨d4, d4z, d4l⟩ := r4.out.cell (b := w.heap.size + 1) updX_same; clear hn4)
    | (go_simp; go_at_call 128; refine (IMul_any _ bd bd B4 x x 1000000000000000000 _ w4 r4.out.ints (by rw [upd_ne (by omega), upd_same]) (by rw [upd_ne (by omega), upd_same]) upd_same (by omega) (lt_40 wl18) (fun _ => hwx)).mono ?_; rintro e w5 ⟨rfl, hk5, hI5⟩; have r5 := Hd.mk (r4.out.op hk5 hI5); obtain ⟨c5, c5z, c5l⟩ := r5.out.cell (b := w.heap.size) (by rw [updX_ne (by omega), updX_same]); obtain ⟨d5, d5z, d5l⟩ := r5.out.cell (b := w.heap.size + 1) updX_same; clear hk5 hI5))
  all_goals
    go_wp2
    have r6 := r5.out.set1 (b := w.heap.size + 1) (v := .pointer none) (v' := ptr bd) updX_same
    refine bodyPost_ret (v := .agg #[ptr bd]) (by simp [results, Tryz.results50, go_sem, d5, d5z, d5l]) rfl ⟨rfl, r6.fin.1, r6.fin.2.sub fun k v hk => ?_⟩
    rcases upd_cases hk with ⟨rfl, rfl⟩ | ⟨hne, hk⟩
    · exact upd_same
    · have hkl := hlo.out.lt hk
      rw [upd_ne hne, upd_ne (by omega), upd_ne hne]
      exact hk
set_option maxHeartbeats 4000000 in
theorem makK_0 (x z : Int) (p : Nat) (hp18 : p ≤ 18) (hz : wlen z.natAbs < 8) (h1 : -9223372036854775808 ≤ x) (h2 : x ≤ 9223372036854775807) (hzz : x * E18 = z) : makCl 0 (zT x) (p : Int) fun e w' bu => e = .returned (.tuple #[]) ∧ Blk w' bu 9 [.string (zT z)] := by
  intro bk bs bp bu w hok her hk hs hp hu hne hu1
  have r0 := Hd.mk (Run.start1 hok hu hu1)
  have hpz := Hd.mk fun (Q : Nat → Prop) B S1 w1 (h : Ints Q w1 S1) (h1 : S1 B = some z) => parts_ok Q B z S1 w1 h h1 (by omega)
  have ck := hk.cell 0
  have cs := hs.cell 0
  have cp := hp.cell 0
  simp only [List.getElem?_cons_zero] at ck cs cp
  have lk := hk.lt
  have ls := hs.lt
  have lp := hp.lt
  have lu := hu.lt
  have hPs := Hd.mk (p := bs < w.heap.size ∧ bs ≠ bu) ⟨hs.lt, hne.2.1⟩
  have hPp := Hd.mk (p := bp < w.heap.size ∧ bp ≠ bu) ⟨hp.lt, hne.2.2⟩
  have hbu : bu ≠ w.heap.size := by omega
  have r1 := Hd.mk (r0.out.box #[.pointer none] 71)
  clear r0
  have hb1 : Below w.heap.size w (w.alloc (.cells #[.pointer none] 71)) := (Below.refl _ _).alloc (Nat.le_refl _) _
  have hok1 := hok.below hb1
  have her1 := her.below hb1
  have hs1 := Hd.mk (small_ok x (w.alloc (.cells #[.pointer none] 71)) h1 h2)
  have hf1 := Hd.mk fun w1 (h : Ok w1) => NewDec_any x w1 h h1 h2
  rw [hzz] at hf1
  replace hzz := Hd.mk hzz
  generalize zT x = sx at *
  generalize zT z = sz at *
  replace hk := Hd.mk hk
  replace hs := Hd.mk hs
  replace hp := Hd.mk hp
  replace hu := Hd.mk hu
  replace hok1 := Hd.mk hok1
  replace her1 := Hd.mk her1
  clear hb1
  go_enter Tryz.func39, Tryz.ntmps39
  go_wp2_with fail
  refine hs1.out.mono ?_
  rintro e w2 ⟨rfl, hb2⟩
  have r2 := Hd.mk (r1.out.below hb2)
  clear hb2 r1
  go_wp2_with fail
  refine (hf1.out _ r2.out.ok).mono ?_
  rintro e w7 ⟨B7, rfl, hn7⟩
  have r7 := Hd.mk (r2.out.new_int hn7)
  have hB7 := Hd.mk (p := upd (fun _ => Option.none) B7 z B7 = some z) upd_same
  clear hn7 r2
  obtain ⟨c7, c7z, c7l⟩ := r7.out.cell (b := w.heap.size) updX_same
  have r8 := Hd.mk (r7.out.set1 (b := w.heap.size) (v := .pointer none) (v' := ptr B7) updX_same)
  have hm8 := Hd.mk (hpz.out _ B7 _ _ r8.out.ints hB7.out)
  go_wp2_with fail
  refine hm8.out.mono ?_
  rintro e w9 ⟨rfl, hk9, hI9⟩
  have r9 := Hd.mk (r8.out.op hk9 hI9)
  clear hk9 hI9 hm8 r8
  obtain ⟨u9, u9z, u9l⟩ := r9.out.cell (b := bu) (by rw [updX_ne hbu, updX_ne hbu, updX_same])
  have r10 := Hd.mk (r9.out.set1 (b := bu) (v' := .string sz) (by rw [updX_ne hbu, updX_ne hbu, updX_same]))
  have hkk := Hd.mk r10.out.keep
  have hub := Hd.mk (r10.out.bx bu _ _ updX_same)
  go_wp2
  go_end0
  exact ⟨hkk.out, rfl, hub.out⟩
set_option maxHeartbeats 4000000 in
theorem makK_1 (x z : Int) (p : Nat) (hp18 : p ≤ 18) (hz : wlen z.natAbs < 8) (h1 : -9223372036854775808 ≤ x) (h2 : x ≤ 9223372036854775807) (hzz : x * ((10 ^ (18 - p) : Nat) : Int) = z) : makCl 1 (zT x) (p : Int) fun e w' bu => e = .returned (.tuple #[]) ∧ Blk w' bu 9 [.string (zT z)] := by
  intro bk bs bp bu w hok her hk hs hp hu hne hu1
  have r0 := Hd.mk (Run.start1 hok hu hu1)
  have hpz := Hd.mk fun (Q : Nat → Prop) B S1 w1 (h : Ints Q w1 S1) (h1 : S1 B = some z) => parts_ok Q B z S1 w1 h h1 (by omega)
  have ck := hk.cell 0
  have cs := hs.cell 0
  have cp := hp.cell 0
  simp only [List.getElem?_cons_zero] at ck cs cp
  have lk := hk.lt
  have ls := hs.lt
  have lp := hp.lt
  have lu := hu.lt
  have hPs := Hd.mk (p := bs < w.heap.size ∧ bs ≠ bu) ⟨hs.lt, hne.2.1⟩
  have hPp := Hd.mk (p := bp < w.heap.size ∧ bp ≠ bu) ⟨hp.lt, hne.2.2⟩
  have hbu : bu ≠ w.heap.size := by omega
  have r1 := Hd.mk (r0.out.box #[.pointer none] 71)
  clear r0
  have hb1 : Below w.heap.size w (w.alloc (.cells #[.pointer none] 71)) := (Below.refl _ _).alloc (Nat.le_refl _) _
  have hok1 := hok.below hb1
  have her1 := her.below hb1
  have hs1 := Hd.mk (small_ok x (w.alloc (.cells #[.pointer none] 71)).drew h1 h2)
  have hf1 := Hd.mk fun w1 (h : Ok w1) => NewDecWP_any x p hp18 w1 h h1 h2
  rw [hzz] at hf1
  replace hzz := Hd.mk hzz
  generalize zT x = sx at *
  generalize zT z = sz at *
  replace hk := Hd.mk hk
  replace hs := Hd.mk hs
  replace hp := Hd.mk hp
  replace hu := Hd.mk hu
  replace hok1 := Hd.mk hok1
  replace her1 := Hd.mk her1
  clear hb1
  go_enter Tryz.func39, Tryz.ntmps39
  go_upto_region 5 with fail
  go_region_law (first
    | (go_simp; go_at_call 41; refine hs1.out.mono ?_; rintro e w2 ⟨rfl, hb2⟩; have r2 := Hd.mk (r1.out.drew.below hb2); clear hb2; have jp : w2.cell? ⟨bp, 0, none⟩ = some (.int .i64 p) := (r2.out.keep.blk hp.out hPp.out).cell 0; have lp2 : bp < w2.heap.size := Nat.lt_of_lt_of_le hPp.out.1 r2.out.ge)
    | (go_simp; go_at_call 42; refine (hf1.out _ r2.out.ok).mono ?_; rintro e w7 ⟨B7, rfl, hn7⟩; have r7 := Hd.mk (r2.out.new_int hn7); clear hn7; obtain ⟨c7, c7z, c7l⟩ := r7.out.cell (b := w.heap.size) updX_same))
  all_goals
    have hB7 := Hd.mk (p := upd (fun _ => Option.none) B7 z B7 = some z) upd_same
    have r8 := Hd.mk (r7.out.set1 (b := w.heap.size) (v := .pointer none) (v' := ptr B7) updX_same)
    have hm8 := Hd.mk (hpz.out _ B7 _ _ r8.out.ints hB7.out)
    go_wp2_with fail
    refine hm8.out.mono ?_
    rintro e w9 ⟨rfl, hk9, hI9⟩
    have r9 := Hd.mk (r8.out.op hk9 hI9)
    clear hk9 hI9 hm8 r8
    obtain ⟨u9, u9z, u9l⟩ := r9.out.cell (b := bu) (by rw [updX_ne hbu, updX_ne hbu, updX_same])
    have r10 := Hd.mk (r9.out.set1 (b := bu) (v' := .string sz) (by rw [updX_ne hbu, updX_ne hbu, updX_same]))
    have hkk := Hd.mk r10.out.keep
    have hub := Hd.mk (r10.out.bx bu _ _ updX_same)
    go_wp2
    go_end0
    exact ⟨hkk.out, rfl, hub.out⟩
set_option maxHeartbeats 4000000 in
theorem makK_2 (x z : Int) (p : Nat) (hp18 : p ≤ 18) (hz : wlen z.natAbs < 8) (hx : x.natAbs < 2 ^ 256) (hzz : x * E18 = z) : makCl 2 (zT x) (p : Int) fun e w' bu => e = .returned (.tuple #[]) ∧ Blk w' bu 9 [.string (zT z)] := by
  intro bk bs bp bu w hok her hk hs hp hu hne hu1
  have r0 := Hd.mk (Run.start1 hok hu hu1)
  have hpz := Hd.mk fun (Q : Nat → Prop) B S1 w1 (h : Ints Q w1 S1) (h1 : S1 B = some z) => parts_ok Q B z S1 w1 h h1 (by omega)
  have ck := hk.cell 0
  have cs := hs.cell 0
  have cp := hp.cell 0
  simp only [List.getElem?_cons_zero] at ck cs cp
  have lk := hk.lt
  have ls := hs.lt
  have lp := hp.lt
  have lu := hu.lt
  have hPs := Hd.mk (p := bs < w.heap.size ∧ bs ≠ bu) ⟨hs.lt, hne.2.1⟩
  have hPp := Hd.mk (p := bp < w.heap.size ∧ bp ≠ bu) ⟨hp.lt, hne.2.2⟩
  have hbu : bu ≠ w.heap.size := by omega
  have r1 := Hd.mk (r0.out.box #[.pointer none] 71)
  clear r0
  have hb1 : Below w.heap.size w (w.alloc (.cells #[.pointer none] 71)) := (Below.refl _ _).alloc (Nat.le_refl _) _
  have hok1 := hok.below hb1
  have her1 := her.below hb1
  have hs1 := Hd.mk (integer_ok x _ hok1 her1 hx)
  have hf1 := Hd.mk fun (Q : Nat → Prop) B S1 w1 (h : Ints Q w1 S1) (h1 : S1 B = some x) => NewDecFI_any Q B x S1 w1 h h1 (by have := wl256 hx; omega)
  rw [hzz] at hf1
  replace hzz := Hd.mk hzz
  replace hx := Hd.mk hx
  generalize zT x = sx at *
  generalize zT z = sz at *
  replace hk := Hd.mk hk
  replace hs := Hd.mk hs
  replace hp := Hd.mk hp
  replace hu := Hd.mk hu
  replace hok1 := Hd.mk hok1
  replace her1 := Hd.mk her1
  clear hb1
  go_enter Tryz.func39, Tryz.ntmps39
  go_wp2_with fail
  refine hs1.out.mono ?_
  rintro e w2 ⟨B2, rfl, hn2⟩
  have r2 := Hd.mk (r1.out.new_int hn2)
  clear hn2 r1
  have hm2 := Hd.mk (hf1.out _ B2 _ _ r2.out.ints upd_same)
  go_wp2_with fail
  refine hm2.out.mono ?_
  rintro e w7 ⟨B7, rfl, g7, hk7, hI7⟩
  have r7 := Hd.mk (r2.out.op hk7 hI7)
  have hB7 := Hd.mk (p := upd (upd (fun _ => Option.none) B2 x) B7 z B7 = some z) upd_same
  clear hk7 hI7 r2 hm2
  obtain ⟨c7, c7z, c7l⟩ := r7.out.cell (b := w.heap.size) updX_same
  have r8 := Hd.mk (r7.out.set1 (b := w.heap.size) (v := .pointer none) (v' := ptr B7) updX_same)
  have hm8 := Hd.mk (hpz.out _ B7 _ _ r8.out.ints hB7.out)
  go_wp2_with fail
  refine hm8.out.mono ?_
  rintro e w9 ⟨rfl, hk9, hI9⟩
  have r9 := Hd.mk (r8.out.op hk9 hI9)
  clear hk9 hI9 hm8 r8
  obtain ⟨u9, u9z, u9l⟩ := r9.out.cell (b := bu) (by rw [updX_ne hbu, updX_ne hbu, updX_same])
  have r10 := Hd.mk (r9.out.set1 (b := bu) (v' := .string sz) (by rw [updX_ne hbu, updX_ne hbu, updX_same]))
  have hkk := Hd.mk r10.out.keep
  have hub := Hd.mk (r10.out.bx bu _ _ updX_same)
  go_wp2
  go_end0
  exact ⟨hkk.out, rfl, hub.out⟩
set_option maxHeartbeats 4000000 in
theorem makK_4 (x z : Int) (p : Nat) (hp18 : p ≤ 18) (hz : wlen z.natAbs < 8) (hx : x.natAbs < 2 ^ 256) (hzz : x * E18 = z) : makCl 4 (zT x) (p : Int) fun e w' bu => e = .returned (.tuple #[]) ∧ Blk w' bu 9 [.string (zT z)] := by
  intro bk bs bp bu w hok her hk hs hp hu hne hu1
  have r0 := Hd.mk (Run.start1 hok hu hu1)
  have hpz := Hd.mk fun (Q : Nat → Prop) B S1 w1 (h : Ints Q w1 S1) (h1 : S1 B = some z) => parts_ok Q B z S1 w1 h h1 (by omega)
  have ck := hk.cell 0
  have cs := hs.cell 0
  have cp := hp.cell 0
  simp only [List.getElem?_cons_zero] at ck cs cp
  have lk := hk.lt
  have ls := hs.lt
  have lp := hp.lt
  have lu := hu.lt
  have hPs := Hd.mk (p := bs < w.heap.size ∧ bs ≠ bu) ⟨hs.lt, hne.2.1⟩
  have hPp := Hd.mk (p := bp < w.heap.size ∧ bp ≠ bu) ⟨hp.lt, hne.2.2⟩
  have hbu : bu ≠ w.heap.size := by omega
  have r1 := Hd.mk (r0.out.box #[.pointer none] 71)
  clear r0
  have hb1 : Below w.heap.size w (w.alloc (.cells #[.pointer none] 71)) := (Below.refl _ _).alloc (Nat.le_refl _) _
  have hok1 := hok.below hb1
  have her1 := her.below hb1
  have hs1 := Hd.mk (number_ok x _ hok1 her1 (Nat.lt_trans hx (by decide)))
  have hf1 := Hd.mk fun (Q : Nat → Prop) B S1 w1 (h : Ints Q w1 S1) (h1 : S1 B = some x) => NewDecBig_any Q B x S1 w1 h h1 (by have := wl256 hx; omega)
  rw [hzz] at hf1
  replace hzz := Hd.mk hzz
  replace hx := Hd.mk hx
  generalize zT x = sx at *
  generalize zT z = sz at *
  replace hk := Hd.mk hk
  replace hs := Hd.mk hs
  replace hp := Hd.mk hp
  replace hu := Hd.mk hu
  replace hok1 := Hd.mk hok1
  replace her1 := Hd.mk her1
  clear hb1
  go_enter Tryz.func39, Tryz.ntmps39
  go_wp2_with fail
  refine hs1.out.mono ?_
  rintro e w2 ⟨B2, rfl, hn2⟩
  have r2 := Hd.mk (r1.out.new_int hn2)
  clear hn2 r1
  have hm2 := Hd.mk (hf1.out _ B2 _ _ r2.out.ints upd_same)
  go_wp2_with fail
  refine hm2.out.mono ?_
  rintro e w7 ⟨B7, rfl, g7, hk7, hI7⟩
  have r7 := Hd.mk (r2.out.op hk7 hI7)
  have hB7 := Hd.mk (p := upd (upd (fun _ => Option.none) B2 x) B7 z B7 = some z) upd_same
  clear hk7 hI7 r2 hm2
  obtain ⟨c7, c7z, c7l⟩ := r7.out.cell (b := w.heap.size) updX_same
  have r8 := Hd.mk (r7.out.set1 (b := w.heap.size) (v := .pointer none) (v' := ptr B7) updX_same)
  have hm8 := Hd.mk (hpz.out _ B7 _ _ r8.out.ints hB7.out)
  go_wp2_with fail
  refine hm8.out.mono ?_
  rintro e w9 ⟨rfl, hk9, hI9⟩
  have r9 := Hd.mk (r8.out.op hk9 hI9)
  clear hk9 hI9 hm8 r8
  obtain ⟨u9, u9z, u9l⟩ := r9.out.cell (b := bu) (by rw [updX_ne hbu, updX_ne hbu, updX_same])
  have r10 := Hd.mk (r9.out.set1 (b := bu) (v' := .string sz) (by rw [updX_ne hbu, updX_ne hbu, updX_same]))
  have hkk := Hd.mk r10.out.keep
  have hub := Hd.mk (r10.out.bx bu _ _ updX_same)
  go_wp2
  go_end0
  exact ⟨hkk.out, rfl, hub.out⟩
set_option maxHeartbeats 4000000 in
theorem makK_7 (x z : Int) (p : Nat) (hp18 : p ≤ 18) (hz : wlen z.natAbs < 8) (hx : x.natAbs < 2 ^ 256) (hzz : x * E18 = z) : makCl 7 (zT x) (p : Int) fun e w' bu => e = .returned (.tuple #[]) ∧ Blk w' bu 9 [.string (zT z)] := by
  intro bk bs bp bu w hok her hk hs hp hu hne hu1
  have r0 := Hd.mk (Run.start1 hok hu hu1)
  have hpz := Hd.mk fun (Q : Nat → Prop) B S1 w1 (h : Ints Q w1 S1) (h1 : S1 B = some z) => parts_ok Q B z S1 w1 h h1 (by omega)
  have ck := hk.cell 0
  have cs := hs.cell 0
  have cp := hp.cell 0
  simp only [List.getElem?_cons_zero] at ck cs cp
  have lk := hk.lt
  have ls := hs.lt
  have lp := hp.lt
  have lu := hu.lt
  have hPs := Hd.mk (p := bs < w.heap.size ∧ bs ≠ bu) ⟨hs.lt, hne.2.1⟩
  have hPp := Hd.mk (p := bp < w.heap.size ∧ bp ≠ bu) ⟨hp.lt, hne.2.2⟩
  have hbu : bu ≠ w.heap.size := by omega
  have r1 := Hd.mk (r0.out.box #[.pointer none] 71)
  clear r0
  have hb1 : Below w.heap.size w (w.alloc (.cells #[.pointer none] 71)) := (Below.refl _ _).alloc (Nat.le_refl _) _
  have hok1 := hok.below hb1
  have her1 := her.below hb1
  have hs1 := Hd.mk (integer_ok x _ hok1 her1 hx)
  have hf1 := Hd.mk fun (Q : Nat → Prop) B S1 w1 (h : Ints Q w1 S1) (h1 : S1 B = some x) => ToDec_any Q B x S1 w1 h h1 (by have := wl256 hx; omega)
  rw [hzz] at hf1
  replace hzz := Hd.mk hzz
  replace hx := Hd.mk hx
  generalize zT x = sx at *
  generalize zT z = sz at *
  replace hk := Hd.mk hk
  replace hs := Hd.mk hs
  replace hp := Hd.mk hp
  replace hu := Hd.mk hu
  replace hok1 := Hd.mk hok1
  replace her1 := Hd.mk her1
  clear hb1
  go_enter Tryz.func39, Tryz.ntmps39
  go_wp2_with fail
  refine hs1.out.mono ?_
  rintro e w2 ⟨B2, rfl, hn2⟩
  have r2 := Hd.mk (r1.out.new_int hn2)
  clear hn2 r1
  have hm2 := Hd.mk (hf1.out _ B2 _ _ r2.out.ints upd_same)
  go_wp2_with fail
  refine hm2.out.mono ?_
  rintro e w7 ⟨B7, rfl, g7, hk7, hI7⟩
  have r7 := Hd.mk (r2.out.op hk7 hI7)
  have hB7 := Hd.mk (p := upd (upd (fun _ => Option.none) B2 x) B7 z B7 = some z) upd_same
  clear hk7 hI7 r2 hm2
  obtain ⟨c7, c7z, c7l⟩ := r7.out.cell (b := w.heap.size) updX_same
  have r8 := Hd.mk (r7.out.set1 (b := w.heap.size) (v := .pointer none) (v' := ptr B7) updX_same)
  have hm8 := Hd.mk (hpz.out _ B7 _ _ r8.out.ints hB7.out)
  go_wp2_with fail
  refine hm8.out.mono ?_
  rintro e w9 ⟨rfl, hk9, hI9⟩
  have r9 := Hd.mk (r8.out.op hk9 hI9)
  clear hk9 hI9 hm8 r8
  obtain ⟨u9, u9z, u9l⟩ := r9.out.cell (b := bu) (by rw [updX_ne hbu, updX_ne hbu, updX_same])
  have r10 := Hd.mk (r9.out.set1 (b := bu) (v' := .string sz) (by rw [updX_ne hbu, updX_ne hbu, updX_same]))
  have hkk := Hd.mk r10.out.keep
  have hub := Hd.mk (r10.out.bx bu _ _ updX_same)
  go_wp2
  go_end0
  exact ⟨hkk.out, rfl, hub.out⟩
set_option maxHeartbeats 4000000 in
theorem makK_3 (x z : Int) (p : Nat) (hp18 : p ≤ 18) (hz : wlen z.natAbs < 8) (hx : x.natAbs < 2 ^ 256) (hzz : x * ((10 ^ (18 - p) : Nat) : Int) = z) : makCl 3 (zT x) (p : Int) fun e w' bu => e = .returned (.tuple #[]) ∧ Blk w' bu 9 [.string (zT z)] := by
  intro bk bs bp bu w hok her hk hs hp hu hne hu1
  have r0 := Hd.mk (Run.start1 hok hu hu1)
  have hpz := Hd.mk fun (Q : Nat → Prop) B S1 w1 (h : Ints Q w1 S1) (h1 : S1 B = some z) => parts_ok Q B z S1 w1 h h1 (by omega)
  have ck := hk.cell 0
  have cs := hs.cell 0
  have cp := hp.cell 0
  simp only [List.getElem?_cons_zero] at ck cs cp
  have lk := hk.lt
  have ls := hs.lt
  have lp := hp.lt
  have lu := hu.lt
  have hPs := Hd.mk (p := bs < w.heap.size ∧ bs ≠ bu) ⟨hs.lt, hne.2.1⟩
  have hPp := Hd.mk (p := bp < w.heap.size ∧ bp ≠ bu) ⟨hp.lt, hne.2.2⟩
  have hbu : bu ≠ w.heap.size := by omega
  have r1 := Hd.mk (r0.out.box #[.pointer none] 71)
  clear r0
  have hb1 : Below w.heap.size w (w.alloc (.cells #[.pointer none] 71)) := (Below.refl _ _).alloc (Nat.le_refl _) _
  have hok1 := hok.below hb1
  have her1 := her.below hb1
  have hs1 := Hd.mk (integer_ok x _ (hok1.below (below_drew _)) (her1.below (below_drew _)) hx)
  have hf1 := Hd.mk fun (Q : Nat → Prop) B S1 w1 (h : Ints Q w1 S1) (h1 : S1 B = some x) => NewDecFIP_any Q B p x S1 w1 h h1 hp18 (by have := wl256 hx; omega)
  rw [hzz] at hf1
  replace hzz := Hd.mk hzz
  replace hx := Hd.mk hx
  generalize zT x = sx at *
  generalize zT z = sz at *
  replace hk := Hd.mk hk
  replace hs := Hd.mk hs
  replace hp := Hd.mk hp
  replace hu := Hd.mk hu
  replace hok1 := Hd.mk hok1
  replace her1 := Hd.mk her1
  clear hb1
  go_enter Tryz.func39, Tryz.ntmps39
  go_upto_region 9 with fail
  go_region_law (first
    | (go_simp; go_at_call 44; refine hs1.out.mono ?_; rintro e w2 ⟨B2, rfl, hn2⟩; have r2 := Hd.mk (r1.out.drew.new_int hn2); clear hn2; have jp : w2.cell? ⟨bp, 0, none⟩ = some (.int .i64 p) := (r2.out.keep.blk hp.out hPp.out).cell 0; have lp2 : bp < w2.heap.size := Nat.lt_of_lt_of_le hPp.out.1 r2.out.ge)
    | (go_simp; go_at_call 45; refine (hf1.out _ B2 _ _ r2.out.ints upd_same).mono ?_; rintro e w7 ⟨B7, rfl, g7, hk7, hI7⟩; have r7 := Hd.mk (r2.out.op hk7 hI7); clear hk7 hI7; obtain ⟨c7, c7z, c7l⟩ := r7.out.cell (b := w.heap.size) updX_same))
  all_goals
    have hB7 := Hd.mk (p := upd (upd (fun _ => Option.none) B2 x) B7 z B7 = some z) upd_same
    have r8 := Hd.mk (r7.out.set1 (b := w.heap.size) (v := .pointer none) (v' := ptr B7) updX_same)
    have hm8 := Hd.mk (hpz.out _ B7 _ _ r8.out.ints hB7.out)
    go_wp2_with fail
    refine hm8.out.mono ?_
    rintro e w9 ⟨rfl, hk9, hI9⟩
    have r9 := Hd.mk (r8.out.op hk9 hI9)
    clear hk9 hI9 hm8 r8
    obtain ⟨u9, u9z, u9l⟩ := r9.out.cell (b := bu) (by rw [updX_ne hbu, updX_ne hbu, updX_same])
    have r10 := Hd.mk (r9.out.set1 (b := bu) (v' := .string sz) (by rw [updX_ne hbu, updX_ne hbu, updX_same]))
    have hkk := Hd.mk r10.out.keep
    have hub := Hd.mk (r10.out.bx bu _ _ updX_same)
    go_wp2
    go_end0
    exact ⟨hkk.out, rfl, hub.out⟩
set_option maxHeartbeats 4000000 in
theorem makK_5 (x z : Int) (p : Nat) (hp18 : p ≤ 18) (hz : wlen z.natAbs < 8) (hx : x.natAbs < 2 ^ 256) (hzz : x * ((10 ^ (18 - p) : Nat) : Int) = z) : makCl 5 (zT x) (p : Int) fun e w' bu => e = .returned (.tuple #[]) ∧ Blk w' bu 9 [.string (zT z)] := by
  intro bk bs bp bu w hok her hk hs hp hu hne hu1
  have r0 := Hd.mk (Run.start1 hok hu hu1)
  have hpz := Hd.mk fun (Q : Nat → Prop) B S1 w1 (h : Ints Q w1 S1) (h1 : S1 B = some z) => parts_ok Q B z S1 w1 h h1 (by omega)
  have ck := hk.cell 0
  have cs := hs.cell 0
  have cp := hp.cell 0
  simp only [List.getElem?_cons_zero] at ck cs cp
  have lk := hk.lt
  have ls := hs.lt
  have lp := hp.lt
  have lu := hu.lt
  have hPs := Hd.mk (p := bs < w.heap.size ∧ bs ≠ bu) ⟨hs.lt, hne.2.1⟩
  have hPp := Hd.mk (p := bp < w.heap.size ∧ bp ≠ bu) ⟨hp.lt, hne.2.2⟩
  have hbu : bu ≠ w.heap.size := by omega
  have r1 := Hd.mk (r0.out.box #[.pointer none] 71)
  clear r0
  have hb1 : Below w.heap.size w (w.alloc (.cells #[.pointer none] 71)) := (Below.refl _ _).alloc (Nat.le_refl _) _
  have hok1 := hok.below hb1
  have her1 := her.below hb1
  have hs1 := Hd.mk (number_ok x _ (hok1.below (below_drew _)) (her1.below (below_drew _)) (Nat.lt_trans hx (by decide)))
  have hf1 := Hd.mk fun (Q : Nat → Prop) B S1 w1 (h : Ints Q w1 S1) (h1 : S1 B = some x) => NewDecPrec_any Q B p x S1 w1 h h1 hp18 (by have := wl256 hx; omega)
  rw [hzz] at hf1
  replace hzz := Hd.mk hzz
  replace hx := Hd.mk hx
  generalize zT x = sx at *
  generalize zT z = sz at *
  replace hk := Hd.mk hk
  replace hs := Hd.mk hs
  replace hp := Hd.mk hp
  replace hu := Hd.mk hu
  replace hok1 := Hd.mk hok1
  replace her1 := Hd.mk her1
  clear hb1
  go_enter Tryz.func39, Tryz.ntmps39
  go_upto_region 13 with fail
  go_region_law (first
    | (go_simp; go_at_call 47; refine hs1.out.mono ?_; rintro e w2 ⟨B2, rfl, hn2⟩; have r2 := Hd.mk (r1.out.drew.new_int hn2); clear hn2; have jp : w2.cell? ⟨bp, 0, none⟩ = some (.int .i64 p) := (r2.out.keep.blk hp.out hPp.out).cell 0; have lp2 : bp < w2.heap.size := Nat.lt_of_lt_of_le hPp.out.1 r2.out.ge)
    | (go_simp; go_at_call 48; refine (hf1.out _ B2 _ _ r2.out.ints upd_same).mono ?_; rintro e w7 ⟨B7, rfl, g7, hk7, hI7⟩; have r7 := Hd.mk (r2.out.op hk7 hI7); clear hk7 hI7; obtain ⟨c7, c7z, c7l⟩ := r7.out.cell (b := w.heap.size) updX_same))
  all_goals
    have hB7 := Hd.mk (p := upd (upd (fun _ => Option.none) B2 x) B7 z B7 = some z) upd_same
    have r8 := Hd.mk (r7.out.set1 (b := w.heap.size) (v := .pointer none) (v' := ptr B7) updX_same)
    have hm8 := Hd.mk (hpz.out _ B7 _ _ r8.out.ints hB7.out)
    go_wp2_with fail
    refine hm8.out.mono ?_
    rintro e w9 ⟨rfl, hk9, hI9⟩
    have r9 := Hd.mk (r8.out.op hk9 hI9)
    clear hk9 hI9 hm8 r8
    obtain ⟨u9, u9z, u9l⟩ := r9.out.cell (b := bu) (by rw [updX_ne hbu, updX_ne hbu, updX_same])
    have r10 := Hd.mk (r9.out.set1 (b := bu) (v' := .string sz) (by rw [updX_ne hbu, updX_ne hbu, updX_same]))
    have hkk := Hd.mk r10.out.keep
    have hub := Hd.mk (r10.out.bx bu _ _ updX_same)
    go_wp2
    go_end0
    exact ⟨hkk.out, rfl, hub.out⟩
set_option maxHeartbeats 4000000 in
theorem makK_6 (x z : Int) (p : Nat) (hp18 : p ≤ 18) (hz : wlen z.natAbs < 8) (h1 : -9223372036854775808 ≤ x) (h2 : x ≤ 9223372036854775807) (hzz : x * E18 = z) : makCl 6 (zT x) (p : Int) fun e w' bu => e = .returned (.tuple #[]) ∧ Blk w' bu 9 [.string (zT z)] := by
  intro bk bs bp bu w hok her hk hs hp hu hne hu1
  have r0 := Hd.mk (Run.start1 hok hu hu1)
  have hpz := Hd.mk fun (Q : Nat → Prop) B S1 w1 (h : Ints Q w1 S1) (h1 : S1 B = some z) => parts_ok Q B z S1 w1 h h1 (by omega)
  have ck := hk.cell 0
  have cs := hs.cell 0
  have cp := hp.cell 0
  simp only [List.getElem?_cons_zero] at ck cs cp
  have lk := hk.lt
  have ls := hs.lt
  have lp := hp.lt
  have lu := hu.lt
  have hPs := Hd.mk (p := bs < w.heap.size ∧ bs ≠ bu) ⟨hs.lt, hne.2.1⟩
  have hPp := Hd.mk (p := bp < w.heap.size ∧ bp ≠ bu) ⟨hp.lt, hne.2.2⟩
  have hbu : bu ≠ w.heap.size := by omega
  have r1 := Hd.mk (r0.out.box #[.pointer none] 71)
  clear r0
  have hb1 : Below w.heap.size w (w.alloc (.cells #[.pointer none] 71)) := (Below.refl _ _).alloc (Nat.le_refl _) _
  have hok1 := hok.below hb1
  have her1 := her.below hb1
  have hs1 := Hd.mk fun w1 => small_ok x w1 h1 h2
  have ho1 := Hd.mk OneDec_any
  have hf1 := Hd.mk fun (Q : Nat → Prop) B S1 w1 (h : Ints Q w1 S1) (h3 : S1 B = some 1000000000000000000) => dSetInt64_any Q B _ x S1 w1 h h3 h1 h2
  rw [hzz] at hf1
  replace hzz := Hd.mk hzz
  generalize zT x = sx at *
  generalize zT z = sz at *
  replace hk := Hd.mk hk
  replace hs := Hd.mk hs
  replace hp := Hd.mk hp
  replace hu := Hd.mk hu
  replace hok1 := Hd.mk hok1
  replace her1 := Hd.mk her1
  clear hb1
  go_enter Tryz.func39, Tryz.ntmps39
  go_upto_region 15 with fail
  go_region_law (first
    | (go_simp; go_at_call 50; first
        | (refine (hf1.out _ B2 _ _ r4.out.ints upd_same).mono ?_; rintro e w7 ⟨rfl, hk7, hI7⟩; have r7 := Hd.mk (r4.out.op hk7 hI7); clear hk7 hI7; obtain ⟨c7, c7z, c7l⟩ := r7.out.cell (b := w.heap.size) updX_same)
        | (refine (hf1.out _ B5 _ _ r5.out.ints upd_same).mono ?_; rintro e w7 ⟨rfl, hk7, hI7⟩; have r7 := Hd.mk (r5.out.op hk7 hI7); clear hk7 hI7; obtain ⟨c7, c7z, c7l⟩ := r7.out.cell (b := w.heap.size) updX_same))
    | (go_simp; go_at_call 41; first
        | (with_reducible exact r2; fail)
        | (refine (hs1.out w2).mono ?_; rintro e w4 ⟨rfl, hb4⟩; have r4 := Hd.mk (r2.out.below hb4); clear hb4)
        | (refine (hs1.out _).mono ?_; rintro e w3 ⟨rfl, hb3⟩; have r3 := Hd.mk (r1.out.drew.below hb3); clear hb3))
    | (go_simp; go_at_call 49; first
        | (refine (ho1.out w3 r3.out.ok).mono ?_; rintro e w5 ⟨B5, rfl, hn5⟩; have r5 := Hd.mk (r3.out.new_int hn5); clear hn5)
        | (refine (ho1.out _ r1.out.drew.ok).mono ?_; rintro e w2 ⟨B2, rfl, hn2⟩; have r2 := Hd.mk (r1.out.drew.new_int hn2); have js : w2.cell? ⟨bs, 0, none⟩ = some (.string sx) := (r2.out.keep.blk hs.out hPs.out).cell 0; have ls2 : bs < w2.heap.size := Nat.lt_of_lt_of_le hPs.out.1 r2.out.ge; clear hn2)))
  all_goals
    try (generalize hBB : B2 = B7 at *)
    try (generalize hBB : B5 = B7 at *)
    have hB7 := Hd.mk (p := upd (upd (fun _ => Option.none) B7 1000000000000000000) B7 z B7 = some z) upd_same
    have r8 := Hd.mk (r7.out.set1 (b := w.heap.size) (v := .pointer none) (v' := ptr B7) updX_same)
    have hm8 := Hd.mk (hpz.out _ B7 _ _ r8.out.ints hB7.out)
    go_wp2_with fail
    refine hm8.out.mono ?_
    rintro e w9 ⟨rfl, hk9, hI9⟩
    have r9 := Hd.mk (r8.out.op hk9 hI9)
    clear hk9 hI9 hm8 r8
    obtain ⟨u9, u9z, u9l⟩ := r9.out.cell (b := bu) (by rw [updX_ne hbu, updX_ne hbu, updX_same])
    have r10 := Hd.mk (r9.out.set1 (b := bu) (v' := .string sz) (by rw [updX_ne hbu, updX_ne hbu, updX_same]))
    have hkk := Hd.mk r10.out.keep
    have hub := Hd.mk (r10.out.bx bu _ _ updX_same)
    go_wp2
    go_end0
    exact ⟨hkk.out, rfl, hub.out⟩
end Go.Proofs.YtpabbnogfflgpaaGreatDoor
end

section
namespace Go.Proofs.YtpabbnogfflgpaaGreatDoor
open Go.RowKit
set_option maxRecDepth 100000
/-- The decimal that is made of a whole number. -/
def makV (k p : Nat) (x : Int) : Int := if k = 1 ∨ k = 3 ∨ k = 5 then x * ((10 ^ (18 - p) : Nat) : Int) else x * E18
theorem makV_bd (k p : Nat) (x : Int) : (makV k p x).natAbs ≤ x.natAbs * 10 ^ 18 := by
  unfold makV
  split
  · rw [Int.natAbs_mul, Int.natAbs_natCast]
    exact Nat.mul_le_mul_left _ (Nat.pow_le_pow_right (by decide) (by omega))
  · rw [Int.natAbs_mul]
    exact Nat.le_refl _
theorem makV_wl {k p : Nat} {x : Int} (h : x.natAbs < 2 ^ 256) : wlen (makV k p x).natAbs < 8 := by
  have h1 := makV_bd k p x
  have h2 : x.natAbs * 10 ^ 18 < BB ^ 6 := Nat.lt_of_lt_of_le (Nat.mul_lt_mul_of_pos_right h (by decide)) (by decide)
  exact wl (n := 6) (by omega) (by decide)
theorem makV_130 {k p : Nat} {x : Int} (h : x.natAbs < 10 ^ 80) : (makV k p x).natAbs < 10 ^ 130 := by
  have h1 := makV_bd k p x
  have h2 : x.natAbs * 10 ^ 18 < 10 ^ 130 := Nat.lt_of_lt_of_le (Nat.mul_lt_mul_of_pos_right h (by decide)) (by decide)
  omega
theorem DecMake_ok (k : Nat) (hk : k < 8) (p : Nat) (hp : p ≤ 18) (x : Int) (w : World) (hok : Ok w) (her : Er w) (hx : x.natAbs < 2 ^ 256) (hs : k = 0 ∨ k = 1 ∨ k = 6 → is64 x = true) :
    Calls Tryz.prog 14 #[.int .i64 (k : Int), .string (zT x), .int .i64 (p : Int)] w fun e w' => e = .returned (.tuple #[.string (zT (makV k p x)), .bool true]) ∧ Below w.heap.size w w' := by
  have hz := makV_wl (k := k) (p := p) hx
  refine mak_ok (k : Int) (zT x) (p : Int) (zT (makV k p x)) w hok her ?_
  match k, hk with
  | 0, _ => have h64 := of_decide_eq_true (hs (by omega)); exact makK_0 x _ p hp hz h64.1 h64.2 rfl
  | 1, _ => have h64 := of_decide_eq_true (hs (by omega)); exact makK_1 x _ p hp hz h64.1 h64.2 rfl
  | 2, _ => exact makK_2 x _ p hp hz hx rfl
  | 3, _ => exact makK_3 x _ p hp hz hx rfl
  | 4, _ => exact makK_4 x _ p hp hz hx rfl
  | 5, _ => exact makK_5 x _ p hp hz hx rfl
  | 6, _ => have h64 := of_decide_eq_true (hs (by omega)); exact makK_6 x _ p hp hz h64.1 h64.2 rfl
  | 7, _ => exact makK_7 x _ p hp hz hx rfl
end Go.Proofs.YtpabbnogfflgpaaGreatDoor
end
