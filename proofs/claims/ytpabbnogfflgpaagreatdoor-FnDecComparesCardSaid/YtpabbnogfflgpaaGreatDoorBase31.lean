/- The reference's numbers: their texts. The text of a decimal, by the whole number and the rest: the plain law. No program in sight. The reference's numbers: made of an int64 below 0; as an int64. The reference's numbers: the text of a decimal. Ranges; numbers opened. Conditions: those that each theorem states. -/
import Derived.Deep.DeepCutAuto
import Derived.Test.YtpabbnogfflgpaaGreatDoorBase18
import Derived.Test.YtpabbnogfflgpaaGreatDoorBase25
import Derived.Test.YtpabbnogfflgpaaGreatDoorBase30
import Derived.Test.YtpabbnogfflgpaaGreatDoorBase21
import Derived.Test.YtpabbnogfflgpaaGreatDoorBase27
import Derived.Test.YtpabbnogfflgpaaGreatDoorBase28
set_option linter.all false

section
namespace Go.Proofs.YtpabbnogfflgpaaGreatDoor
open Go.RowKit
set_option maxRecDepth 100000
theorem digs_txt (t : List Nat) : digs t.length (fun j => t.getD j 0) = txtV t := by
  unfold digs txtV
  apply List.ext_getElem
  · simp
  · intro i h1 h2
    have h3 : i < t.length := by simpa using h1
    simp [h3]
/-- A number's text, by its digits. -/
theorem ztx_get {x : Int} (hx : x ≠ 0) {k : Nat} (hk : k < T.wlen x.natAbs) : (ztx x).getD ((decide (x < 0)).toNat + k) 0 = 48 + T.dig x.natAbs (T.wlen x.natAbs - 1 - k) := by
  have hd : T.wlen x.natAbs = dlen x.natAbs := T.wlen_dlen (by omega)
  unfold ztx
  rw [List.getD_eq_getElem?_getD, dtxt_get]
  rw [hd] at hk ⊢
  by_cases h : x < 0
  · rw [decide_eq_true h]
    rw [if_neg (by simp), if_pos (by simp; omega)]
    simp only [if_true, Bool.toNat_true, Option.getD_some, Nat.add_sub_cancel_left]
    rfl
  · rw [decide_eq_false h]
    rw [if_neg (by simp), if_pos (by simp; omega)]
    simp only [Bool.false_eq_true, if_false, Bool.toNat_false, Option.getD_some, Nat.zero_add, Nat.sub_zero]
    rfl
theorem ztx_neg0 {x : Int} (h : x < 0) : (ztx x).getD 0 0 = 45 := by rw [ztx_neg h]; rfl
theorem ztx_len {x : Int} (hx : x ≠ 0) : (ztx x).length = (decide (x < 0)).toNat + T.wlen x.natAbs := by
  rw [ztx_length, T.wlen_dlen (by omega)]
  by_cases h : x < 0
  · rw [if_pos h, decide_eq_true h, Bool.toNat_true]; omega
  · rw [if_neg h, decide_eq_false h, Bool.toNat_false]; omega
theorem zT_zero : zT 0 = ByteArray.mk #[48] := by
  unfold zT
  rw [ztx_pos (Int.le_refl _)]
  have : dtxt false (0 : Int).natAbs = [48] := dtxt_nums (l := [48]) (by decide) (by decide) (by decide)
  rw [this]; rfl
theorem OwD.txt {w0 wr : World} {v : Value} {n : Nat} {t : List Nat} (h : OwD w0 wr v n (fun j => t.getD j 0)) (hn : n = t.length) (h0 : 0 < n) :
    ∃ g cap, v = .slice (some ⟨g, 0, none⟩) n cap ∧ TxtAt wr g 0 t := by
  have h1 := h.row
  subst hn
  rw [digs_txt] at h1
  rcases h1.2 with ⟨-, h3⟩ | ⟨g, cap, cur, rfl, -⟩
  · omega
  · exact ⟨g, cap, rfl, (own_txt h1).1⟩
set_option maxHeartbeats 2000000 in
theorem text_any (v : Value) (x : Int) (w : World) (hx : NumV w v x) (hl : T.wlen x.natAbs < 900) :
    Calls Tryz.prog 15 #[v] w fun e w' => e = .returned (.string (zT x)) ∧ Below w.heap.size w w' := by
  obtain ⟨A, cap, rfl, hd⟩ := hx.open
  by_cases h0 : x = 0
  · subst h0
    rw [zT_zero]
    have hw0 : T.wlen (0 : Int).natAbs = 0 := T.wlen_zero
    rw [hw0]
    replace hd := Hd.mk hd
    replace hx := Hd.mk hx
    replace hw0 := Hd.mk hw0
    go_enter Tryz.func15, Tryz.ntmps15
    go_wp2
    go_ret
    exact ⟨rfl, (Below.refl _ _).alloc (Nat.le_refl _) _⟩
  have hget := Hd.mk fun k (hk : k < T.wlen x.natAbs) => ztx_get h0 hk
  have hlen := Hd.mk (ztx_len h0)
  have hne0 : Hd (decide (x < 0) = true → (ztx x).getD 0 0 = 45) := ⟨fun h => ztx_neg0 (of_decide_eq_true h)⟩
  have hpos : 0 < T.wlen x.natAbs := Nat.pos_of_ne_zero fun h => h0 (by have := T.wlen_eq_zero.1 h; omega)
  have hzt : zT x = mkT (ztx x) := rfl
  have hdg := Hd.mk fun j => T.dig_lt x.natAbs j
  rw [hzt]
  generalize T.wlen x.natAbs = m at *
  generalize T.dig x.natAbs = F at *
  generalize ztx x = t at *
  generalize decide (x < 0) = nb at *
  have hb1 : Below w.heap.size w (w.alloc (.cells #[.bool nb, .slice A m cap] 24)) := (Below.refl _ _).alloc (Nat.le_refl _) _
  have hblk := Blk.new w #[.bool nb, .slice A m cap] 24
  have hd1 := hd.below hb1
  have d0 := hblk.cell 0
  have d1 := hblk.cell 1
  simp only [List.getElem?_cons_succ, List.getElem?_cons_zero] at d0 d1
  obtain ⟨A', cap', e, hc1, hc3, hc2⟩ := hd1
  cases e
  obtain ⟨K, o, rfl, hc⟩ := hc2 hpos
  have dm : ((m : Int) == 0) = false := by simp; omega
  replace hzt := Hd.mk hzt
  replace hb1 := Hd.mk hb1
  replace hblk := Hd.mk hblk
  replace hd := Hd.mk hd
  replace hx := Hd.mk hx
  replace hc := Hd.mk hc
  replace hc2 := Hd.mk hc2
  replace hc3 := Hd.mk hc3
  go_enter Tryz.func15, Tryz.ntmps15
  go_upto_if 10 with fail
  generalize w.alloc (.cells #[.bool nb, .slice (some ⟨K, o, none⟩) m cap] 24) = w1 at *
  go_cut [3] (fun s wx => Hd (OwD w1 wx s nb.toNat (fun j => t.getD j 0)))
  case first =>
    cases nb
    · go_wp2_with fail
      go_meet
      exact ⟨OwD.nil _ _⟩
    · go_wp2_with (at_builtin; refine wpList_push rfl (.tmp 11) (.tmp 12) rfl _ 0 (fun j => t.getD j 0) rfl (OwD.nil _ _) _ ?hc rfl (by omega) ?_; (case hc => (show (45 : Int) = ((t.getD 0 0 : Nat) : Int); rw [hne0.out rfl]; rfl)); intro v' w' how2 hv' hb2 hsz2; obtain ⟨g', cap', rfl⟩ := hv'; replace how2 := Hd.mk how2; replace hb2 := Hd.mk hb2)
      go_meet
      exact how2
  case rest =>
  have hwm : IntKind.i64.wrap ((m : Int) - 1) = (m : Int) - 1 := IntWalk.i64_in _ (by omega)
  have d1c := cb hcut.out.bel d1
  go_wp2
  go_loopw [3, 4] (fun s i wr => ∃ k q : Nat, k + q = m ∧ i = .int .i64 ((q : Int) - 1) ∧ Hd (OwD w1 wr s (nb.toNat + k) (fun j => t.getD j 0))) (fun _ i _ => (intOf i + 1).toNat)
  case atStart => exact ⟨0, m, by omega, rfl, hcut⟩
  case round =>
    obtain ⟨k, q, hkq, rfl, how⟩ := hrel
    have e1 := cb how.out.bel d1
    rcases Nat.eq_zero_or_pos q with hq0 | hq0
    · subst hq0
      have hkm : k = m := by omega
      have hn : nb.toNat + k = t.length := by rw [hlen.out, hkm]
      obtain ⟨g, c9, rfl, htx⟩ := how.out.txt hn (by omega)
      have hcv := txt_conv htx hn c9
      replace hn := Hd.mk hn
      replace hkm := Hd.mk hkm
      replace htx := Hd.mk htx
      go_wp2
      go_ret
      exact ⟨rfl, hb1.out.trans (how.out.bel.mono hb1.out.size)⟩
    · obtain ⟨j, rfl⟩ : ∃ j, q = j + 1 := ⟨q - 1, by omega⟩
      rw [show ((j + 1 : Nat) : Int) - 1 = (j : Int) by omega]
      have hcj := cb how.out.bel (hc.out j (by omega))
      have hdj := hdg.out j
      have hgk : Hd (t.getD (nb.toNat + k) 0 = 48 + F j) := ⟨by rw [hget.out k (by omega), show m - 1 - k = j by omega]⟩
      unfold T.BB at hdj
      generalize F j = c0 at *
      have hw1 : IntKind.u8.wrap (48 + (c0 : Int)) = 48 + (c0 : Int) := IntWalk.u8_in _ (by omega)
      have hwj : IntKind.i64.wrap ((j : Int) - 1) = (j : Int) - 1 := IntWalk.i64_in _ (by omega)
      go_wp2_with (at_builtin; refine wpList_push rfl (.tmp 22) (.tmp 29) rfl _ (nb.toNat + k) (fun j => t.getD j 0) rfl how.out _ ?hc rfl (by have := Bool.toNat_le nb; omega) ?_; (case hc => (show _ = ((t.getD (nb.toNat + k) 0 : Nat) : Int); rw [hgk.out]; omega)); intro v' w' how2 hv' hb2 hsz2; obtain ⟨g', cap', rfl⟩ := hv'; replace how2 := Hd.mk how2; replace hb2 := Hd.mk hb2)
      go_roundw
      case rel => exact ⟨k + 1, j, by omega, rfl, ⟨by rw [← Nat.add_assoc]; exact how2.out⟩⟩
      case measure => simp [intOf]
end Go.Proofs.YtpabbnogfflgpaaGreatDoor
end

section
namespace Go.Proofs.YtpabbnogfflgpaaGreatDoor
open Go.RowKit
theorem nums_same {l m : List Nat} (hl : ∀ b, b ∈ l → isD b) (hm : ∀ b, b ∈ m → isD b) (h : l.length = m.length) (hn : nums l = nums m) : l = m := by
  apply List.ext_getElem h
  intro i h1 h2
  rw [← dgt_nums hl i h1, ← dgt_nums hm i h2, hn, h]
theorem dtxt_head {a : Nat} (h : 10 ≤ a) : (dtxt false a).head? ≠ some 48 := by
  have h0 : a ≠ 0 := by omega
  have h1 := dgt_first (n := dlen a) h0 (Nat.le_refl _)
  rw [Nat.sub_self] at h1
  have h2 := dtxt_get false a 0
  rw [if_neg (by simp), if_pos (by have := dlen_pos a; simp; omega)] at h2
  rw [List.head?_eq_getElem?, h2]
  intro e
  have := Option.some.inj e
  simp at this
  exact h1 this
/-- The eighteen digits of a rest. -/
def padL (r : Nat) : List Nat := List.replicate (18 - (dtxt false r).length) 48 ++ dtxt false r
theorem padL_D {r b : Nat} (h : b ∈ padL r) : isD b := by
  unfold padL at h
  rcases List.mem_append.1 h with h | h
  · cases (List.mem_replicate.1 h).2
    exact ⟨by omega, by omega⟩
  · exact dtxt_isD h
theorem dtxt_len18 {r : Nat} (h : r < 1000000000000000000) : (dtxt false r).length ≤ 18 := by
  rw [dtxt_len]
  by_cases h0 : r = 0
  · rw [h0, dlen_small (by decide)]; omega
  · exact dlen_le_of (n := 18) (by omega) h0
theorem padL_len {r : Nat} (h : r < 1000000000000000000) : (padL r).length = 18 := by
  have := dtxt_len18 h
  unfold padL
  rw [List.length_append, List.length_replicate]; omega
theorem padL_nums (r : Nat) : nums (padL r) = r := by
  unfold padL
  rw [nums_app, nums_zeros, nums_dtxt, Nat.zero_mul, Nat.zero_add]
theorem af_nums (a : Nat) : nums (aL (dtxt false a)) = a / 1000000000000000000 ∧ nums (fL (dtxt false a)) = a % 1000000000000000000 := by
  have hD : ∀ b, b ∈ dtxt false a → isD b := fun b hb => dtxt_isD hb
  have h1 := nums_af (dtxt false a)
  rw [nums_app, fL_len, nums_dtxt] at h1
  have h2 := nums_lt (fun b => fL_D (b := b) hD)
  rw [fL_len] at h2
  generalize nums (aL (dtxt false a)) = p at *
  generalize nums (fL (dtxt false a)) = q at *
  omega
theorem aL_dtxt (a : Nat) : aL (dtxt false a) = dtxt false (a / 1000000000000000000) := by
  have hD : ∀ b, b ∈ dtxt false a → isD b := fun b hb => dtxt_isD hb
  rw [← (af_nums a).1]
  refine (dtxt_nums (fun b => aL_D hD) (aL_ne _) ?_).symm
  unfold aL
  split
  · exact .inl rfl
  · rename_i h
    right
    have h10 : 10 ≤ a := by
      rcases Nat.lt_or_ge a 10 with h1 | h1
      · rw [dtxt_len, dlen_small h1] at h; omega
      · exact h1
    have h2 := dtxt_head h10
    obtain ⟨n, hn⟩ : ∃ n, (dtxt false a).length - 18 = n + 1 := ⟨(dtxt false a).length - 19, by omega⟩
    rw [hn]
    cases e : dtxt false a with
    | nil => exact absurd e (dtxt_ne a)
    | cons b l => rw [e] at h2; simpa using h2
theorem fL_dtxt (a : Nat) : fL (dtxt false a) = padL (a % 1000000000000000000) := by
  have hD : ∀ b, b ∈ dtxt false a → isD b := fun b hb => dtxt_isD hb
  refine nums_same (fun b => fL_D hD) (fun b => padL_D) ?_ ?_
  · rw [fL_len, padL_len (Nat.mod_lt _ (by decide))]
  · rw [(af_nums a).2, padL_nums]
/-- A decimal's text: the whole number, the point, the eighteen digits of the rest. -/
theorem decL_parts (x : Int) : decL x = (if x < 0 then [45] else []) ++ (dtxt false (x.natAbs / 1000000000000000000) ++ [46] ++ padL (x.natAbs % 1000000000000000000)) := by
  unfold decL
  rw [ptL_af, aL_dtxt, fL_dtxt]
end Go.Proofs.YtpabbnogfflgpaaGreatDoor
end

section
namespace Go.Proofs.YtpabbnogfflgpaaGreatDoor
open Go.RowKit
set_option maxRecDepth 100000
set_option maxHeartbeats 1000000 in
theorem of_neg (n : Nat) (w : World) (h1 : 1 ≤ n) (h2 : n ≤ 9223372036854775808) : Calls Tryz.prog 33 #[.int .i64 (-(n : Int))] w fun e w' => ∃ v, e = .returned v ∧ NumV w' v (-(n : Int)) ∧ Below w.heap.size w w' := by
  have hsl := Hd.mk (Slot.start w)
  have hb0 : Below w.heap.size w (w.alloc (.cells #[.bool false, .slice none 0 0] 24)) := (Below.refl _ _).alloc (Nat.le_refl _) _
  have hou := Hd.mk fun w1 => nv (ofuint_any n w1 (by unfold BB; omega))
  have hd0 : decide (-(n : Int) < 0) = true := decide_eq_true (by omega)
  have a1 : IntKind.i64.wrap (-(n : Int) + 1) = -(n : Int) + 1 := IntWalk.i64_in _ (by omega)
  have a2 : IntKind.i64.wrap (-(-(n : Int) + 1)) = (n : Int) - 1 := by rw [IntWalk.i64_in _ (by omega)]; omega
  have a3 : IntKind.u64.wrap ((n : Int) - 1) = (n : Int) - 1 := IntWalk.u64_in _ (by omega)
  have a4 : IntKind.u64.wrap ((n : Int) - 1 + 1) = (n : Int) := by rw [IntWalk.u64_in _ (by omega)]; omega
  have hgood : Hd (∀ w2 w4 b2 A2 n2 c2, NumV w2 (.agg #[.bool b2, .slice A2 n2 c2]) (n : Int) → Below w2.heap.size w2 w4 → NumV w4 (.agg #[.bool true, .slice A2 n2 c2]) (-(n : Int))) := ⟨fun w2 w4 b2 A2 n2 c2 q1 q2 => by
    have := num_sign (neg := true) q1 q2 (fun _ => by omega)
    rwa [if_pos rfl] at this⟩
  generalize hz : -(n : Int) = z at *
  replace hz := Hd.mk hz
  replace hb0 := Hd.mk hb0
  go_enter Tryz.func33, Tryz.ntmps33
  go_upto_region 4 with (go_at_call 88; refine (hou.out _).mono ?_; rintro e w2 ⟨b, A, m, c, rfl, hnv, hb⟩; have hs2 := Hd.mk (hsl.out.below hb); have hb2 := Hd.mk (hb0.out.trans (hb.mono hb0.out.size)); replace hnv := Hd.mk hnv; clear hb)
  have hba : Below w2.heap.size w2 (w2.alloc (.cells #[.bool true, .slice A m c] 24)) := (Below.refl _ _).alloc (Nat.le_refl _) _
  have hbk := Blk.new w2 #[.bool true, .slice A m c] 24
  have e0 := hbk.cell 0
  have e1 := hbk.cell 1
  simp only [List.getElem?_cons_succ, List.getElem?_cons_zero] at e0 e1
  have hs3 := hs2.out.below hba
  have hn3 := hgood.out _ _ _ _ _ _ hnv.out hba
  have hb3 := hb2.out.trans (hba.mono hb2.out.size)
  have hfin := Hd.mk (hs3.num (u0 := .bool true) (u1 := .slice A m c) hb3 hn3)
  obtain ⟨q1, q2, q3, q4, q5, q6⟩ := hs3
  generalize w2.alloc (.cells #[.bool true, .slice A m c] 24) = w3 at *
  replace hbk := Hd.mk hbk
  replace hba := Hd.mk hba
  replace hn3 := Hd.mk hn3
  replace hb3 := Hd.mk hb3
  go_wp2
  refine bodyPost_ret (v := .agg #[.bool true, .slice A m c]) (by simp [results, Tryz.results33, go_sem, q2, q3, q4, q5, q6]) rfl ⟨_, rfl, hfin.out.1, hfin.out.2⟩
theorem cmp_lo (x : Int) : decide (cmpI x (-9223372036854775808) < 0) = decide (x < -9223372036854775808) := by
  unfold cmpI
  split
  · rename_i h; rw [decide_eq_true h]; rfl
  · rename_i h; rw [decide_eq_false h]; split <;> rfl
theorem cmp_hi (x : Int) : decide (0 < cmpI x 9223372036854775807) = decide (9223372036854775807 < x) := by
  unfold cmpI
  split
  · rename_i h; rw [decide_eq_false (p := 9223372036854775807 < x) (by omega)]; rfl
  · rename_i h
    split
    · rename_i h2; subst h2; rfl
    · rename_i h2; rw [decide_eq_true (p := 9223372036854775807 < x) (by omega)]; rfl
theorem dig_step (N j : Nat) : N / 10 ^ j = 10 * (N / 10 ^ (j + 1)) + T.dig N j := by
  have h1 : N / 10 ^ (j + 1) = N / 10 ^ j / 10 := by rw [Nat.pow_succ, Nat.div_div_eq_div_mul]
  have h2 : T.dig N j = N / 10 ^ j % 10 := rfl
  rw [h1, h2]; omega
set_option maxHeartbeats 4000000 in
theorem small_any (v : Value) (x : Int) (w : World) (hx : NumV w v x) (hl : T.wlen x.natAbs < 900) :
    Calls Tryz.prog 9 #[v] w fun e w' => e = .returned (.tuple #[.int .i64 (if is64 x = true then x else 0), .bool (is64 x)]) ∧ Below w.heap.size w w' := by
  obtain ⟨A, cap, rfl, hd⟩ := hx.open
  have hwlo : T.wlen (-9223372036854775808 : Int).natAbs < 1000 := Nat.lt_of_le_of_lt (T.wlen_le (n := 20) (by unfold T.BB; decide)) (by decide)
  have hwhi : T.wlen (9223372036854775807 : Int).natAbs < 1000 := Nat.lt_of_le_of_lt (T.wlen_le (n := 20) (by unfold T.BB; decide)) (by decide)
  have hlo := Hd.mk fun w1 => nv (of_neg 9223372036854775808 w1 (by omega) (by omega))
  rw [show (-((9223372036854775808 : Nat) : Int)) = -9223372036854775808 from rfl] at hlo
  have hhi := Hd.mk fun w1 => nv (of_nat 9223372036854775807 w1 (by omega))
  rw [show ((9223372036854775807 : Nat) : Int) = 9223372036854775807 from rfl] at hhi
  have hc1 := Hd.mk fun w1 v1 v2 (h1 : NumV w1 v1 x) (h2 : NumV w1 v2 (-9223372036854775808)) => ncmpI_any v1 v2 _ _ w1 h1 h2 (by omega) hwlo
  have hc2 := Hd.mk fun w1 v1 v2 (h1 : NumV w1 v1 x) (h2 : NumV w1 v2 9223372036854775807) => ncmpI_any v1 v2 _ _ w1 h1 h2 (by omega) hwhi
  have k1 := cmp_lo x
  have k2 := cmp_hi x
  have his : is64 x = decide (-9223372036854775808 ≤ x ∧ x ≤ 9223372036854775807) := rfl
  clear hwlo hwhi
  generalize hnb : decide (x < 0) = nb at *
  have hb1 : Below w.heap.size w (w.alloc (.cells #[.bool nb, .slice A (T.wlen x.natAbs) cap] 24)) := (Below.refl _ _).alloc (Nat.le_refl _) _
  have hblk := Blk.new w #[.bool nb, .slice A (T.wlen x.natAbs) cap] 24
  have hx1 := hx.below hb1
  have hd1 := hd.below hb1
  have d0 := hblk.cell 0
  have d1 := hblk.cell 1
  simp only [List.getElem?_cons_succ, List.getElem?_cons_zero] at d0 d1
  generalize hm : T.wlen x.natAbs = m at *
  have hmB : m < 1000 := by omega
  replace hnb := Hd.mk hnb
  replace hm := Hd.mk hm
  replace hblk := Hd.mk hblk
  replace hd := Hd.mk hd
  replace hx := Hd.mk hx
  replace hx1 := Hd.mk hx1
  replace hd1 := Hd.mk hd1
  replace his := Hd.mk his
  generalize hw1 : w.alloc (.cells #[.bool nb, .slice A m cap] 24) = w1 at *
  replace hw1 := Hd.mk hw1
  by_cases h1 : x < -9223372036854775808
  · rw [decide_eq_true h1] at k1
    have hfalse : is64 x = false := by rw [his.out]; exact decide_eq_false (by omega)
    rw [hfalse]
    generalize cmpI x (-9223372036854775808) = cm at *
    clear hc2 hhi k2
    replace h1 := Hd.mk h1
    replace hfalse := Hd.mk hfalse
    go_enter Tryz.func9, Tryz.ntmps9
    go_upto_region 1 with fail
    rw [hw1.out]
    go_region_law (first
      | (go_simp; go_at_call 33; refine (hlo.out _).mono ?_; rintro e w3 ⟨b3, A3, m3, c3, rfl, hn3, hb3⟩; have hu3 := below_undrew hb3; have hx3 := Hd.mk (hx1.out.below hu3); have f0 := cb hu3 d0; have f1 := cb hu3 d1; have hbb3 := Hd.mk (hb1.trans (hu3.mono hb1.size)); clear hb3 hu3; replace hn3 := Hd.mk hn3)
      | (go_simp; go_at_call 18; refine (hc1.out _ _ _ hx3.out hn3.out).mono ?_; rintro e w4 ⟨rfl, hb4⟩; have hbb4 := Hd.mk (hbb3.out.trans (hb4.mono hbb3.out.size)); clear hb4))
    all_goals
      go_wp2
      go_ret2
      exact ⟨rfl, hbb4.out⟩
  · rw [decide_eq_false h1] at k1
    generalize cmpI x (-9223372036854775808) = cm at *
    by_cases h2 : 9223372036854775807 < x
    · rw [decide_eq_true h2] at k2
      have hfalse : is64 x = false := by rw [his.out]; exact decide_eq_false (by omega)
      rw [hfalse]
      generalize cmpI x 9223372036854775807 = cn at *
      replace h1 := Hd.mk h1
      replace h2 := Hd.mk h2
      replace hfalse := Hd.mk hfalse
      go_enter Tryz.func9, Tryz.ntmps9
      go_upto_region 1 with fail
      rw [hw1.out]
      go_region_law (first
        | (go_simp; go_at_call 33; with_reducible refine (hlo.out _).mono ?_; rintro e w3 ⟨b3, A3, m3, c3, rfl, hn3, hb3⟩; have hu3 := below_undrew hb3; have hx3 := Hd.mk (hx1.out.below hu3); have f0 := cb hu3 d0; have f1 := cb hu3 d1; have hv3 := Hd.mk hu3; have hbb3 := Hd.mk (hb1.trans (hu3.mono hb1.size)); clear hb3 hu3; replace hn3 := Hd.mk hn3)
          | (go_simp; go_at_call 18; refine (hc2.out _ _ _ hx5.out hn5.out).mono ?_; rintro e w6 ⟨rfl, hb6⟩; have hbb6 := Hd.mk (hbb5.out.trans (hb6.mono hbb5.out.size)); have hv6 := Hd.mk (hv5.out.trans (hb6.mono hv5.out.size)); clear hb6)
          | (go_simp; go_at_call 18; refine (hc1.out _ _ _ hx3.out hn3.out).mono ?_; rintro e w4 ⟨rfl, hb4⟩; have hbb4 := Hd.mk (hbb3.out.trans (hb4.mono hbb3.out.size)); have hv4 := Hd.mk (hv3.out.trans (hb4.mono hv3.out.size)); have hx4 := Hd.mk (hx3.out.below hb4); have g0 := cb hb4 f0; have g1 := cb hb4 f1; clear hb4)
          | (go_simp; go_at_call 33; refine (hhi.out _).mono ?_; rintro e w5 ⟨b5, A5, m5, c5, rfl, hn5, hb5⟩; have hx5 := Hd.mk (hx4.out.below hb5); have h0 := cb hb5 g0; have h1' := cb hb5 g1; have hbb5 := Hd.mk (hbb4.out.trans (hb5.mono hbb4.out.size)); have hv5 := Hd.mk (hv4.out.trans (hb5.mono hv4.out.size)); clear hb5; replace hn5 := Hd.mk hn5))
      all_goals
        go_wp2
        go_ret2
        exact ⟨rfl, hbb6.out⟩
    · rw [decide_eq_false h2] at k2
      have htrue : is64 x = true := by rw [his.out]; exact decide_eq_true (by omega)
      rw [htrue, if_pos rfl]
      generalize cmpI x 9223372036854775807 = cn at *
      have hN : x.natAbs ≤ 9223372036854775808 := by omega
      have hNb : nb = false → x.natAbs ≤ 9223372036854775807 := fun h => by have := hnb.out; rw [h] at this; have := of_decide_eq_false this; omega
      have hxN : x = if nb = true then -(x.natAbs : Int) else (x.natAbs : Int) := by
        have := hnb.out
        cases nb
        · have := of_decide_eq_false this; rw [if_neg (by decide)]; omega
        · have := of_decide_eq_true this; rw [if_pos rfl]; omega
      have hlt : x.natAbs < 10 ^ m := by rw [← hm.out]; exact T.lt_wlen _
      replace h1 := Hd.mk h1
      replace h2 := Hd.mk h2
      replace htrue := Hd.mk htrue
      have hxz : Hd (x = if nb = true then -(x.natAbs : Int) else (x.natAbs : Int)) := ⟨hxN⟩
      clear hxN
      generalize hNN : x.natAbs = N at *
      have hst : N / 10 ^ m = 0 := Nat.div_eq_of_lt hlt
      replace hNN := Hd.mk hNN
      replace hlt := Hd.mk hlt
      replace hst := Hd.mk hst
      have hds : Hd (∀ wr, Below w1.heap.size w1 wr → m ≠ 0 → ∃ K o, A = some ⟨K, o, none⟩ ∧ ∀ i, i < m → wr.cell? ⟨K, o + i, none⟩ = some (.int .u8 ((T.dig N i : Nat) : Int))) := ⟨fun wr hb h0 => by
        obtain ⟨A', c', e, q1, q2, q3⟩ := hd1.out.below hb
        cases e
        exact q3 (by omega)⟩
      replace hd1 := Hd.mk hd1
      have hcap : m ≤ cap := by
        obtain ⟨A', c', e, q1, q2, q3⟩ := hd.out
        cases e; exact q1
      replace hcap := Hd.mk hcap
      go_enter Tryz.func9, Tryz.ntmps9
      go_upto_region 1 with fail
      rw [hw1.out]
      go_cut [15] (fun t wx => t = .bool false ∧ Hd (Below w1.heap.size w1 wx))
      case first =>
        go_region_law (first
          | (go_simp; go_at_call 33; with_reducible refine (hlo.out _).mono ?_; rintro e w3 ⟨b3, A3, m3, c3, rfl, hn3, hb3⟩; have hu3 := below_undrew hb3; have hx3 := Hd.mk (hx1.out.below hu3); have f0 := cb hu3 d0; have f1 := cb hu3 d1; have hv3 := Hd.mk hu3; have hbb3 := Hd.mk (hb1.trans (hu3.mono hb1.size)); clear hb3 hu3; replace hn3 := Hd.mk hn3)
          | (go_simp; go_at_call 18; refine (hc2.out _ _ _ hx5.out hn5.out).mono ?_; rintro e w6 ⟨rfl, hb6⟩; have hbb6 := Hd.mk (hbb5.out.trans (hb6.mono hbb5.out.size)); have hv6 := Hd.mk (hv5.out.trans (hb6.mono hv5.out.size)); clear hb6)
          | (go_simp; go_at_call 18; refine (hc1.out _ _ _ hx3.out hn3.out).mono ?_; rintro e w4 ⟨rfl, hb4⟩; have hbb4 := Hd.mk (hbb3.out.trans (hb4.mono hbb3.out.size)); have hv4 := Hd.mk (hv3.out.trans (hb4.mono hv3.out.size)); have hx4 := Hd.mk (hx3.out.below hb4); have g0 := cb hb4 f0; have g1 := cb hb4 f1; clear hb4)
          | (go_simp; go_at_call 33; refine (hhi.out _).mono ?_; rintro e w5 ⟨b5, A5, m5, c5, rfl, hn5, hb5⟩; have hx5 := Hd.mk (hx4.out.below hb5); have h0 := cb hb5 g0; have h1' := cb hb5 g1; have hbb5 := Hd.mk (hbb4.out.trans (hb5.mono hbb4.out.size)); have hv5 := Hd.mk (hv4.out.trans (hb5.mono hv4.out.size)); clear hb5; replace hn5 := Hd.mk hn5))
        all_goals
          go_wp2_with fail
          go_meet
          exact ⟨rfl, hv6⟩
      case rest =>
      obtain ⟨rfl, hv⟩ := hcut
      have e0 := cb hv.out d0
      have e1 := cb hv.out d1
      have hwm : IntKind.i64.wrap ((m : Int) - 1) = (m : Int) - 1 := IntWalk.i64_in _ (by omega)
      cases nb
      · have hNb2 := hNb rfl
        rw [if_neg (by decide)] at hxz
        go_wp2
        go_loop [4, 5] (fun n i => ∃ q : Nat, q ≤ m ∧ i = .int .i64 ((q : Int) - 1) ∧ n = .int .i64 (((N / 10 ^ q : Nat) : Int))) (fun _ i => (intOf i + 1).toNat)
        case atStart => exact ⟨m, Nat.le_refl _, rfl, by rw [hst.out]; rfl⟩
        case round =>
          obtain ⟨q, hq, rfl, rfl⟩ := hrel
          rcases Nat.eq_zero_or_pos q with hq0 | hq0
          · subst hq0
            rw [Nat.pow_zero, Nat.div_one]
            go_wp2
            go_ret2
            exact ⟨by rw [hxz.out]; rfl, hb1.trans (hv.out.mono hb1.size)⟩
          · obtain ⟨j, rfl⟩ : ∃ j, q = j + 1 := ⟨q - 1, by omega⟩
            rw [show ((j + 1 : Nat) : Int) - 1 = (j : Int) by omega]
            obtain ⟨K, o, rfl, hc⟩ := hds.out _ hv.out (by omega)
            have hcj := hc j (by omega)
            have hs := dig_step N j
            have hdl : T.dig N j < 10 := T.dig_lt N j
            have hle : N / 10 ^ j ≤ N := Nat.div_le_self _ _
            have hwj : IntKind.i64.wrap ((j : Int) - 1) = (j : Int) - 1 := IntWalk.i64_in _ (by omega)
            have hji : (0 : Int) ≤ (j : Int) := by omega
            have hjm : (j : Int) < (m : Int) := by omega
            replace hc := Hd.mk hc
            generalize N / 10 ^ (j + 1) = p at *
            generalize hP : N / 10 ^ j = P at *
            generalize T.dig N j = c0 at *
            have y1 : IntKind.i64.wrap (c0 : Int) = (c0 : Int) := IntWalk.i64_in _ (by omega)
            have y2 : IntKind.i64.wrap (10 * (p : Int)) = 10 * (p : Int) := IntWalk.i64_in _ (by omega)
            have y3 : IntKind.i64.wrap (10 * (p : Int) + (c0 : Int)) = 10 * (p : Int) + (c0 : Int) := IntWalk.i64_in _ (by omega)
            replace hs := Hd.mk hs
            replace hle := Hd.mk hle
            replace hP := Hd.mk hP
            go_wp2
            go_round
            case rel => exact ⟨j, by omega, rfl, by rw [hP.out]; congr 1; have := hs.out; omega⟩
            case measure => simp [intOf] <;> omega
      · skip
        rw [if_pos rfl] at hxz
        go_wp2
        go_loop [4, 5] (fun n i => ∃ q : Nat, q ≤ m ∧ i = .int .i64 ((q : Int) - 1) ∧ n = .int .i64 (-((N / 10 ^ q : Nat) : Int))) (fun _ i => (intOf i + 1).toNat)
        case atStart => exact ⟨m, Nat.le_refl _, rfl, by rw [hst.out]; rfl⟩
        case round =>
          obtain ⟨q, hq, rfl, rfl⟩ := hrel
          rcases Nat.eq_zero_or_pos q with hq0 | hq0
          · subst hq0
            rw [Nat.pow_zero, Nat.div_one]
            go_wp2
            go_ret2
            exact ⟨by rw [hxz.out]; rfl, hb1.trans (hv.out.mono hb1.size)⟩
          · obtain ⟨j, rfl⟩ : ∃ j, q = j + 1 := ⟨q - 1, by omega⟩
            rw [show ((j + 1 : Nat) : Int) - 1 = (j : Int) by omega]
            obtain ⟨K, o, rfl, hc⟩ := hds.out _ hv.out (by omega)
            have hcj := hc j (by omega)
            have hs := dig_step N j
            have hdl : T.dig N j < 10 := T.dig_lt N j
            have hle : N / 10 ^ j ≤ N := Nat.div_le_self _ _
            have hwj : IntKind.i64.wrap ((j : Int) - 1) = (j : Int) - 1 := IntWalk.i64_in _ (by omega)
            have hji : (0 : Int) ≤ (j : Int) := by omega
            have hjm : (j : Int) < (m : Int) := by omega
            replace hc := Hd.mk hc
            generalize N / 10 ^ (j + 1) = p at *
            generalize hP : N / 10 ^ j = P at *
            generalize T.dig N j = c0 at *
            have y1 : IntKind.i64.wrap (c0 : Int) = (c0 : Int) := IntWalk.i64_in _ (by omega)
            have y2 : IntKind.i64.wrap (10 * -(p : Int)) = -(10 * (p : Int)) := by rw [IntWalk.i64_in _ (by omega)]; omega
            have y3 : IntKind.i64.wrap (-(10 * (p : Int)) - (c0 : Int)) = -(10 * (p : Int)) - (c0 : Int) := IntWalk.i64_in _ (by omega)
            replace hs := Hd.mk hs
            replace hle := Hd.mk hle
            replace hP := Hd.mk hP
            go_wp2
            go_round
            case rel => exact ⟨j, by omega, rfl, by rw [hP.out]; congr 1; have := hs.out; omega⟩
            case measure => simp [intOf] <;> omega
end Go.Proofs.YtpabbnogfflgpaaGreatDoor
end

section
namespace Go.Proofs.YtpabbnogfflgpaaGreatDoor
open Go.RowKit
set_option maxRecDepth 100000
theorem mkT_cons48 (l : List Nat) : ByteArray.mk #[48] ++ mkT l = mkT (48 :: l) := (mkT_app [48] l).symm
theorem mkT_cons45 (l : List Nat) : ByteArray.mk #[45] ++ mkT l = mkT (45 :: l) := (mkT_app [45] l).symm
theorem mkT_dot (l : List Nat) : mkT l ++ ByteArray.mk #[46] = mkT (l ++ [46]) := (mkT_app l [46]).symm
theorem zT_nat (n : Nat) : zT (n : Int) = mkT (dtxt false n) := by unfold zT; rw [ztx_pos (Int.natCast_nonneg _), Int.natAbs_natCast]
theorem dtxt_len200 {n : Nat} (h : n < 10 ^ 200) : (dtxt false n).length ≤ 200 := by
  rw [dtxt_len]
  by_cases h0 : n = 0
  · rw [h0, dlen_small (by decide)]; omega
  · exact dlen_le_of h h0
set_option maxHeartbeats 4000000 in
theorem dectext_any (v : Value) (x : Int) (w : World) (hx : NumV w v x) (hl : x.natAbs < 10 ^ 200) :
    Calls Tryz.prog 67 #[v] w fun e w' => e = .returned (.string (mkT (decL x))) ∧ Below w.heap.size w w' := by
  obtain ⟨A, cap, rfl, -⟩ := hx.open
  have e18 : ((10 : Int) ^ 18) = ((1000000000000000000 : Nat) : Int) := by decide
  have hq9 : x.natAbs / 1000000000000000000 < 10 ^ 200 := Nat.lt_of_le_of_lt (Nat.div_le_self _ _) hl
  have hr9 : x.natAbs % 1000000000000000000 < 1000000000000000000 := Nat.mod_lt _ (by decide)
  have hwa : T.wlen x.natAbs < 900 := wl200 hl
  have hpr := Hd.mk fun w1 => nv (prec_any w1)
  have hab := Hd.mk fun w1 v1 (h1 : NumV w1 v1 x) => nv (nabs_any v1 x w1 h1)
  have hqr := Hd.mk fun w1 v1 v2 (h1 : NumV w1 v1 ((x.natAbs : Nat) : Int)) (h2 : NumV w1 v2 (10 ^ 18)) => nv2 (nquorem_any v1 v2 _ _ w1 h1 h2 (by rw [Int.natAbs_natCast]; omega) (by have := wl_10_18; omega) (by decide))
  rw [e18, ← Int.ofNat_tdiv, ← Int.ofNat_tmod] at hqr
  rw [e18] at hpr
  have htr := Hd.mk fun w1 v1 (h1 : NumV w1 v1 ((x.natAbs % 1000000000000000000 : Nat) : Int)) => text_any v1 _ w1 h1 (by rw [Int.natAbs_natCast]; exact wl200 (Nat.lt_trans hr9 (by decide)))
  have htq := Hd.mk fun w1 v1 (h1 : NumV w1 v1 ((x.natAbs / 1000000000000000000 : Nat) : Int)) => text_any v1 _ w1 h1 (by rw [Int.natAbs_natCast]; exact wl200 hq9)
  rw [zT_nat] at htr htq
  have hsg := Hd.mk fun w1 v1 (h1 : NumV w1 v1 x) => sign_any v1 x w1 h1
  have hsd : decide (sgn x < 0) = decide (x < 0) := by
    unfold sgn
    split
    · rename_i h; rw [decide_eq_true h]; rfl
    · rename_i h; rw [decide_eq_false h]; split <;> rfl
  have hdl := decL_parts x
  have hL1 := dtxt_len18 hr9
  have hL2 := dtxt_len200 hq9
  have hpad : padL (x.natAbs % 1000000000000000000) = List.replicate (18 - (dtxt false (x.natAbs % 1000000000000000000)).length) 48 ++ dtxt false (x.natAbs % 1000000000000000000) := rfl
  have hdec : decL x = (if decide (x < 0) = true then [45] else []) ++ (dtxt false (x.natAbs / 1000000000000000000) ++ [46] ++ padL (x.natAbs % 1000000000000000000)) := by rw [hdl]; by_cases h : x < 0 <;> simp [h]
  rw [hpad] at hdec
  clear hdl hpad hl hwa
  generalize decL x = dl at *
  generalize decide (x < 0) = nb at *
  generalize T.wlen x.natAbs = m at *
  generalize sgn x = sx at *
  generalize dtxt false (x.natAbs / 1000000000000000000) = tq at *
  generalize dtxt false (x.natAbs % 1000000000000000000) = tr at *
  generalize ((x.natAbs / 1000000000000000000 : Nat) : Int) = q at *
  generalize ((x.natAbs % 1000000000000000000 : Nat) : Int) = r at *
  generalize ((x.natAbs : Nat) : Int) = ax at *
  generalize ((1000000000000000000 : Nat) : Int) = X18 at *
  clear e18 hq9 hr9
  have r0 := SR.start w [(.agg #[.bool nb, .slice A m cap], x)] (fun p hp => by cases List.mem_singleton.1 hp; exact hx)
  have r1 := r0.box2 (b0 := nb) (A := A) (m := m) (c := cap)
  have hC0 : (updC (fun _ => none) w.heap.size [.bool nb, .slice A m cap]) w.heap.size = some [.bool nb, .slice A m cap] := updC_same
  generalize updC (fun _ => none) w.heap.size [.bool nb, .slice A m cap] = C1 at *
  have d0 := (r1.blk _ _ hC0).2.cell 0
  have d1 := (r1.blk _ _ hC0).2.cell 1
  simp only [List.getElem?_cons_succ, List.getElem?_cons_zero] at d0 d1
  have s1 : (w.alloc (.cells #[.bool nb, .slice A m cap] 24)).heap.size ≥ w.heap.size + 1 := by rw [World.size_alloc]; omega
  replace hC0 := Hd.mk hC0
  replace r1 := Hd.mk r1
  replace hx := Hd.mk hx
  replace hdec := Hd.mk hdec
  clear r0
  go_enter Tryz.func67, Tryz.ntmps67
  go_upto_region 1 with fail
  generalize w.alloc (.cells #[.bool nb, .slice A m cap] 24) = w1 at *
  go_upto_region 2 with (first
    | (go_at_call 27; refine (hab.out _ _ r1.out.v0).mono ?_; rintro e w2 ⟨b2, A2, m2, c2, rfl, hn2, hb2⟩; have r2 := Hd.mk ((r1.out.op hb2).add hn2); have s2 := hb2.size; clear hb2 hn2)
    | (go_at_call 12; refine (hpr.out _).mono ?_; rintro e w3 ⟨b3, A3, m3, c3, rfl, hn3, hb3⟩; have r3 := Hd.mk ((r2.out.op hb3).add hn3); have s3 := hb3.size; clear hb3 hn3)
    | (go_at_call 87; refine (hqr.out _ _ _ r3.out.v1 r3.out.v0).mono ?_; rintro e w4 ⟨b4, A4, m4, c4, b5, A5, m5, c5, rfl, hn4, hn5, hb4⟩; have r4 := Hd.mk (((r3.out.op hb4).add hn4).add hn5); have s4 := hb4.size; clear hb4 hn4 hn5))
  have r5 := Hd.mk ((r4.out.box2 (b0 := b4) (A := A4) (m := m4) (c := c4)).box2 (b0 := b5) (A := A5) (m := m5) (c := c5))
  rw [World.size_alloc] at r5
  generalize (w4.alloc (.cells #[.bool b4, .slice A4 m4 c4] 24)).alloc (.cells #[.bool b5, .slice A5 m5 c5] 24) = w5 at *
  have h3 : (updC (updC C1 w4.heap.size [.bool b4, .slice A4 m4 c4]) (w4.heap.size + 1) [.bool b5, .slice A5 m5 c5]) w4.heap.size = some [.bool b4, .slice A4 m4 c4] := by rw [updC_ne (by omega)]; exact updC_same
  have h4 : (updC (updC C1 w4.heap.size [.bool b4, .slice A4 m4 c4]) (w4.heap.size + 1) [.bool b5, .slice A5 m5 c5]) (w4.heap.size + 1) = some [.bool b5, .slice A5 m5 c5] := updC_same
  have hB : (updC (updC C1 w4.heap.size [.bool b4, .slice A4 m4 c4]) (w4.heap.size + 1) [.bool b5, .slice A5 m5 c5]) w.heap.size = some [.bool nb, .slice A m cap] := by rw [updC_ne (by omega), updC_ne (by omega)]; exact hC0.out
  replace h3 := Hd.mk h3
  replace h4 := Hd.mk h4
  replace hB := Hd.mk hB
  generalize updC (updC C1 w4.heap.size [.bool b4, .slice A4 m4 c4]) (w4.heap.size + 1) [.bool b5, .slice A5 m5 c5] = C5 at *
  clear r1 r2 r3 r4 d0 d1 hC0 hab hqr s1 s2 s3 s4
  generalize w4.heap.size = t3 at *
  refine SR.cellK r5.out h4.out ?_
  intro p0 p1 pz py pl
  go_wp2_with (go_at_call 15; refine (htr.out _ _ r5.out.v0).mono ?_; rintro e w6 ⟨rfl, hb6⟩; have r6 := Hd.mk (r5.out.op hb6); clear hb6)
  refine SR.cellK r6.out h3.out ?_
  intro f0 f1 fz fy fl
  clear p0 p1 pz py pl r5
  have hsz1 : ∀ l : List Nat, (mkT l).size = l.length := mkT_size
  replace hsz1 := Hd.mk hsz1
  go_loop [5] (fun t => ∃ k : Nat, k ≤ 18 - tr.length ∧ t = .string (mkT (List.replicate k 48 ++ tr))) (fun t => match t with | .string s => 18 - s.size | _ => 0)
  case atStart => exact ⟨0, Nat.zero_le _, rfl⟩
  case round =>
    obtain ⟨k, hk, rfl⟩ := hrel
    have hsz : (mkT (List.replicate k 48 ++ tr)).size = k + tr.length := by rw [mkT_size, List.length_append, List.length_replicate]
    have hnx : ByteArray.mk #[48] ++ mkT (List.replicate k 48 ++ tr) = mkT (List.replicate (k + 1) 48 ++ tr) := by rw [mkT_cons48, List.replicate_succ, List.cons_append]
    have hszn : (mkT (List.replicate (k + 1) 48 ++ tr)).size = k + 1 + tr.length := by rw [mkT_size, List.length_append, List.length_replicate]
    by_cases hk2 : k < 18 - tr.length
    · have hlt : decide (((k + tr.length : Nat) : Int) < 18) = true := decide_eq_true (by omega)
      have hov : ¬ (9223372036854775807 < 1 + (k + tr.length)) := by omega
      generalize mkT (List.replicate k 48 ++ tr) = sk at *
      generalize hS : mkT (List.replicate (k + 1) 48 ++ tr) = sk1 at *
      replace hS := Hd.mk hS
      go_wp2
      go_round
      case rel => exact ⟨k + 1, by omega, by rw [hS.out]⟩
      case measure => simp [hsz, hszn]; omega
    · obtain rfl : k = 18 - tr.length := by omega
      have hlt : decide (((18 - tr.length + tr.length : Nat) : Int) < 18) = false := decide_eq_false (by omega)
      have hsq : (mkT tq).size = tq.length := mkT_size _
      have hfin : mkT tq ++ ByteArray.mk #[46] ++ mkT (List.replicate (18 - tr.length) 48 ++ tr) = mkT (tq ++ [46] ++ (List.replicate (18 - tr.length) 48 ++ tr)) := by rw [mkT_dot, ← mkT_app]
      have hfs : (mkT (tq ++ [46] ++ (List.replicate (18 - tr.length) 48 ++ tr))).size ≤ 300 := by rw [mkT_size]; simp only [List.length_append, List.length_replicate, List.length_cons, List.length_nil]; omega
      have hfn : Hd (ByteArray.mk #[45] ++ mkT (tq ++ [46] ++ (List.replicate (18 - tr.length) 48 ++ tr)) = mkT (45 :: (tq ++ [46] ++ (List.replicate (18 - tr.length) 48 ++ tr)))) := ⟨mkT_cons45 _⟩
      have hd2 : Hd (mkT dl = if nb = true then ByteArray.mk #[45] ++ mkT (tq ++ [46] ++ (List.replicate (18 - tr.length) 48 ++ tr)) else mkT (tq ++ [46] ++ (List.replicate (18 - tr.length) 48 ++ tr))) := ⟨by rw [hdec.out]; cases nb <;> simp [mkT_cons45]⟩
      generalize mkT (List.replicate (18 - tr.length) 48 ++ tr) = sr at *
      generalize mkT (tq ++ [46] ++ (List.replicate (18 - tr.length) 48 ++ tr)) = sf at *
      generalize mkT tq = sq at *
      have hov1 : ¬ (9223372036854775807 < sq.size + 1) := by omega
      have hov2 : ¬ (9223372036854775807 < (sq ++ ByteArray.mk #[46]).size + sr.size) := by rw [ByteArray.size_append]; show ¬ _ < sq.size + 1 + _; omega
      have hov3 : ¬ (9223372036854775807 < 1 + sf.size) := by omega
      have hov2' : ¬ (9223372036854775807 < (sq ++ ByteArray.mk #[46]).size + (18 - tr.length + tr.length)) := by rw [← hsz]; exact hov2
      have hnum : NumV w6 (.agg #[.bool b4, .slice A4 m4 c4]) q := r6.out.v1
      replace hnum := Hd.mk hnum
      cases nb
      all_goals
        go_wp2_with (first
          | (go_at_call 15; refine (htq.out _ _ hnum.out).mono ?_; rintro e w7 ⟨rfl, hb7⟩; have r7 := Hd.mk (r6.out.op hb7); clear hb7; refine SR.cellK r7.out hB.out ?_; intro g0 g1 gz gy gl)
          | (go_at_call 25; refine (hsg.out _ _ (r7.out.num _ (.tail _ (.tail _ (.tail _ (.tail _ (.head _))))))).mono ?_; rintro e w8 ⟨rfl, hb8⟩; have r8 := Hd.mk (r7.out.op hb8); clear hb8))
        go_ret
        exact ⟨by rw [hd2.out]; rfl, r8.out.bel⟩
end Go.Proofs.YtpabbnogfflgpaaGreatDoor
end

section
namespace Go.Proofs.YtpabbnogfflgpaaGreatDoor
open Go.RowKit
set_option maxRecDepth 100000
theorem inR_of {x : Int} (h1 : -lim ≤ x) (h2 : x ≤ lim) : inR x = true := decide_eq_true ⟨h1, h2⟩
theorem most_lim : mostZ = lim := by decide
/-- A text of parts of at most a quarter of the range. -/
def Qr (s : ByteArray) : Prop := ∃ x : Int, s = zT x ∧ ((x * 4).natAbs : Int) ≤ lim
theorem num_open2 {w : World} {b : Bool} {A : Option Addr} {n c : Nat} {x : Int} (h : NumV w (.agg #[.bool b, .slice A n c]) x) : n = T.wlen x.natAbs := by
  obtain ⟨A', cap, e, _⟩ := h.open
  cases e; rfl
theorem wlq {x : Int} (h : (x.natAbs : Int) ≤ lim) : T.wlen x.natAbs < 200 := by
  have hl : (lim.natAbs : Int) = lim := by decide
  have : x.natAbs ≤ lim.natAbs := by omega
  have h2 := T.wlen_mono this
  have h3 : T.wlen lim.natAbs < 200 := by rw [← most_lim]; exact wl_most
  omega
theorem w4 : T.wlen (4 : Int).natAbs < 100 := Nat.lt_of_le_of_lt (T.wlen_le (n := 20) (by unfold T.BB; decide)) (by decide)
theorem w4x {x : Int} (h : (x.natAbs : Int) ≤ lim) : T.wlen (x * 4).natAbs < 900 := by
  have h1 : (x * 4).natAbs < 10 ^ 200 := by
    rw [Int.natAbs_mul]
    have hl : lim.toNat < 10 ^ 100 := by decide
    have : x.natAbs < 10 ^ 100 := by omega
    calc x.natAbs * Int.natAbs 4 ≤ 10 ^ 100 * 4 := Nat.mul_le_mul (Nat.le_of_lt this) (Nat.le_refl _)
      _ < 10 ^ 200 := by decide
  exact Nat.lt_of_le_of_lt (T.wlen_le (n := 200) (Nat.lt_of_lt_of_le h1 (by unfold T.BB; decide))) (by decide)
end Go.Proofs.YtpabbnogfflgpaaGreatDoor
end
