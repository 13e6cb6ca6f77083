/- Decimals: the text. Conditions: those that each theorem states. -/
import Derived.Laws.CopyOwn
import Derived.StillTailTactics
import Derived.Deep.DeepCutAuto
import Derived.Test.YtdbjdpooggaonaaGreatDoorBase25
import Derived.Test.YtdbjdpooggaonaaGreatDoorBase13
import Derived.Test.YtdbjdpooggaonaaGreatDoorBase21
set_option linter.all false

namespace Go.Proofs.YtdbjdpooggaonaaGreatDoor
open Go.RowKit
set_option maxRecDepth 100000
/-- A text's digits with a point ahead of the last eighteen. -/
def ptL (t : List Nat) : List Nat := if t.length ≤ 18 then [48, 46] ++ List.replicate (18 - t.length) 48 ++ t else t.take (t.length - 18) ++ [46] ++ t.drop (t.length - 18)
/-- A decimal's text. -/
def decL (x : Int) : List Nat := (if x < 0 then [45] else []) ++ ptL (dtxt false x.natAbs)
theorem txtV_app (s t : List Nat) : txtV (s ++ t) = txtV s ++ txtV t := by unfold txtV; rw [List.map_append]
theorem txtV_len (t : List Nat) : (txtV t).length = t.length := by unfold txtV; rw [List.length_map]
theorem blk_txt {w : World} {g : Nat} {T : TypeId} {t : List Nat} (h : Blk w g T (txtV t)) : TxtAt w g 0 t := fun j c hj => by
  rw [Nat.zero_add, h.cell]; unfold txtV; rw [List.getElem?_map, hj]; rfl
theorem txt_cells {w : World} {S i : Nat} {t : List Nat} (h : TxtAt w S i t) : ∀ j v, (txtV t)[j]? = some v → w.cell? ((⟨S, i, none⟩ : Addr).add j) = some v := fun j v hv => by
  unfold txtV at hv
  rw [List.getElem?_map] at hv
  cases hj : t[j]? with
  | none => rw [hj] at hv; cases hv
  | some c => rw [hj] at hv; cases hv; rw [Addr.add_lit]; exact h j c hj
theorem txt_sub {w : World} {S i : Nat} {t : List Nat} (h : TxtAt w S i t) (k : Nat) : TxtAt w S (i + k) (t.drop k) := fun j c hj => by
  rw [List.getElem?_drop] at hj; rw [Nat.add_assoc]; exact h _ c hj
theorem txt_take {w : World} {S i : Nat} {t : List Nat} (h : TxtAt w S i t) (k : Nat) : TxtAt w S i (t.take k) := fun j c hj => by
  rw [List.getElem?_take] at hj
  split at hj
  · exact h j c hj
  · cases hj
theorem txt_below {w w' : World} {S i : Nat} {t : List Nat} (h : TxtAt w S i t) (hb : Below w.heap.size w w') : TxtAt w' S i t := fun j c hj => cb' hb (h j c hj)
theorem txtV_one (t : List Nat) : ∀ v ∈ txtV t, v.oneCell' = true := fun v hv => by unfold txtV at hv; obtain ⟨_, _, rfl⟩ := List.mem_map.1 hv; rfl
theorem u8sz : (Tryz.prog.info? 5).map (·.size) = some 1 := by kernel_rfl
theorem mkT_app (s t : List Nat) : mkT (s ++ t) = mkT s ++ mkT t := by
  apply ByteArray.ext
  unfold mkT
  rw [ByteArray.data_append]
  simp
/-- The row of a small decimal's text while it grows. -/
def pre0 (k : Nat) : List Value := txtV ([48, 46] ++ List.replicate k 48) ++ List.replicate (18 - k) (Value.int .u8 0)
theorem pre0_len (k : Nat) (h : k ≤ 18) : (pre0 k).length = 20 := by unfold pre0; rw [List.length_append, txtV_len, List.length_append, List.length_replicate, List.length_replicate]; simp; omega
theorem pre0_set (k : Nat) (h : k < 18) : (pre0 k).set (k + 2) (.int .u8 48) = pre0 (k + 1) := by
  unfold pre0
  obtain ⟨m, hm⟩ : ∃ m, 18 - k = m + 1 := ⟨17 - k, by omega⟩
  rw [List.set_append_right _ _ (by rw [txtV_len, List.length_append, List.length_replicate]; simp; omega), hm, List.replicate_succ, show k + 2 - (txtV ([48, 46] ++ List.replicate k 48)).length = 0 by rw [txtV_len, List.length_append, List.length_replicate]; simp; omega, List.set_cons_zero, show 18 - (k + 1) = m by omega, List.replicate_succ', ← List.append_assoc, txtV_app _ [48]]
  rw [List.append_assoc]; rfl
theorem small_splice (t : List Nat) (h : t.length ≤ 18) : splice (pre0 (18 - t.length)) (20 - t.length) (txtV t) = txtV ([48, 46] ++ List.replicate (18 - t.length) 48 ++ t) := by
  have hl : (txtV ([48, 46] ++ List.replicate (18 - t.length) 48)).length = 20 - t.length := by rw [txtV_len, List.length_append, List.length_replicate]; simp; omega
  unfold splice pre0
  rw [List.take_append_of_le_length (by omega), List.take_of_length_le (by omega), List.drop_eq_nil_of_le (by rw [List.length_append, hl, txtV_len, List.length_replicate]; omega), List.append_nil, txtV_app _ t]
theorem big_splice (t : List Nat) (h : 18 < t.length) : splice ((splice (List.replicate (t.length + 1) (Value.int .u8 0)) 0 (txtV (t.take (t.length - 18)))).set (t.length - 18) (.int .u8 46)) (t.length - 18 + 1) (txtV (t.drop (t.length - 18))) = txtV (t.take (t.length - 18) ++ [46] ++ t.drop (t.length - 18)) := by
  have h1 : (txtV (t.take (t.length - 18))).length = t.length - 18 := by rw [txtV_len, List.length_take]; omega
  have h2 : (txtV (t.drop (t.length - 18))).length = 18 := by rw [txtV_len, List.length_drop]; omega
  rw [txtV_app, txtV_app]
  generalize txtV (t.take (t.length - 18)) = X1 at *
  generalize txtV (t.drop (t.length - 18)) = X2 at *
  generalize t.length = n at *
  have e1 : splice (List.replicate (n + 1) (Value.int .u8 0)) 0 X1 = X1 ++ List.replicate 19 (Value.int .u8 0) := by
    unfold splice
    rw [List.take_zero, List.nil_append, h1, List.drop_replicate, show n + 1 - (0 + (n - 18)) = 19 by omega]
  rw [e1, List.set_append_right _ _ (by omega), show n - 18 - X1.length = 0 by omega]
  have e2 : (List.replicate 19 (Value.int .u8 0)).set 0 (.int .u8 46) = txtV [46] ++ List.replicate 18 (Value.int .u8 0) := rfl
  rw [e2, ← List.append_assoc]
  have hl : (X1 ++ txtV [46]).length = n - 18 + 1 := by rw [List.length_append, h1]; rfl
  unfold splice
  rw [List.take_append_of_le_length (by omega), List.take_of_length_le (by omega), List.drop_eq_nil_of_le (by rw [List.length_append, hl, h2, List.length_replicate]; omega), List.append_nil]
set_option maxHeartbeats 4000000 in
theorem dString_any (P : Nat → Prop) (bd : Nat) (x : Int) (S : Nat → Option Int) (w : World) (hI : Ints P w S) (hx : S bd = some x) (hw : wlen x.natAbs ≤ 8) :
    Calls Tryz.prog 80 #[.agg #[ptr bd]] w fun e w' => e = .returned (.string (mkT (decL x))) ∧ Keep P w w' ∧ Ints P w' S := by
  have r0 := Hd.mk (Run.start hI)
  have hlo := Hd.mk hI.low
  have hl := hI.lt hx
  clear hI
  have r1 := Hd.mk (r0.out.box #[ptr bd] 68)
  clear r0
  have hneg := Hd.mk (dIsNeg_any _ bd x _ _ r1.out.ints hx)
  have hmt := Hd.mk fun (Q : Nat → Prop) B S1 w1 z (h : Ints Q w1 S1) (h1 : S1 B = some z) (hz : z.natAbs = x.natAbs) (h0 : 0 ≤ z) => (IMarshal_any Q B z S1 w1 h h1 (by rw [hz]; exact hw))
  have hzt : Hd (∀ z : Int, z.natAbs = x.natAbs → 0 ≤ z → ztx z = dtxt false x.natAbs) := ⟨fun z h1 h2 => by rw [ztx_pos h2, h1]⟩
  have hdn := Hd.mk fun (Q : Nat → Prop) S1 w1 (h : Ints Q w1 S1) (h1 : S1 bd = some x) => dNeg_any Q bd x S1 w1 h h1 (by omega)
  replace hx := Hd.mk hx
  go_enter Tryz.func80, Tryz.ntmps80
  by_cases hn : x < 0
  · rw [decide_eq_true hn] at hneg
    go_upto_region 9 with (first
      | (go_at_call 83; refine hneg.out.mono ?_; rintro e w2 ⟨rfl, hk2, hI2⟩; have r2 := Hd.mk (r1.out.op hk2 hI2); clear hk2 hI2; obtain ⟨c2, c2z, c2l⟩ := r2.out.cell (b := w.heap.size) updX_same)
      | (go_at_call 166; refine (hdn.out _ _ _ r2.out.ints hx.out).mono ?_; rintro e w3 ⟨B3, rfl, g3, hk3, hI3⟩; have r3 := Hd.mk (r2.out.op hk3 hI3); clear hk3 hI3; obtain ⟨c3, c3z, c3l⟩ := r3.out.cell (b := w.heap.size) updX_same; have r4 := Hd.mk (r3.out.set1 (b := w.heap.size) (v' := ptr B3) updX_same))
      | (go_at_call 167; refine (hmt.out _ B3 _ _ (-x) r4.out.ints upd_same (by omega) (by omega)).mono ?_; rintro e w5 ⟨g, cap, rfl, q1, q2, q3, q4⟩; have r5 := Hd.mk (r4.out.below q4); rw [hzt.out (-x) (by omega) (by omega)] at q1 q2 ⊢))
    have hfin : Hd (∀ w', Below w5.heap.size w5 w' → Keep P w w' ∧ Ints P w' S) := ⟨fun w' hb => by
      have r6 := r5.out.below hb
      exact ⟨r6.fin.1, r6.fin.2.sub fun k z hk => by
        have hkl := hlo.out.lt hk
        rw [upd_ne (by have := r2.out.ge; omega)]
        exact hk⟩⟩
    clear r5 r4 r3 r2
    have hsg : Hd (decL x = [45] ++ ptL (dtxt false x.natAbs)) := ⟨by unfold decL; rw [if_pos hn]⟩
    clear hneg hmt hdn hzt q3 q4
    have ht0 := dlen_pos x.natAbs
    rw [← dtxt_len] at ht0
    have hlen0 : Hd ((dtxt false x.natAbs).length ≤ 1000) := ⟨by
      have h1 : x.natAbs < 10 ^ 170 := Nat.lt_of_lt_of_le ((wlen_le_iff 8 _).1 hw) (by decide)
      rw [dtxt_len]
      by_cases h0 : x.natAbs = 0
      · rw [h0, dlen_small (by decide)]; omega
      · have := dlen_le_of h1 h0; omega⟩
    have htD : ∀ c, c ∈ dtxt false x.natAbs → c < 256 := fun c hc => dtxt_lt hc
    have hwl := hw
    generalize dtxt false x.natAbs = t at *
    replace htD := Hd.mk htD
    replace q2 := Hd.mk q2
    replace hn := Hd.mk hn
    by_cases h18 : t.length ≤ 18
    · have hpt : Hd (ptL t = [48, 46] ++ List.replicate (18 - t.length) 48 ++ t) := ⟨by unfold ptL; rw [if_pos h18]⟩
      have hmk := run_mkb 20 (by omega) w5
      have hb6 := Blk.new w5 (madeCells #[.int .u8 0] 20) 5
      rw [toList_madeCells_one] at hb6
      have hbel6 : Below w5.heap.size w5 (w5.alloc (.cells (madeCells #[.int .u8 0] 20) 5)) := (Below.refl _ _).alloc (Nat.le_refl _) _
      rw [show ((20 : Nat) : Int) = 20 from rfl] at hmk
      generalize w5.alloc (.cells (madeCells #[.int .u8 0] 20) 5) = w6 at hmk hb6 hbel6
      have c60 : w6.cell? ⟨w5.heap.size, 0, none⟩ = some (.int .u8 0) := hb6.cell 0
      have c61 : w6.cell? ⟨w5.heap.size, 1, none⟩ = some (.int .u8 0) := hb6.cell 1
      have z60 := hb6.frozen 0
      have z61 := hb6.frozen 1
      have hb7 := Hd.mk (show Blk ((w6.setCell ⟨w5.heap.size, 0, none⟩ (.int .u8 48)).setCell ⟨w5.heap.size, 1, none⟩ (.int .u8 46)) w5.heap.size 5 (pre0 0) from (hb6.set 0 (.int .u8 48)).set 1 (.int .u8 46))
      have hbel7 := Hd.mk ((hbel6.setCell (p := ⟨w5.heap.size, 0, none⟩) (Nat.le_refl _) (.int .u8 48)).setCell (p := ⟨w5.heap.size, 1, none⟩) (Nat.le_refl _) (.int .u8 46))
      have hle : decide ((t.length : Int) ≤ 18) = true := decide_eq_true (by omega)
      have hw18 : IntKind.i64.wrap (18 - (t.length : Int)) = ((18 - t.length : Nat) : Int) := by rw [IntWalk.i64_in _ (by omega)]; omega
      replace hb6 := Hd.mk hb6
      replace hbel6 := Hd.mk hbel6
      go_wp2
      go_loopw [8] (fun i wr => ∃ k : Nat, k ≤ 18 - t.length ∧ i = .int .i64 k ∧ Hd (Blk wr w5.heap.size 5 (pre0 k)) ∧ Hd (Below w5.heap.size w5 wr)) (fun i _ => 18 - (intOf i).toNat)
      case atStart => exact ⟨0, Nat.zero_le _, rfl, hb7, hbel7⟩
      case round =>
        obtain ⟨k, hk, rfl, hblk, hbel⟩ := hrel
        by_cases hk2 : k < 18 - t.length
        · have hlt : decide ((k : Int) < ((18 - t.length : Nat) : Int)) = true := decide_eq_true (by omega)
          have hwk : IntKind.i64.wrap ((k : Int) + 2) = ((k + 2 : Nat) : Int) := by rw [IntWalk.i64_in _ (by omega)]; omega
          have hwk1 : IntKind.i64.wrap ((k : Int) + 1) = (k : Int) + 1 := IntWalk.i64_in _ (by omega)
          have hlen := pre0_len k (by omega)
          have hcell := hblk.out.cell (k + 2)
          rw [List.getElem?_eq_getElem (by omega)] at hcell
          have hfr := hblk.out.frozen (k + 2)
          have hi1 : (0 : Int) ≤ ((k + 2 : Nat) : Int) := by omega
          have hi2 : ((k + 2 : Nat) : Int) < 20 := by omega
          have htn : (((k + 2 : Nat) : Int)).toNat = k + 2 := by omega
          generalize (pre0 k)[k + 2] = v0 at hcell
          go_wp2
          go_roundw
          case rel => exact ⟨k + 1, by omega, by rw [Int.natCast_succ], ⟨by have := hblk.out.set (k + 2) (.int .u8 48); rwa [pre0_set k (by omega)] at this⟩, ⟨hbel.out.setCell (p := ⟨w5.heap.size, k + 2, none⟩) (Nat.le_refl _) _⟩⟩
          case measure => simp [intOf]; omega
        · obtain rfl : k = 18 - t.length := by omega
          have hlt : decide (((18 - t.length : Nat) : Int) < ((18 - t.length : Nat) : Int)) = false := decide_eq_false (by omega)
          have hw20 : IntKind.i64.wrap (2 + ((18 - t.length : Nat) : Int)) = ((20 - t.length : Nat) : Int) := by rw [IntWalk.i64_in _ (by omega)]; omega
          have hi1 : (0 : Int) ≤ ((20 - t.length : Nat) : Int) := by omega
          have hi2 : ((20 - t.length : Nat) : Int) ≤ 20 := by omega
          have htn : (((20 - t.length : Nat) : Int)).toNat = 20 - t.length := by omega
          have hov : ¬ (9223372036854775807 < 1 + (mkT (ptL t)).size) := by rw [mkT_size, hpt.out]; simp only [List.length_append, List.length_replicate, List.length_cons, List.length_nil]; omega
          go_wp2_with (refine wpList_copy_splice rfl (.tmp 52) (.tmp 53) 22 22 rfl 5 Tryz.underlying22 u8sz _ _ _ _ _ _ rfl rfl w5.heap.size (20 - t.length) (pre0 (18 - t.length)) 5 hblk.out (txtV t) (by rw [txtV_len]; show t.length = min t.length _; omega) (fun _ => ⟨rfl, _, rfl, txt_cells (txt_below q2.out hbel.out)⟩) (by rw [pre0_len _ (by omega), txtV_len]; omega) (txtV_one t) w5.heap.size w5 hbel.out (Nat.le_refl _) ?_; intro w8 hg8 hb8; have hT : Blk w8 w5.heap.size 5 (txtV (ptL t)) := (by rw [hpt.out, ← small_splice t h18]; exact hg8); have hcv := txt_conv (blk_txt hT) (l := 20) (by rw [hpt.out]; simp only [List.length_append, List.length_replicate, List.length_cons, List.length_nil]; omega) 20; clear hg8; replace hT := Hd.mk hT; replace hb8 := Hd.mk hb8)
          go_ret
          exact ⟨by rw [hsg.out]; first | rfl | (rw [mkT_app]; rfl), hfin.out _ hb8.out⟩
    · have hpt : Hd (ptL t = t.take (t.length - 18) ++ [46] ++ t.drop (t.length - 18)) := ⟨by unfold ptL; rw [if_neg h18]⟩
      have hlB : t.length ≤ 1000 := hlen0.out
      have hmk := run_mkb (t.length + 1) (by omega) w5
      have hb6 := Blk.new w5 (madeCells #[.int .u8 0] (t.length + 1)) 5
      rw [toList_madeCells_one] at hb6
      have hbel6 : Below w5.heap.size w5 (w5.alloc (.cells (madeCells #[.int .u8 0] (t.length + 1)) 5)) := (Below.refl _ _).alloc (Nat.le_refl _) _
      rw [show ((t.length + 1 : Nat) : Int) = (t.length : Int) + 1 by omega] at hmk
      generalize w5.alloc (.cells (madeCells #[.int .u8 0] (t.length + 1)) 5) = w6 at hmk hb6 hbel6
      have hle : decide ((t.length : Int) ≤ 18) = false := decide_eq_false (by omega)
      have hwn1 : IntKind.i64.wrap ((t.length : Int) + 1) = (t.length : Int) + 1 := IntWalk.i64_in _ (by omega)
      have hwd : IntKind.i64.wrap ((t.length : Int) - 18) = ((t.length - 18 : Nat) : Int) := by rw [IntWalk.i64_in _ (by omega)]; omega
      have hwd1 : IntKind.i64.wrap (((t.length - 18 : Nat) : Int) + 1) = ((t.length - 18 + 1 : Nat) : Int) := by rw [IntWalk.i64_in _ (by omega)]; omega
      have e1 : (0 : Int) ≤ ((t.length - 18 : Nat) : Int) := by omega
      have e2 : ((t.length - 18 : Nat) : Int) ≤ (cap : Int) := by omega
      have e3 : ((t.length - 18 : Nat) : Int) < (t.length : Int) + 1 := by omega
      have e4 : ((t.length - 18 + 1 : Nat) : Int) ≤ (t.length : Int) + 1 := by omega
      have e5 : (0 : Int) ≤ ((t.length - 18 + 1 : Nat) : Int) := by omega
      have e6 : ((t.length - 18 : Nat) : Int) ≤ (t.length : Int) := by omega
      have e7 : (0 : Int) ≤ ((t.length - 18 : Nat) : Int) + 1 := by omega
      have e8 : ¬ (t.length = t.length - 18) := by omega
      have e9 : ¬ (cap = t.length - 18) := by omega
      have e3' : ((t.length - 18 : Nat) : Int) < ((t.length + 1 : Nat) : Int) := by omega
      have e4' : ((t.length - 18 + 1 : Nat) : Int) ≤ ((t.length + 1 : Nat) : Int) := by omega
      have hl1 : (txtV (t.take (t.length - 18))).length = t.length - 18 := by rw [txtV_len, List.length_take]; omega
      have hl2 : (txtV (t.drop (t.length - 18))).length = 18 := by rw [txtV_len, List.length_drop]; omega
      have hbs := Hd.mk (big_splice t (by omega))
      have hov : ¬ (9223372036854775807 < 1 + (mkT (ptL t)).size) := by rw [mkT_size, hpt.out]; simp only [List.length_append, List.length_take, List.length_drop, List.length_cons, List.length_nil]; omega
      have hptl : Hd (t.length + 1 = (ptL t).length) := ⟨by rw [hpt.out]; simp only [List.length_append, List.length_take, List.length_drop, List.length_cons, List.length_nil]; omega⟩
      have hx1 := Hd.mk (txt_cells (txt_take q2.out (t.length - 18)))
      have hx2 : Hd (∀ w', Below w5.heap.size w5 w' → ∀ j v, (txtV (t.drop (t.length - 18)))[j]? = some v → w'.cell? ((⟨g, t.length - 18, none⟩ : Addr).add j) = some v) := ⟨fun w' hb => by have := txt_cells (txt_sub (txt_below q2.out hb) (t.length - 18)); rwa [Nat.zero_add] at this⟩
      obtain ⟨X1, hX1⟩ : ∃ X1, X1 = txtV (t.take (t.length - 18)) := ⟨_, rfl⟩
      obtain ⟨X2, hX2⟩ : ∃ X2, X2 = txtV (t.drop (t.length - 18)) := ⟨_, rfl⟩
      have hX1o : ∀ v ∈ X1, v.oneCell' = true := hX1 ▸ txtV_one _
      have hX2o : ∀ v ∈ X2, v.oneCell' = true := hX2 ▸ txtV_one _
      rw [← hX1] at hbs hl1 hx1
      rw [← hX2] at hbs hl2 hx2
      replace hX1 := Hd.mk hX1
      replace hX2 := Hd.mk hX2
      replace hX1o := Hd.mk hX1o
      replace hX2o := Hd.mk hX2o
      replace hl1 := Hd.mk hl1
      replace hl2 := Hd.mk hl2
      have hzl : (List.replicate (t.length + 1) (Value.int .u8 0)).length = t.length + 1 := List.length_replicate
      generalize List.replicate (t.length + 1) (Value.int .u8 0) = Z at *
      replace hb6 := Hd.mk hb6
      replace hbel6 := Hd.mk hbel6
      replace hzl := Hd.mk hzl
      go_upto_region 24 with (refine wpList_copy_splice rfl (.tmp 60) (.tmp 63) 22 22 rfl 5 Tryz.underlying22 u8sz _ _ _ _ _ _ rfl rfl w5.heap.size 0 Z 5 hb6.out X1 (by rw [hl1.out]; show t.length - 18 = min (t.length - 18) _; omega) (fun _ => ⟨rfl, _, rfl, fun j v hv => cb' hbel6.out (hx1.out j v hv)⟩) (by rw [hl1.out, hzl.out]; omega) hX1o.out w5.heap.size w5 hbel6.out (Nat.le_refl _) ?_; intro w7 hg7 hb7; have hlen7 := length_splice Z 0 X1 (by rw [hl1.out, hzl.out]; omega); have hblk7 := Hd.mk (show Blk w7 w5.heap.size 5 (splice Z 0 X1) from hg7); rw [hzl.out] at hlen7; have hc7 := hblk7.out.cell (t.length - 18); rw [List.getElem?_eq_getElem (by omega)] at hc7; have hz7 := hblk7.out.frozen (t.length - 18); clear hg7; replace hb7 := Hd.mk hb7; replace hlen7 := Hd.mk hlen7)
      have hblk8 := hblk7.out.set (t.length - 18) (.int .u8 46)
      have hb8 := hb7.out.setCell (p := ⟨w5.heap.size, t.length - 18, none⟩) (Nat.le_refl _) (.int .u8 46)
      generalize w7.setCell ⟨w5.heap.size, t.length - 18, none⟩ (.int .u8 46) = w8 at *
      have hlen8 : ((splice Z 0 X1).set (t.length - 18) (.int .u8 46)).length = t.length + 1 := by rw [List.length_set]; exact hlen7.out
      generalize (splice Z 0 X1).set (t.length - 18) (.int .u8 46) = Z8 at *
      replace hblk8 := Hd.mk hblk8
      replace hb8 := Hd.mk hb8
      replace hlen8 := Hd.mk hlen8
      clear hblk7 hc7 hz7 hlen7 hb7 hmk hb6 hbel6 hzl
      go_still_tail 7, (by kernel_rfl)
      change wpList _ _ _ _ _ w8.drew
      go_wp2_with (refine wpList_copy_splice rfl (.tmp 71) (.tmp 74) 22 22 rfl 5 Tryz.underlying22 u8sz _ _ _ _ _ _ rfl rfl w5.heap.size (t.length - 18 + 1) Z8 5 hblk8.out.drew X2 (by rw [hl2.out]; show 18 = min _ _; omega) (fun _ => ⟨rfl, _, rfl, fun j v hv => (hx2.out w8.drew (below_drew' hb8.out) j v hv)⟩) (by rw [hl2.out, hlen8.out]; omega) hX2o.out w5.heap.size w5 (below_drew' hb8.out) (Nat.le_refl _) ?_; intro w9 hg9 hb9; have hT : Blk w9 w5.heap.size 5 (txtV (ptL t)) := (by rw [hpt.out, ← hbs.out]; exact hg9); have hcv := txt_conv (blk_txt hT) hptl.out (t.length + 1); clear hg9; replace hT := Hd.mk hT; replace hb9 := Hd.mk hb9)
      go_ret
      exact ⟨by rw [hsg.out]; first | rfl | (rw [mkT_app]; rfl), hfin.out _ hb9.out⟩
  · rw [decide_eq_false hn] at hneg
    go_upto_region 9 with (first
      | (go_at_call 83; refine hneg.out.mono ?_; rintro e w2 ⟨rfl, hk2, hI2⟩; have r2 := Hd.mk (r1.out.op hk2 hI2); clear hk2 hI2; obtain ⟨c2, c2z, c2l⟩ := r2.out.cell (b := w.heap.size) updX_same)
      | (go_at_call 167; refine (hmt.out _ bd _ _ x r2.out.ints hx.out rfl (by omega)).mono ?_; rintro e w5 ⟨g, cap, rfl, q1, q2, q3, q4⟩; have r5 := Hd.mk (r2.out.below q4); rw [hzt.out x rfl (by omega)] at q1 q2 ⊢))
    have hfin : Hd (∀ w', Below w5.heap.size w5 w' → Keep P w w' ∧ Ints P w' S) := ⟨fun w' hb => by
      have r6 := r5.out.below hb
      exact ⟨r6.fin.1, r6.fin.2⟩⟩
    clear r5 r2
    have hsg : Hd (decL x = ptL (dtxt false x.natAbs)) := ⟨by unfold decL; rw [if_neg (by omega)]; rfl⟩
    clear hneg hmt hdn hzt q3 q4
    have ht0 := dlen_pos x.natAbs
    rw [← dtxt_len] at ht0
    have hlen0 : Hd ((dtxt false x.natAbs).length ≤ 1000) := ⟨by
      have h1 : x.natAbs < 10 ^ 170 := Nat.lt_of_lt_of_le ((wlen_le_iff 8 _).1 hw) (by decide)
      rw [dtxt_len]
      by_cases h0 : x.natAbs = 0
      · rw [h0, dlen_small (by decide)]; omega
      · have := dlen_le_of h1 h0; omega⟩
    have htD : ∀ c, c ∈ dtxt false x.natAbs → c < 256 := fun c hc => dtxt_lt hc
    have hwl := hw
    generalize dtxt false x.natAbs = t at *
    replace htD := Hd.mk htD
    replace q2 := Hd.mk q2
    replace hn := Hd.mk hn
    by_cases h18 : t.length ≤ 18
    · have hpt : Hd (ptL t = [48, 46] ++ List.replicate (18 - t.length) 48 ++ t) := ⟨by unfold ptL; rw [if_pos h18]⟩
      have hmk := run_mkb 20 (by omega) w5
      have hb6 := Blk.new w5 (madeCells #[.int .u8 0] 20) 5
      rw [toList_madeCells_one] at hb6
      have hbel6 : Below w5.heap.size w5 (w5.alloc (.cells (madeCells #[.int .u8 0] 20) 5)) := (Below.refl _ _).alloc (Nat.le_refl _) _
      rw [show ((20 : Nat) : Int) = 20 from rfl] at hmk
      generalize w5.alloc (.cells (madeCells #[.int .u8 0] 20) 5) = w6 at hmk hb6 hbel6
      have c60 : w6.cell? ⟨w5.heap.size, 0, none⟩ = some (.int .u8 0) := hb6.cell 0
      have c61 : w6.cell? ⟨w5.heap.size, 1, none⟩ = some (.int .u8 0) := hb6.cell 1
      have z60 := hb6.frozen 0
      have z61 := hb6.frozen 1
      have hb7 := Hd.mk (show Blk ((w6.setCell ⟨w5.heap.size, 0, none⟩ (.int .u8 48)).setCell ⟨w5.heap.size, 1, none⟩ (.int .u8 46)) w5.heap.size 5 (pre0 0) from (hb6.set 0 (.int .u8 48)).set 1 (.int .u8 46))
      have hbel7 := Hd.mk ((hbel6.setCell (p := ⟨w5.heap.size, 0, none⟩) (Nat.le_refl _) (.int .u8 48)).setCell (p := ⟨w5.heap.size, 1, none⟩) (Nat.le_refl _) (.int .u8 46))
      have hle : decide ((t.length : Int) ≤ 18) = true := decide_eq_true (by omega)
      have hw18 : IntKind.i64.wrap (18 - (t.length : Int)) = ((18 - t.length : Nat) : Int) := by rw [IntWalk.i64_in _ (by omega)]; omega
      replace hb6 := Hd.mk hb6
      replace hbel6 := Hd.mk hbel6
      go_wp2
      go_loopw [8] (fun i wr => ∃ k : Nat, k ≤ 18 - t.length ∧ i = .int .i64 k ∧ Hd (Blk wr w5.heap.size 5 (pre0 k)) ∧ Hd (Below w5.heap.size w5 wr)) (fun i _ => 18 - (intOf i).toNat)
      case atStart => exact ⟨0, Nat.zero_le _, rfl, hb7, hbel7⟩
      case round =>
        obtain ⟨k, hk, rfl, hblk, hbel⟩ := hrel
        by_cases hk2 : k < 18 - t.length
        · have hlt : decide ((k : Int) < ((18 - t.length : Nat) : Int)) = true := decide_eq_true (by omega)
          have hwk : IntKind.i64.wrap ((k : Int) + 2) = ((k + 2 : Nat) : Int) := by rw [IntWalk.i64_in _ (by omega)]; omega
          have hwk1 : IntKind.i64.wrap ((k : Int) + 1) = (k : Int) + 1 := IntWalk.i64_in _ (by omega)
          have hlen := pre0_len k (by omega)
          have hcell := hblk.out.cell (k + 2)
          rw [List.getElem?_eq_getElem (by omega)] at hcell
          have hfr := hblk.out.frozen (k + 2)
          have hi1 : (0 : Int) ≤ ((k + 2 : Nat) : Int) := by omega
          have hi2 : ((k + 2 : Nat) : Int) < 20 := by omega
          have htn : (((k + 2 : Nat) : Int)).toNat = k + 2 := by omega
          generalize (pre0 k)[k + 2] = v0 at hcell
          go_wp2
          go_roundw
          case rel => exact ⟨k + 1, by omega, by rw [Int.natCast_succ], ⟨by have := hblk.out.set (k + 2) (.int .u8 48); rwa [pre0_set k (by omega)] at this⟩, ⟨hbel.out.setCell (p := ⟨w5.heap.size, k + 2, none⟩) (Nat.le_refl _) _⟩⟩
          case measure => simp [intOf]; omega
        · obtain rfl : k = 18 - t.length := by omega
          have hlt : decide (((18 - t.length : Nat) : Int) < ((18 - t.length : Nat) : Int)) = false := decide_eq_false (by omega)
          have hw20 : IntKind.i64.wrap (2 + ((18 - t.length : Nat) : Int)) = ((20 - t.length : Nat) : Int) := by rw [IntWalk.i64_in _ (by omega)]; omega
          have hi1 : (0 : Int) ≤ ((20 - t.length : Nat) : Int) := by omega
          have hi2 : ((20 - t.length : Nat) : Int) ≤ 20 := by omega
          have htn : (((20 - t.length : Nat) : Int)).toNat = 20 - t.length := by omega
          have hov : ¬ (9223372036854775807 < 1 + (mkT (ptL t)).size) := by rw [mkT_size, hpt.out]; simp only [List.length_append, List.length_replicate, List.length_cons, List.length_nil]; omega
          go_wp2_with (refine wpList_copy_splice rfl (.tmp 52) (.tmp 53) 22 22 rfl 5 Tryz.underlying22 u8sz _ _ _ _ _ _ rfl rfl w5.heap.size (20 - t.length) (pre0 (18 - t.length)) 5 hblk.out (txtV t) (by rw [txtV_len]; show t.length = min t.length _; omega) (fun _ => ⟨rfl, _, rfl, txt_cells (txt_below q2.out hbel.out)⟩) (by rw [pre0_len _ (by omega), txtV_len]; omega) (txtV_one t) w5.heap.size w5 hbel.out (Nat.le_refl _) ?_; intro w8 hg8 hb8; have hT : Blk w8 w5.heap.size 5 (txtV (ptL t)) := (by rw [hpt.out, ← small_splice t h18]; exact hg8); have hcv := txt_conv (blk_txt hT) (l := 20) (by rw [hpt.out]; simp only [List.length_append, List.length_replicate, List.length_cons, List.length_nil]; omega) 20; clear hg8; replace hT := Hd.mk hT; replace hb8 := Hd.mk hb8)
          go_ret
          exact ⟨by rw [hsg.out]; first | rfl | (rw [mkT_app]; rfl), hfin.out _ hb8.out⟩
    · have hpt : Hd (ptL t = t.take (t.length - 18) ++ [46] ++ t.drop (t.length - 18)) := ⟨by unfold ptL; rw [if_neg h18]⟩
      have hlB : t.length ≤ 1000 := hlen0.out
      have hmk := run_mkb (t.length + 1) (by omega) w5
      have hb6 := Blk.new w5 (madeCells #[.int .u8 0] (t.length + 1)) 5
      rw [toList_madeCells_one] at hb6
      have hbel6 : Below w5.heap.size w5 (w5.alloc (.cells (madeCells #[.int .u8 0] (t.length + 1)) 5)) := (Below.refl _ _).alloc (Nat.le_refl _) _
      rw [show ((t.length + 1 : Nat) : Int) = (t.length : Int) + 1 by omega] at hmk
      generalize w5.alloc (.cells (madeCells #[.int .u8 0] (t.length + 1)) 5) = w6 at hmk hb6 hbel6
      have hle : decide ((t.length : Int) ≤ 18) = false := decide_eq_false (by omega)
      have hwn1 : IntKind.i64.wrap ((t.length : Int) + 1) = (t.length : Int) + 1 := IntWalk.i64_in _ (by omega)
      have hwd : IntKind.i64.wrap ((t.length : Int) - 18) = ((t.length - 18 : Nat) : Int) := by rw [IntWalk.i64_in _ (by omega)]; omega
      have hwd1 : IntKind.i64.wrap (((t.length - 18 : Nat) : Int) + 1) = ((t.length - 18 + 1 : Nat) : Int) := by rw [IntWalk.i64_in _ (by omega)]; omega
      have e1 : (0 : Int) ≤ ((t.length - 18 : Nat) : Int) := by omega
      have e2 : ((t.length - 18 : Nat) : Int) ≤ (cap : Int) := by omega
      have e3 : ((t.length - 18 : Nat) : Int) < (t.length : Int) + 1 := by omega
      have e4 : ((t.length - 18 + 1 : Nat) : Int) ≤ (t.length : Int) + 1 := by omega
      have e5 : (0 : Int) ≤ ((t.length - 18 + 1 : Nat) : Int) := by omega
      have e6 : ((t.length - 18 : Nat) : Int) ≤ (t.length : Int) := by omega
      have e7 : (0 : Int) ≤ ((t.length - 18 : Nat) : Int) + 1 := by omega
      have e8 : ¬ (t.length = t.length - 18) := by omega
      have e9 : ¬ (cap = t.length - 18) := by omega
      have e3' : ((t.length - 18 : Nat) : Int) < ((t.length + 1 : Nat) : Int) := by omega
      have e4' : ((t.length - 18 + 1 : Nat) : Int) ≤ ((t.length + 1 : Nat) : Int) := by omega
      have hl1 : (txtV (t.take (t.length - 18))).length = t.length - 18 := by rw [txtV_len, List.length_take]; omega
      have hl2 : (txtV (t.drop (t.length - 18))).length = 18 := by rw [txtV_len, List.length_drop]; omega
      have hbs := Hd.mk (big_splice t (by omega))
      have hov : ¬ (9223372036854775807 < 1 + (mkT (ptL t)).size) := by rw [mkT_size, hpt.out]; simp only [List.length_append, List.length_take, List.length_drop, List.length_cons, List.length_nil]; omega
      have hptl : Hd (t.length + 1 = (ptL t).length) := ⟨by rw [hpt.out]; simp only [List.length_append, List.length_take, List.length_drop, List.length_cons, List.length_nil]; omega⟩
      have hx1 := Hd.mk (txt_cells (txt_take q2.out (t.length - 18)))
      have hx2 : Hd (∀ w', Below w5.heap.size w5 w' → ∀ j v, (txtV (t.drop (t.length - 18)))[j]? = some v → w'.cell? ((⟨g, t.length - 18, none⟩ : Addr).add j) = some v) := ⟨fun w' hb => by have := txt_cells (txt_sub (txt_below q2.out hb) (t.length - 18)); rwa [Nat.zero_add] at this⟩
      obtain ⟨X1, hX1⟩ : ∃ X1, X1 = txtV (t.take (t.length - 18)) := ⟨_, rfl⟩
      obtain ⟨X2, hX2⟩ : ∃ X2, X2 = txtV (t.drop (t.length - 18)) := ⟨_, rfl⟩
      have hX1o : ∀ v ∈ X1, v.oneCell' = true := hX1 ▸ txtV_one _
      have hX2o : ∀ v ∈ X2, v.oneCell' = true := hX2 ▸ txtV_one _
      rw [← hX1] at hbs hl1 hx1
      rw [← hX2] at hbs hl2 hx2
      replace hX1 := Hd.mk hX1
      replace hX2 := Hd.mk hX2
      replace hX1o := Hd.mk hX1o
      replace hX2o := Hd.mk hX2o
      replace hl1 := Hd.mk hl1
      replace hl2 := Hd.mk hl2
      have hzl : (List.replicate (t.length + 1) (Value.int .u8 0)).length = t.length + 1 := List.length_replicate
      generalize List.replicate (t.length + 1) (Value.int .u8 0) = Z at *
      replace hb6 := Hd.mk hb6
      replace hbel6 := Hd.mk hbel6
      replace hzl := Hd.mk hzl
      go_upto_region 24 with (refine wpList_copy_splice rfl (.tmp 60) (.tmp 63) 22 22 rfl 5 Tryz.underlying22 u8sz _ _ _ _ _ _ rfl rfl w5.heap.size 0 Z 5 hb6.out X1 (by rw [hl1.out]; show t.length - 18 = min (t.length - 18) _; omega) (fun _ => ⟨rfl, _, rfl, fun j v hv => cb' hbel6.out (hx1.out j v hv)⟩) (by rw [hl1.out, hzl.out]; omega) hX1o.out w5.heap.size w5 hbel6.out (Nat.le_refl _) ?_; intro w7 hg7 hb7; have hlen7 := length_splice Z 0 X1 (by rw [hl1.out, hzl.out]; omega); have hblk7 := Hd.mk (show Blk w7 w5.heap.size 5 (splice Z 0 X1) from hg7); rw [hzl.out] at hlen7; have hc7 := hblk7.out.cell (t.length - 18); rw [List.getElem?_eq_getElem (by omega)] at hc7; have hz7 := hblk7.out.frozen (t.length - 18); clear hg7; replace hb7 := Hd.mk hb7; replace hlen7 := Hd.mk hlen7)
      have hblk8 := hblk7.out.set (t.length - 18) (.int .u8 46)
      have hb8 := hb7.out.setCell (p := ⟨w5.heap.size, t.length - 18, none⟩) (Nat.le_refl _) (.int .u8 46)
      generalize w7.setCell ⟨w5.heap.size, t.length - 18, none⟩ (.int .u8 46) = w8 at *
      have hlen8 : ((splice Z 0 X1).set (t.length - 18) (.int .u8 46)).length = t.length + 1 := by rw [List.length_set]; exact hlen7.out
      generalize (splice Z 0 X1).set (t.length - 18) (.int .u8 46) = Z8 at *
      replace hblk8 := Hd.mk hblk8
      replace hb8 := Hd.mk hb8
      replace hlen8 := Hd.mk hlen8
      clear hblk7 hc7 hz7 hlen7 hb7 hmk hb6 hbel6 hzl
      go_still_tail 7, (by kernel_rfl)
      change wpList _ _ _ _ _ w8.drew
      go_wp2_with (refine wpList_copy_splice rfl (.tmp 71) (.tmp 74) 22 22 rfl 5 Tryz.underlying22 u8sz _ _ _ _ _ _ rfl rfl w5.heap.size (t.length - 18 + 1) Z8 5 hblk8.out.drew X2 (by rw [hl2.out]; show 18 = min _ _; omega) (fun _ => ⟨rfl, _, rfl, fun j v hv => (hx2.out w8.drew (below_drew' hb8.out) j v hv)⟩) (by rw [hl2.out, hlen8.out]; omega) hX2o.out w5.heap.size w5 (below_drew' hb8.out) (Nat.le_refl _) ?_; intro w9 hg9 hb9; have hT : Blk w9 w5.heap.size 5 (txtV (ptL t)) := (by rw [hpt.out, ← hbs.out]; exact hg9); have hcv := txt_conv (blk_txt hT) hptl.out (t.length + 1); clear hg9; replace hT := Hd.mk hT; replace hb9 := Hd.mk hb9)
      go_ret
      exact ⟨by rw [hsg.out]; first | rfl | (rw [mkT_app]; rfl), hfin.out _ hb9.out⟩
end Go.Proofs.YtdbjdpooggaonaaGreatDoor
