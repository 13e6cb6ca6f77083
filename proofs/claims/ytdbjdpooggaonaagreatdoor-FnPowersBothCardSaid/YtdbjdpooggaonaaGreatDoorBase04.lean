/- Products of natural numbers in memory. Products in either order, squares, the stack, powers. Powers of natural numbers in memory. Conditions: those that each theorem states. -/
import Derived.Test.YtdbjdpooggaonaaGreatDoorBase03
import Derived.Defers
set_option linter.all false

section
namespace Go.Proofs.YtdbjdpooggaonaaGreatDoor
open Go.RowKit
set_option maxRecDepth 100000
/-- The package's thresholds as their initialisers lay them. -/
structure Gl (w : World) : Prop where
  kar : w.cell? ⟨7, 0, none⟩ = some (.int .i64 40)
  bsq : w.cell? ⟨5, 0, none⟩ = some (.int .i64 12)
  ksq : w.cell? ⟨6, 0, none⟩ = some (.int .i64 80)
  dvr : w.cell? ⟨8, 0, none⟩ = some (.int .i64 40)
  leaf : w.cell? ⟨10, 0, none⟩ = some (.int .i64 8)
  eof : ∃ a, w.cell? ⟨2, 0, none⟩ = some (.iface 238 (.pointer (some a)))
  nod : ∃ a, w.cell? ⟨12, 0, none⟩ = some (.iface 238 (.pointer (some a)))
/-- No block of a variable. -/
def NoG (own : Option Nat) : Prop := ∀ K, own = some K → 16 ≤ K
theorem Gl.of_cells {w w' : World} (h : Gl w) (key : ∀ g v, g < 16 → w.cell? ⟨g, 0, none⟩ = some v → w'.cell? ⟨g, 0, none⟩ = some v) : Gl w' :=
  ⟨key _ _ (by decide) h.kar, key _ _ (by decide) h.bsq, key _ _ (by decide) h.ksq, key _ _ (by decide) h.dvr, key _ _ (by decide) h.leaf, h.eof.imp fun _ => key _ _ (by decide), h.nod.imp fun _ => key _ _ (by decide)⟩
theorem Gl.chg {w w' : World} {own : Option Nat} (h : Gl w) (hc : Chg w w' own) (hno : NoG own) : Gl w' := by
  have key : ∀ g v, g < 16 → w.cell? ⟨g, 0, none⟩ = some v → w'.cell? ⟨g, 0, none⟩ = some v := fun g v hg hv => by
    rw [← hv]
    exact World.cell?_of_block (w := w) (hc.block g (World.block_lt_of_cell? w _ hv) (fun e => by have := hno g e; omega))
  exact h.of_cells key
theorem Gl.below {w w' : World} (h : Gl w) (hc : Below w.heap.size w w') : Gl w' := h.chg (Chg.of_below hc none) (fun _ h => by cases h)
theorem Gl.drewN {w : World} (h : Gl w) (n : Nat) : Gl (w.drewN n) := ⟨h.kar, h.bsq, h.ksq, h.dvr, h.leaf, h.eof, h.nod⟩
theorem NoG.none : NoG none := fun _ h => by cases h
theorem zeroWord (w : World) : (zeroValue 146).run Tryz.prog w = .ok (.int .u64 0) w := by kernel_rfl

/-- What basicMul's round makes of the row. -/
def bmF (F X : Nat → Nat) (m d i j : Nat) : Nat := if j < i then F j else if j < i + m then amD (fun k => F (i + k)) X d 0 (j - i) else if j = i + m then amC (fun k => F (i + k)) X d 0 m else F j
theorem bmF_lt {F X : Nat → Nat} {m d i t : Nat} (hF : ∀ j, j < t → F j < BB) (hX : ∀ j, j < m → X j < BB) (hd : d < BB) (_ht : i + m < t) : ∀ j, j < t → bmF F X m d i j < BB := by
  intro j hj
  unfold bmF
  split
  · exact hF j hj
  · split
    · exact amD_lt _ _ _ _ _
    · split
      · exact amC_lt (fun k hk => hF _ (by omega)) hX hd BB_pos
      · exact hF j hj
theorem bmF_val {F X : Nat → Nat} {m d i t : Nat} (h0 : ∀ j, i + m ≤ j → j < t → F j = 0) (ht : i + m < t) : val t (bmF F X m d i) = val t F + BB ^ i * (val m X * d) := by
  have e1 : val t F = val i F + BB ^ i * val m (fun k => F (i + k)) := by
    rw [val_more (m := i + m) (by omega) h0, val_split]
  have e2 : val t (bmF F X m d i) = val (i + m + 1) (bmF F X m d i) := val_more (by omega) (fun j h1 h2 => by unfold bmF; rw [if_neg (by omega), if_neg (by omega), if_neg (by omega)]; exact h0 j (by omega) h2)
  have e3 : bmF F X m d i (i + m) = amC (fun k => F (i + k)) X d 0 m := by unfold bmF; rw [if_neg (by omega), if_neg (by omega), if_pos rfl]
  have e4 : val i (bmF F X m d i) = val i F := val_ext fun j hj => by unfold bmF; rw [if_pos hj]
  have e5 : val m (fun k => bmF F X m d i (i + k)) = val m (amD (fun k => F (i + k)) X d 0) := val_ext fun j hj => by unfold bmF; rw [if_neg (by omega), if_pos (by omega)]; congr 1; omega
  have h := am_law (fun k => F (i + k)) X d 0 m
  rw [e2, val_succ, val_split, e4, e5, e3, e1, Nat.pow_add]
  have h2 : BB ^ i * (val m (amD (fun k => F (i + k)) X d 0) + amC (fun k => F (i + k)) X d 0 m * BB ^ m) = BB ^ i * (val m (fun k => F (i + k)) + val m X * d + 0) := by rw [h]
  rw [Nat.add_zero, Nat.mul_add, Nat.mul_add, Nat.mul_left_comm (BB ^ i) (amC _ _ _ _ _)] at h2
  omega
theorem over_bmF {xs : List Value} {F X : Nat → Nat} {m d i t : Nat} (ht : i + m < t) :
    (over (over xs 0 t F) i m (amD (fun k => F (i + k)) X d 0)).set (i + m) (.int .u64 (amC (fun k => F (i + k)) X d 0 m)) = over xs 0 t (bmF F X m d i) := by
  apply List.ext_getElem?
  intro j
  rw [List.getElem?_set]
  simp only [over_get, over_length, Nat.zero_add, Nat.zero_le, true_and, Nat.sub_zero]
  unfold bmF
  by_cases h1 : i + m = j
  · subst h1
    simp only [if_true]
    by_cases h2 : i + m < xs.length
    · rw [if_pos h2, if_pos (by omega), if_neg (by omega), if_neg (by omega)]
    · rw [if_neg h2, if_neg (by omega), List.getElem?_eq_none (by omega)]
  · rw [if_neg h1]
    by_cases h2 : i ≤ j ∧ j < i + m ∧ j < xs.length
    · rw [if_pos h2, if_pos (by omega), if_neg (by omega), if_pos (by omega)]
    · rw [if_neg h2]
      by_cases h3 : j < t ∧ j < xs.length
      · rw [if_pos h3, if_pos h3]
        by_cases h4 : j < i
        · rw [if_pos h4]
        · rw [if_neg h4, if_neg (by omega), if_neg (by omega)]
      · rw [if_neg h3, if_neg h3]
set_option maxHeartbeats 1000000 in
theorem basicMul_any (K cap KX cx KY cy m n : Nat) (xs : List Value) (X Y : Nat → Nat) (w : World) (hm : m < 400) (hn : n < 400) (hm0 : 0 < m) (hn0 : 0 < n) (hcap : m + n ≤ cap)
    (hz : Blk w K 146 xs) (hzn : cap = xs.length) (hx : Seg w KX 0 m X) (hy : Seg w KY 0 n Y) (hX : ∀ i, i < m → X i < BB) (hY : ∀ i, i < n → Y i < BB) (hkx : KX ≠ K) (hky : KY ≠ K) :
    Calls Tryz.prog 271 #[.slice (some ⟨K, 0, none⟩) (m + n) cap, .slice (some ⟨KX, 0, none⟩) m cx, .slice (some ⟨KY, 0, none⟩) n cy] w fun e w' =>
      e = .returned (.tuple #[]) ∧ ∃ F, (∀ i, i < m + n → F i < BB) ∧ val (m + n) F = val m X * val n Y ∧ Put w w' K 146 (over xs 0 (m + n) F) := by
  replace hz := Hd.mk hz
  replace hx := Hd.mk hx
  replace hy := Hd.mk hy
  replace hX := Hd.mk hX
  replace hY := Hd.mk hY
  replace hkx := Hd.mk hkx
  replace hky := Hd.mk hky
  replace hzn := Hd.mk hzn
  go_enter Tryz.func271, Tryz.ntmps271
  go_wp2_with (refine wpList_clearP rfl (.tmp 14) 104 rfl 146 Tryz.underlying104 zeroWord K 0 (m + n) cap 146 xs ?h1 ?h2 ?h3 ?h4 ?_; (case h1 => go_simp); (case h2 => omega); (case h3 => exact hz.out); (case h4 => (have := hzn.out; omega)); intro w1 hp1; replace hp1 := Hd.mk hp1)
  go_loopw [17] (fun i wr => ∃ (k : Nat) (F : Nat → Nat), k ≤ n ∧ i = .int .i64 k ∧ Hd (∀ j, j < m + n → F j < BB) ∧ Hd (∀ j, k + m ≤ j → j < m + n → F j = 0) ∧ Hd (val (m + n) F = val m X * val k Y) ∧ Hd (Put w wr K 146 (over xs 0 (m + n) F))) (fun i _ => n - (intOf i).toNat)
  case atStart => exact ⟨0, fun _ => 0, Nat.zero_le _, rfl, ⟨fun _ _ => BB_pos⟩, ⟨fun _ _ _ => rfl⟩, ⟨by rw [val_zeros _ (fun _ _ => rfl)]; simp [val]⟩, hp1⟩
  case round =>
    obtain ⟨k, F, hk, rfl, hF, hF0, hv, hp⟩ := hrel
    by_cases hlt : k < n
    · have g1 := hy.out.of_heap (hp.out.other KY hky.out) k hlt
      simp only [Nat.zero_add] at g1
      have hYk := hY.out k hlt
      by_cases hd : Y k = 0
      · have hd1 : (((Y k : Nat) : Int) != 0) = false := by simp [hd]
        replace hd := Hd.mk hd
        go_wp2
        go_roundw
        case rel => exact ⟨k + 1, F, hlt, by go_num, hF, ⟨fun j h1 h2 => hF0.out j (by omega) h2⟩, ⟨by rw [val_succ, hd.out, Nat.zero_mul, Nat.add_zero]; exact hv.out⟩, hp⟩
        case measure => simp [intOf]; omega
      · have hd1 : (((Y k : Nat) : Int) != 0) = true := by simp [hd]
        have hs0 : ¬ cap = k := by omega
        have hs1 : IntKind.i64.wrap ((k : Int) + (m : Int)) = (k : Int) + (m : Int) := IntWalk.i64_in _ (by omega)
        have hs2 : IntKind.i64.wrap ((m : Int) + (k : Int)) = (m : Int) + (k : Int) := IntWalk.i64_in _ (by omega)
        have hs3 : (0 : Int) ≤ (k : Int) + (m : Int) := by omega
        have hs4 : (0 : Int) ≤ (m : Int) + (k : Int) := by omega
        have hs5 : ((k : Int) + (m : Int)).toNat = k + m := by omega
        have hs6 : ((m : Int) + (k : Int)).toNat = m + k := by omega
        have hs7 : (k : Int) ≤ (k : Int) + (m : Int) := by omega
        have hs8 : (k : Int) + (m : Int) ≤ (cap : Int) := by omega
        have hs9 : (m : Int) + (k : Int) < (m : Int) + (n : Int) := by omega
        have hAM := Hd.mk (addMulVVWW_of (addMulVVWW_g_any K k (cap - k) K k (cap - k) KX 0 cx m (Y k) 0 146 (over xs 0 (m + n) F) (fun j => F (k + j)) X wr.drew (by omega) hYk BB_pos hp.out.here (by rw [over_length]; have := hzn.out; omega) (fun j hj => by rw [hp.out.drew.here.cell, over_get, if_pos (by have := hzn.out; omega)]; rfl) (hx.out.of_heap (hp.out.other KX hkx.out)) (fun j hj => hF.out _ (by omega)) hX.out (fun _ => Nat.le_refl _) (fun h => absurd h hkx.out)) fun e w' h => ⟨_, h.1⟩)
        go_wp2
        go_region_held3 (fun _ => True) (trivial) ((go_at_call 309; refine hAM.out.mono ?_; rintro e w2 ⟨rfl, hp2⟩; have h1 : ∃ v, w2.cell? ⟨K, m + k, none⟩ = some v := ⟨_, by rw [hp2.here.cell, List.getElem?_eq_getElem (by rw [over_length, over_length]; have := hzn.out; omega)]⟩; obtain ⟨v1, h1⟩ := h1; have h2 := hp2.here.frozen (m + k); replace hp2 := Hd.mk hp2))
        clear hs1 hs2 hs3 hs4 hs5 hs6 hs7 hs8 hs9
        have hp3 := Hd.mk ((hp.out.drew.trans hp2.out).set (m + k) (.int .u64 (amC (fun j => F (k + j)) X (Y k) 0 m : Nat)))
        go_wp2
        go_roundw
        case rel =>
          refine ⟨k + 1, bmF F X m (Y k) k, hlt, by go_num, ⟨bmF_lt hF.out hX.out hYk (by omega)⟩, ⟨fun j h3 h4 => ?_⟩, ⟨?_⟩, ⟨?_⟩⟩
          · unfold bmF
            rw [if_neg (by omega), if_neg (by omega), if_neg (by omega)]
            exact hF0.out j (by omega) h4
          · rw [bmF_val hF0.out (by omega), hv.out, val_succ, Nat.mul_add]
            congr 1
            rw [Nat.mul_left_comm, Nat.mul_comm (BB ^ k)]
          · rw [← over_bmF (by omega)]
            rw [Nat.add_comm k m]
            exact hp3.out
        case measure => simp [intOf]; omega
    · obtain rfl : k = n := by omega
      go_wp2
      go_end0
      exact ⟨rfl, F, hF.out, hv.out, hp.out⟩
set_option maxHeartbeats 400000 in
theorem mulAddWW_any (z x : Value) (a y r : Nat) (oz ox : Option Nat) (w : World) (hz : RecvS w z oz) (hx : NatS w x a ox) (ha : wlen a < 800) (hy : y < BB) (hr : r < BB) :
    Calls Tryz.prog 274 #[z, x, .int .u64 y, .int .u64 r] w fun e w' => ∃ v, e = .returned v ∧ NatR w w' oz (a * y + r) v := by
  have hset := Hd.mk (setWord_any z r oz w hz hr)
  obtain ⟨Z, lz, cz, rfl, hlz, hcz, hrz⟩ := hz
  obtain ⟨A, ca, rfl, hla, hca, hra, hsa⟩ := hx.open
  replace hsa := Hd.mk hsa
  replace hra := Hd.mk hra
  clear hx
  by_cases h0 : wlen a = 0 ∨ y = 0
  · have e : Hd (a * y + r = r) := ⟨by
      rcases h0 with h | h
      · rw [wlen_eq_zero.1 h]; simp
      · rw [h]; simp⟩
    by_cases h1 : wlen a = 0
    · have hd0 : ((wlen a : Int) == 0) = true := by simp [h1]
      replace h1 := Hd.mk h1
      replace h0 := Hd.mk h0
      replace hrz := Hd.mk hrz
      go_enter Tryz.func274, Tryz.ntmps274
      go_wp2_with (go_at_call 243; refine hset.out.mono ?_; rintro e w' ⟨v, rfl, hv⟩; replace hv := Hd.mk hv)
      go_ret
      exact ⟨_, rfl, by rw [e.out]; exact hv.out⟩
    · have hd0 : ((wlen a : Int) == 0) = false := by simp; omega
      have hd1 : ((y : Int) == 0) = true := by simp; omega
      replace h0 := Hd.mk h0
      replace hrz := Hd.mk hrz
      go_enter Tryz.func274, Tryz.ntmps274
      go_wp2_with (go_at_call 243; refine hset.out.mono ?_; rintro e w' ⟨v, rfl, hv⟩; replace hv := Hd.mk hv)
      go_ret
      exact ⟨_, rfl, by rw [e.out]; exact hv.out⟩
  · have hd0 : ((wlen a : Int) == 0) = false := by simp; omega
    have hd1 : ((y : Int) == 0) = false := by simp; omega
    obtain ⟨KA, rfl, hoa, sa⟩ := hsa.out (by omega)
    have hmk := make_pos Z lz cz (wlen a + 1) oz w hlz hcz hrz (by omega) (by omega)
    rw [show ((wlen a + 1 : Nat) : Int) = (wlen a : Int) + 1 by omega] at hmk
    replace hmk := Hd.mk hmk
    replace sa := Hd.mk sa
    replace hoa := Hd.mk hoa
    replace h0 := Hd.mk h0
    clear hset
    have hF : Hd (∀ i, i < wlen a → mulD (dig a) y r i < BB) := ⟨fun i _ => mulD_lt _ _ _ _⟩
    have hC : Hd (mulC (dig a) y r (wlen a) < BB) := ⟨mulC_lt (fun i _ => dig_lt a i) hy hr⟩
    go_enter Tryz.func274, Tryz.ntmps274
    go_wp2_with (go_at_call 230; refine hmk.out.mono ?_; rintro e w1 ⟨K, xs, rfl, hb, hl1, hl2, hbel, hK⟩; replace hb := Hd.mk hb; replace hbel := Hd.mk hbel; replace hK := Hd.mk hK; have sa1 := Hd.mk (sa.out.of_heap (hbel.out.block KA (hra.out.lt hoa.out))))
    refine (mulAddVWW_of (mulAddVWW_g_any K 0 xs.length KA 0 ca (wlen a) y r 146 xs (dig a) w1 (by omega) hy hr hb.out (by omega) sa1.out (fun i _ => dig_lt a i) (fun _ => Nat.le_refl _)) fun e w' h => ⟨_, h.1⟩).mono ?_
    rintro e w2 ⟨rfl, hp2⟩
    have h1 : ∃ v, w2.cell? ⟨K, wlen a, none⟩ = some v := ⟨_, by rw [hp2.here.cell, List.getElem?_eq_getElem (by rw [over_length]; omega)]⟩
    obtain ⟨v1, h1⟩ := h1
    have h2 := hp2.here.frozen (wlen a)
    replace hp2 := Hd.mk hp2
    have hs2 : (wlen a : Int) < (wlen a : Int) + 1 := by omega
    have hp3 := hp2.out.set (wlen a) (.int .u64 (mulC (dig a) y r (wlen a) : Nat))
    have hsg := seg_top hp3.here (by omega)
    have hnm := Hd.mk (norm_any K (wlen a + 1) xs.length _ _ (by omega) (by omega) (top_lt hF.out hC.out) hsg)
    replace hp3 := Hd.mk hp3
    replace hsg := Hd.mk hsg
    go_wp2_with (go_at_call 251; refine hnm.out.mono ?_; rintro e w' ⟨rfl, rfl⟩)
    have hres := NatR.of_norm (oz := oz) ((Chg.of_below hbel.out oz).put hp3.out hK.out) hp3.out.here (by rw [List.length_set, over_length]) (by omega) (by omega) hl2 hsg.out (top_lt hF.out hC.out) (m := a * y + r) (by
      rw [val_top]
      have h3 := mul_law (dig a) y r (wlen a)
      rw [val_wlen] at h3
      exact h3) hK.out
    go_ret
    exact ⟨_, rfl, hres⟩
/-- Do two slices lie in one block? -/
def ali (ox oy : Option Nat) : Bool := match ox with
  | none => false
  | some K => oy == some K
set_option maxHeartbeats 400000 in
theorem alias_any (A B : Option Addr) (la ca lb cb : Nat) (ox oy : Option Nat) (w : World) (hx : RowOf w A ca ox) (hy : RowOf w B cb oy) (hca : ca < 1000) (hcb : cb < 1000) :
    Calls Tryz.prog 263 #[.slice A la ca, .slice B lb cb] w fun e w' => e = .returned (.bool (ali ox oy)) ∧ ∃ q, w' = w.drewN q := by
  by_cases h1 : 0 < ca
  · have hd1 : decide (0 < ca) = true := by simp [h1]
    by_cases h2 : 0 < cb
    · have hd2 : decide (0 < cb) = true := by simp [h2]
      obtain ⟨K, xs, rfl, rfl, hl, hb⟩ := hx.pos h1
      obtain ⟨L, ys, rfl, rfl, hl2, hb2⟩ := hy.pos h2
      by_cases e : K = L
      · subst e
        have hc : ca = cb := by have := (hb.inj hb2).2; rw [← hl, ← hl2, this]
        subst hc
        have hq := weq_same ⟨K, ca - 1, none⟩
        replace hb := Hd.mk hb
        replace hb2 := Hd.mk hb2
        clear hx hy
        have hr : Hd (ali (some K) (some K) = true) := ⟨by simp [ali]⟩
        go_enter Tryz.func263, Tryz.ntmps263
        go_wp2
        go_quiet (fail)
        go_wp2
        go_ret
        exact ⟨by rw [hr.out]; rfl, _, rfl⟩
      · have hq : ∀ n, (binOp .eql 225 (.pointer (some ⟨K, ca - 1, none⟩)) (.pointer (some ⟨L, cb - 1, none⟩))).run Tryz.prog (w.drewN n) = .ok (.bool false) (w.drewN n) := fun n => weq_other (fun h => e (congrArg Addr.block h)) _ hb.hb hb2.hb
        replace hb := Hd.mk hb
        replace hb2 := Hd.mk hb2
        clear hx hy
        have hr : Hd (ali (some K) (some L) = false) := ⟨by simp [ali]; omega⟩
        go_enter Tryz.func263, Tryz.ntmps263
        go_wp2
        go_quiet (fail)
        go_wp2
        go_ret
        exact ⟨by rw [hr.out]; rfl, _, rfl⟩
    · have hd2 : decide (0 < cb) = false := by simp; omega
      have hr : Hd (ali ox oy = false) := ⟨by rw [hy.cap0 (by omega)]; cases ox <;> rfl⟩
      replace hx := Hd.mk hx
      replace hy := Hd.mk hy
      go_enter Tryz.func263, Tryz.ntmps263
      go_wp2
      go_quiet (fail)
      go_wp2
      go_ret
      exact ⟨by rw [hr.out]; rfl, _, rfl⟩
  · have hd1 : decide (0 < ca) = false := by simp; omega
    have hr : Hd (ali ox oy = false) := ⟨by rw [hx.cap0 (by omega)]; rfl⟩
    replace hx := Hd.mk hx
    replace hy := Hd.mk hy
    go_enter Tryz.func263, Tryz.ntmps263
    go_wp2
    go_quiet (fail)
    go_wp2
    go_ret
    exact ⟨by rw [hr.out]; rfl, _, rfl⟩
theorem NatR.of_none {w w' : World} {oz : Option Nat} {m K c n : Nat} (h : NatR w w' none m (.slice (some ⟨K, 0, none⟩) n c)) : NatR w w' oz m (.slice (some ⟨K, 0, none⟩) n c) := by
  obtain ⟨o', h1, h2, h3⟩ := h
  refine ⟨o', h1, ⟨h2.os, h2.tape, h2.output, h2.size, fun k hk _ => h2.block k hk (by simp)⟩, .inr ?_⟩
  rcases h3 with rfl | h3
  · obtain ⟨A, cap, h4, _, _, h5, _⟩ := h1
    rcases h5 with ⟨rfl, _⟩ | ⟨_, _, _, h6, _⟩
    · simp at h4
    · cases h6
  · exact h3
set_option maxHeartbeats 1000000 in
theorem nmul_ge (z x y : Value) (stk : Option Addr) (a b : Nat) (oz ox oy : Option Nat) (w : World) (hz : RecvS w z oz) (hx : NatS w x a ox) (hy : NatS w y b oy) (ha : wlen a < 400) (hab : wlen b ≤ wlen a) (hb : wlen b < 40) (hg : Gl w) :
    Calls Tryz.prog 240 #[z, .pointer stk, x, y] w fun e w' => ∃ v, e = .returned v ∧ NatR w w' oz (a * b) v := by
  have hz0 := Hd.mk hz
  have hx0 := Hd.mk hx
  obtain ⟨Z, lz, cz, rfl, hlz, hcz, hrz⟩ := hz
  obtain ⟨A, ca, rfl, hla, hca, hra, hsa⟩ := hx.open
  obtain ⟨B, cb, rfl, hlb, hcb, hrb, hsb⟩ := hy.open
  replace hsa := Hd.mk hsa
  replace hsb := Hd.mk hsb
  replace hra := Hd.mk hra
  replace hrb := Hd.mk hrb
  replace hrz := Hd.mk hrz
  replace hg := Hd.mk hg
  clear hx hy
  by_cases h0 : wlen b = 0
  · have h1 : b = 0 := wlen_eq_zero.1 h0
    have hd0 : ((wlen b : Int) == 0) = true := by simp [h0]
    replace h0 := Hd.mk h0
    replace h1 := Hd.mk h1
    go_enter Tryz.func240, Tryz.ntmps240
    by_cases hz1 : wlen a = 0
    · have hd1 : ((wlen a : Int) == 0) = true := by simp [hz1]
      replace hz1 := Hd.mk hz1
      go_wp2
      go_ret
      exact ⟨_, rfl, by rw [h1.out, Nat.mul_zero]; exact NatR.zero (Chg.refl _ _) hrz.out hcz⟩
    · have hd1 : ((wlen a : Int) == 0) = false := by simp; omega
      go_wp2
      go_ret
      exact ⟨_, rfl, by rw [h1.out, Nat.mul_zero]; exact NatR.zero (Chg.refl _ _) hrz.out hcz⟩
  · have hd0 : ((wlen b : Int) == 0) = false := by simp; omega
    have hd1 : ((wlen a : Int) == 0) = false := by simp; omega
    obtain ⟨KB, rfl, hob, sb⟩ := hsb.out (by omega)
    obtain ⟨KA, rfl, hoa, sa⟩ := hsa.out (by omega)
    by_cases h1 : wlen b = 1
    · have hd2 : ((wlen b : Int) == 1) = true := by simp [h1]
      have g1 := sb 0 (by omega)
      simp only [Nat.add_zero] at g1
      have hb0 : dig b 0 = b := dig_word (by have := lt_wlen b; rw [h1] at this; simpa using this)
      rw [hb0] at g1
      replace hb0 := Hd.mk hb0
      replace h1 := Hd.mk h1
      replace sa := Hd.mk sa
      replace sb := Hd.mk sb
      replace hoa := Hd.mk hoa
      replace hob := Hd.mk hob
      have hM := Hd.mk (mulAddWW_any _ _ a b 0 oz ox w hz0.out hx0.out (by omega) (by have := dig_lt b 0; rw [hb0.out] at this; exact this) BB_pos)
      go_enter Tryz.func240, Tryz.ntmps240
      go_wp2_with (go_at_call 274; refine hM.out.mono ?_; rintro e w' ⟨v, rfl, hv⟩; replace hv := Hd.mk hv)
      go_ret
      exact ⟨_, rfl, by simpa using hv.out⟩
    · have hd2 : ((wlen b : Int) == 1) = false := by simp; omega
      replace sa := Hd.mk sa
      replace sb := Hd.mk sb
      replace hoa := Hd.mk hoa
      replace hob := Hd.mk hob
      have hA1 := Hd.mk (alias_any Z (some ⟨KA, 0, none⟩) lz cz (wlen a) ca oz ox w hrz.out hra.out hcz hca)
      have hA2 := fun q => alias_any Z (some ⟨KB, 0, none⟩) lz cz (wlen b) cb oz oy (w.drewN q) hrz.out hrb.out hcz hcb
      replace hA2 := Hd.mk hA2
      have hfresh : ∀ {K : Nat}, True := trivial
      clear hfresh
      by_cases hal1 : ali oz ox = true
      · replace hal1 := Hd.mk hal1
        go_enter Tryz.func240, Tryz.ntmps240
        go_wp2_with fail
        refine hA1.out.mono ?_
        rintro e w' ⟨rfl, q, rfl⟩
        rw [hal1.out]
        go_wp2_with fail
        rw [show ((wlen a : Int) + (wlen b : Int)) = ((wlen a + wlen b : Nat) : Int) by omega]
        refine (make_pos none 0 0 (wlen a + wlen b) none _ (Nat.le_refl _) (by omega) (RowOf.nil _) (by omega) (by omega)).mono ?_
        rintro e w1 ⟨K, xs, rfl, hb, hl1, hl2, hbel, hK⟩
        replace hbel := below_undrewN hbel
        have hkar := Hd.mk (hg.out.below hbel)
        have hkar1 := hkar.out.kar
        have hsa1 := Hd.mk (sa.out.of_heap (hbel.block KA (hra.out.lt hoa.out)))
        have hsb1 := Hd.mk (sb.out.of_heap (hbel.block KB (hrb.out.lt hob.out)))
        have hka : Hd (KA ≠ K) := ⟨by
          have h1 := hra.out.lt hoa.out
          rcases hK with h | h
          · cases h
          · have h2 : w.heap.size ≤ K := h
            omega⟩
        have hkb : Hd (KB ≠ K) := ⟨by
          have h1 := hrb.out.lt hob.out
          rcases hK with h | h
          · cases h
          · have h2 : w.heap.size ≤ K := h
            omega⟩
        have hbm := Hd.mk (basicMul_any K xs.length KA ca KB cb (wlen a) (wlen b) xs (dig a) (dig b) w1 (by omega) (by omega) (by omega) (by omega) (by omega) hb rfl hsa1.out hsb1.out (fun i _ => dig_lt a i) (fun i _ => dig_lt b i) hka.out hkb.out)
        replace hb := Hd.mk hb
        replace hbel := Hd.mk hbel
        replace hK := Hd.mk hK
        rw [show ((wlen a + wlen b : Nat) : Int) = (wlen a : Int) + (wlen b : Int) by omega] at *
        go_wp2_with fail
        refine hbm.out.mono ?_
        rintro e w2 ⟨rfl, F, hF, hv, hp⟩
        have hsg := seg_of_over0 hp.here (by omega)
        have hnm := Hd.mk (norm_any K (wlen a + wlen b) xs.length F w2 (by omega) (by omega) hF hsg)
        have hres := NatR.of_norm (oz := none) ((Chg.of_below hbel.out none).put hp hK.out) hp.here (over_length _ _ _ _) (by omega) (by omega) hl2 hsg hF (m := a * b) (by rw [hv, val_wlen, val_wlen]) hK.out
        replace hres := Hd.mk (NatR.of_none (oz := oz) hres)
        replace hF := Hd.mk hF
        replace hv := Hd.mk hv
        replace hp := Hd.mk hp
        replace hsg := Hd.mk hsg
        go_wp2_with fail
        refine hnm.out.mono ?_
        rintro e w' ⟨rfl, rfl⟩
        go_wp2
        go_ret
        exact ⟨_, rfl, hres.out⟩
      · rw [Bool.not_eq_true] at hal1
        by_cases hal2 : ali oz oy = true
        · replace hal1 := Hd.mk hal1
          replace hal2 := Hd.mk hal2
          go_enter Tryz.func240, Tryz.ntmps240
          go_wp2_with fail
          refine hA1.out.mono ?_
          rintro e w' ⟨rfl, q, rfl⟩
          rw [hal1.out]
          go_wp2_with fail
          refine (hA2.out q).mono ?_
          rintro e w' ⟨rfl, q2, rfl⟩
          rw [hal2.out]
          go_wp2_with fail
          rw [show ((wlen a : Int) + (wlen b : Int)) = ((wlen a + wlen b : Nat) : Int) by omega]
          refine (make_pos none 0 0 (wlen a + wlen b) none _ (Nat.le_refl _) (by omega) (RowOf.nil _) (by omega) (by omega)).mono ?_
          rintro e w1 ⟨K, xs, rfl, hb, hl1, hl2, hbel, hK⟩
          replace hbel := below_undrewN hbel
          have hkar := Hd.mk (hg.out.below hbel)
          have hkar1 := hkar.out.kar
          have hsa1 := Hd.mk (sa.out.of_heap (hbel.block KA (hra.out.lt hoa.out)))
          have hsb1 := Hd.mk (sb.out.of_heap (hbel.block KB (hrb.out.lt hob.out)))
          have hka : Hd (KA ≠ K) := ⟨by
            have h1 := hra.out.lt hoa.out
            rcases hK with h | h
            · cases h
            · have h2 : w.heap.size ≤ K := h
              omega⟩
          have hkb : Hd (KB ≠ K) := ⟨by
            have h1 := hrb.out.lt hob.out
            rcases hK with h | h
            · cases h
            · have h2 : w.heap.size ≤ K := h
              omega⟩
          have hbm := Hd.mk (basicMul_any K xs.length KA ca KB cb (wlen a) (wlen b) xs (dig a) (dig b) w1 (by omega) (by omega) (by omega) (by omega) (by omega) hb rfl hsa1.out hsb1.out (fun i _ => dig_lt a i) (fun i _ => dig_lt b i) hka.out hkb.out)
          replace hb := Hd.mk hb
          replace hbel := Hd.mk hbel
          replace hK := Hd.mk hK
          rw [show ((wlen a + wlen b : Nat) : Int) = (wlen a : Int) + (wlen b : Int) by omega] at *
          go_wp2_with fail
          refine hbm.out.mono ?_
          rintro e w2 ⟨rfl, F, hF, hv, hp⟩
          have hsg := seg_of_over0 hp.here (by omega)
          have hnm := Hd.mk (norm_any K (wlen a + wlen b) xs.length F w2 (by omega) (by omega) hF hsg)
          have hres := NatR.of_norm (oz := none) ((Chg.of_below hbel.out none).put hp hK.out) hp.here (over_length _ _ _ _) (by omega) (by omega) hl2 hsg hF (m := a * b) (by rw [hv, val_wlen, val_wlen]) hK.out
          replace hres := Hd.mk (NatR.of_none (oz := oz) hres)
          replace hF := Hd.mk hF
          replace hv := Hd.mk hv
          replace hp := Hd.mk hp
          replace hsg := Hd.mk hsg
          go_wp2_with fail
          refine hnm.out.mono ?_
          rintro e w' ⟨rfl, rfl⟩
          go_wp2
          go_ret
          exact ⟨_, rfl, hres.out⟩
        · rw [Bool.not_eq_true] at hal2
          replace hal1 := Hd.mk hal1
          replace hal2 := Hd.mk hal2
          go_enter Tryz.func240, Tryz.ntmps240
          go_wp2_with fail
          refine hA1.out.mono ?_
          rintro e w' ⟨rfl, q, rfl⟩
          rw [hal1.out]
          go_wp2_with fail
          refine (hA2.out q).mono ?_
          rintro e w' ⟨rfl, q2, rfl⟩
          rw [hal2.out]
          go_wp2_with fail
          rw [show ((wlen a : Int) + (wlen b : Int)) = ((wlen a + wlen b : Nat) : Int) by omega]
          refine (make_pos Z lz cz (wlen a + wlen b) oz (w.drewN (q + q2)) hlz hcz hrz.out (by omega) (by omega)).mono ?_
          rintro e w1 ⟨K, xs, rfl, hb, hl1, hl2, hbel, hK⟩
          replace hbel := below_undrewN hbel
          have hkar := Hd.mk (hg.out.below hbel)
          have hkar1 := hkar.out.kar
          have hsa1 := Hd.mk (sa.out.of_heap (hbel.block KA (hra.out.lt hoa.out)))
          have hsb1 := Hd.mk (sb.out.of_heap (hbel.block KB (hrb.out.lt hob.out)))
          have hka : Hd (KA ≠ K) := ⟨by
            have h1 := hra.out.lt hoa.out
            rcases hK with h | h
            · intro e; have h9 := hal1.out; rw [h, hoa.out] at h9; simp [ali, e] at h9
            · have h2 : w.heap.size ≤ K := h
              omega⟩
          have hkb : Hd (KB ≠ K) := ⟨by
            have h1 := hrb.out.lt hob.out
            rcases hK with h | h
            · intro e; have h9 := hal2.out; rw [h, hob.out] at h9; simp [ali, e] at h9
            · have h2 : w.heap.size ≤ K := h
              omega⟩
          have hbm := Hd.mk (basicMul_any K xs.length KA ca KB cb (wlen a) (wlen b) xs (dig a) (dig b) w1 (by omega) (by omega) (by omega) (by omega) (by omega) hb rfl hsa1.out hsb1.out (fun i _ => dig_lt a i) (fun i _ => dig_lt b i) hka.out hkb.out)
          replace hb := Hd.mk hb
          replace hbel := Hd.mk hbel
          replace hK := Hd.mk hK
          rw [show ((wlen a + wlen b : Nat) : Int) = (wlen a : Int) + (wlen b : Int) by omega] at *
          go_wp2_with fail
          refine hbm.out.mono ?_
          rintro e w2 ⟨rfl, F, hF, hv, hp⟩
          have hsg := seg_of_over0 hp.here (by omega)
          have hnm := Hd.mk (norm_any K (wlen a + wlen b) xs.length F w2 (by omega) (by omega) hF hsg)
          have hres := NatR.of_norm (oz := oz) ((Chg.of_below hbel.out oz).put hp hK.out) hp.here (over_length _ _ _ _) (by omega) (by omega) hl2 hsg hF (m := a * b) (by rw [hv, val_wlen, val_wlen]) hK.out
          replace hres := Hd.mk hres
          replace hF := Hd.mk hF
          replace hv := Hd.mk hv
          replace hp := Hd.mk hp
          replace hsg := Hd.mk hsg
          go_wp2_with fail
          refine hnm.out.mono ?_
          rintro e w' ⟨rfl, rfl⟩
          go_wp2
          go_ret
          exact ⟨_, rfl, hres.out⟩
end Go.Proofs.YtdbjdpooggaonaaGreatDoor
end

section
namespace Go.Proofs.YtdbjdpooggaonaaGreatDoor
open Go.RowKit
set_option maxRecDepth 100000
set_option maxHeartbeats 400000 in
theorem nmul_any (z x y : Value) (stk : Option Addr) (a b : Nat) (oz ox oy : Option Nat) (w : World) (hz : RecvS w z oz) (hx : NatS w x a ox) (hy : NatS w y b oy) (ha : wlen a < 40) (hb : wlen b < 40) (hg : Gl w) :
    Calls Tryz.prog 240 #[z, .pointer stk, x, y] w fun e w' => ∃ v, e = .returned v ∧ NatR w w' oz (a * b) v := by
  by_cases hab : wlen b ≤ wlen a
  · exact nmul_ge z x y stk a b oz ox oy w hz hx hy (by omega) hab hb hg
  · have h := Hd.mk (nmul_ge z y x stk b a oz oy ox w hz hy hx (by omega) (by omega) ha hg)
    obtain ⟨Z, lz, cz, rfl, hlz, hcz, hrz⟩ := hz
    obtain ⟨A, ca, rfl, hla, hca, hra, hsa⟩ := hx.open
    obtain ⟨B, cb, rfl, hlb, hcb, hrb, hsb⟩ := hy.open
    replace hsa := Hd.mk hsa
    replace hsb := Hd.mk hsb
    replace hra := Hd.mk hra
    replace hrb := Hd.mk hrb
    replace hrz := Hd.mk hrz
    replace hg := Hd.mk hg
    clear hx hy
    have hlt : wlen a < wlen b := by omega
    go_enter Tryz.func240, Tryz.ntmps240
    go_wp2_with (go_at_call 240; refine h.out.mono ?_; rintro e w' ⟨v, rfl, hv⟩; replace hv := Hd.mk hv)
    go_ret
    exact ⟨_, rfl, by rw [Nat.mul_comm]; exact hv.out⟩
/-- The words of a square of one word. -/
def sq1 (d i : Nat) : Nat := if i = 0 then mulS d d else mulK d d
set_option maxHeartbeats 1000000 in
theorem sqr_any (z x : Value) (stk : Option Addr) (a : Nat) (oz ox : Option Nat) (w : World) (hz : RecvS w z oz) (hx : NatS w x a ox) (ha : wlen a < 12) (hg : Gl w) :
    Calls Tryz.prog 239 #[z, .pointer stk, x] w fun e w' => ∃ v, e = .returned v ∧ NatR w w' oz (a * a) v := by
  obtain ⟨Z, lz, cz, rfl, hlz, hcz, hrz⟩ := hz
  obtain ⟨A, ca, rfl, hla, hca, hra, hsa⟩ := hx.open
  replace hsa := Hd.mk hsa
  replace hra := Hd.mk hra
  replace hg := Hd.mk hg
  clear hx
  by_cases h0 : wlen a = 0
  · have h1 : a = 0 := wlen_eq_zero.1 h0
    have hd0 : ((wlen a : Int) == 0) = true := by simp [h0]
    replace h0 := Hd.mk h0
    replace h1 := Hd.mk h1
    replace hrz := Hd.mk hrz
    go_enter Tryz.func239, Tryz.ntmps239
    go_wp2
    go_ret
    exact ⟨_, rfl, by rw [h1.out]; exact NatR.zero (Chg.refl _ _) hrz.out hcz⟩
  · have hd0 : ((wlen a : Int) == 0) = false := by simp; omega
    obtain ⟨KA, rfl, hoa, sa⟩ := hsa.out (by omega)
    by_cases h1 : wlen a = 1
    · have hd1 : ((wlen a : Int) == 1) = true := by simp [h1]
      have g1 := sa 0 (by omega)
      simp only [Nat.add_zero] at g1
      have ha0 : dig a 0 = a := dig_word (by have := lt_wlen a; rw [h1] at this; simpa using this)
      rw [ha0] at g1
      have haB : a < BB := by have := dig_lt a 0; rwa [ha0] at this
      replace ha0 := Hd.mk ha0
      have hmk := Hd.mk (make_pos Z lz cz 2 oz w hlz hcz hrz (by omega) (by omega))
      replace h1 := Hd.mk h1
      replace sa := Hd.mk sa
      replace hoa := Hd.mk hoa
      replace hrz := Hd.mk hrz
      go_enter Tryz.func239, Tryz.ntmps239
      go_wp2_with fail
      refine hmk.out.mono ?_
      rintro e w1 ⟨K, xs, rfl, hb, hl1, hl2, hbel, hK⟩
      have c0 : ∃ v, w1.cell? ⟨K, 0, none⟩ = some v := ⟨_, by rw [hb.cell, List.getElem?_eq_getElem (by omega)]⟩
      have c1 : ∃ v, w1.cell? ⟨K, 1, none⟩ = some v := ⟨_, by rw [hb.cell, List.getElem?_eq_getElem (by omega)]⟩
      obtain ⟨v0, c0⟩ := c0
      obtain ⟨v1, c1⟩ := c1
      have f0 := hb.frozen 0
      have f1 := hb.frozen 1
      have hp := Hd.mk (((Put.refl hb).set 1 (.int .u64 (mulK a a : Nat))).set 0 (.int .u64 (mulS a a : Nat)))
      have hp' := Hd.mk (((Put.refl hb).set 0 (.int .u64 (mulS a a : Nat))).set 1 (.int .u64 (mulK a a : Nat)))
      replace hb := Hd.mk hb
      replace hbel := Hd.mk hbel
      replace hK := Hd.mk hK
      go_wp2_with (go_at_call 270; refine (mulWW_any _ _ haB haB _).mono ?_; rintro e w' ⟨rfl, rfl⟩)
      have hsg : Hd (Seg _ K 0 2 (sq1 a)) := ⟨fun i hi => by
        have h9 := hp.out.here
        rw [h9.cell, List.getElem?_set, List.getElem?_set]
        have : i = 0 ∨ i = 1 := by omega
        rcases this with rfl | rfl
        · rw [if_pos rfl, if_pos (by rw [List.length_set]; omega)]; rfl
        · rw [if_neg (by omega), if_pos rfl, if_pos (by omega)]; rfl⟩
      have hF : Hd (∀ i, i < 2 → sq1 a i < BB) := ⟨fun i _ => by
        unfold sq1
        split
        · exact mulS_lt _ _
        · unfold mulK; rw [Nat.div_lt_iff_lt_mul BB_pos]; exact Nat.mul_lt_mul'' haB haB⟩
      refine (norm_any K 2 xs.length (sq1 a) _ (by omega) (by omega) hF.out hsg.out).mono ?_
      rintro e w' ⟨rfl, rfl⟩
      have hres := Hd.mk (NatR.of_norm (oz := oz) ((Chg.of_below hbel.out oz).put hp.out hK.out) hp.out.here (by simp) (by omega) (by omega) hl2 hsg.out hF.out (m := a * a) (by
        have h9 := Nat.div_add_mod (a * a) BB
        simp [val, sq1, mulS, mulK]
        rw [Nat.mul_comm _ BB]; omega) hK.out)
      go_wp2
      go_ret
      exact ⟨_, rfl, hres.out⟩
    · have hd1 : ((wlen a : Int) == 1) = false := by simp; omega
      have hA1 := Hd.mk (alias_any Z (some ⟨KA, 0, none⟩) lz cz (wlen a) ca oz ox w hrz hra.out hcz hca)
      replace sa := Hd.mk sa
      replace hoa := Hd.mk hoa
      replace hrz := Hd.mk hrz
      by_cases hal1 : ali oz ox = true
      · replace hal1 := Hd.mk hal1
        go_enter Tryz.func239, Tryz.ntmps239
        go_wp2_with fail
        refine hA1.out.mono ?_
        rintro e w' ⟨rfl, q, rfl⟩
        rw [hal1.out]
        go_wp2_with fail
        rw [show (2 * (wlen a : Int)) = ((wlen a + wlen a : Nat) : Int) by omega]
        refine (make_pos none 0 0 (wlen a + wlen a) none (w.drewN q) (Nat.le_refl _) (by omega) (RowOf.nil _) (by omega) (by omega)).mono ?_
        rintro e w1 ⟨K, xs, rfl, hb, hl1, hl2, hbel, hK⟩
        replace hbel := below_undrewN hbel
        have hgl := Hd.mk (hg.out.below hbel)
        have hbsq := hgl.out.bsq
        have hksq := hgl.out.ksq
        have hsa1 := Hd.mk (sa.out.of_heap (hbel.block KA (hra.out.lt hoa.out)))
        have hka : Hd (KA ≠ K) := ⟨by
          have h1 := hra.out.lt hoa.out
          rcases hK with h | h
          · cases h
          · have h2 : w.heap.size ≤ K := h
            omega⟩
        have hbm := Hd.mk (basicMul_any K xs.length KA ca KA ca (wlen a) (wlen a) xs (dig a) (dig a) w1 (by omega) (by omega) (by omega) (by omega) (by omega) hb rfl hsa1.out hsa1.out (fun i _ => dig_lt a i) (fun i _ => dig_lt a i) hka.out hka.out)
        replace hb := Hd.mk hb
        replace hbel := Hd.mk hbel
        replace hK := Hd.mk hK
        rw [show ((wlen a + wlen a : Nat) : Int) = (wlen a : Int) + (wlen a : Int) by omega] at *
        have hg12 : (wlen a : Int) < 12 := by omega
        have hg80 : (wlen a : Int) < 80 := by omega
        go_wp2_with fail
        refine hbm.out.mono ?_
        rintro e w2 ⟨rfl, F, hF, hv, hp⟩
        have hsg := seg_of_over0 hp.here (by omega)
        have hnm := Hd.mk (norm_any K (wlen a + wlen a) xs.length F w2 (by omega) (by omega) hF hsg)
        have hres := NatR.of_norm (oz := none) ((Chg.of_below hbel.out none).put hp hK.out) hp.here (over_length _ _ _ _) (by omega) (by omega) hl2 hsg hF (m := a * a) (by rw [hv, val_wlen]) hK.out
        replace hres := Hd.mk (NatR.of_none (oz := oz) hres)
        replace hF := Hd.mk hF
        replace hv := Hd.mk hv
        replace hp := Hd.mk hp
        replace hsg := Hd.mk hsg
        go_wp2_with fail
        refine hnm.out.mono ?_
        rintro e w' ⟨rfl, rfl⟩
        go_wp2
        go_ret
        exact ⟨_, rfl, hres.out⟩
      · rw [Bool.not_eq_true] at hal1
        replace hal1 := Hd.mk hal1
        go_enter Tryz.func239, Tryz.ntmps239
        go_wp2_with fail
        refine hA1.out.mono ?_
        rintro e w' ⟨rfl, q, rfl⟩
        rw [hal1.out]
        go_wp2_with fail
        rw [show (2 * (wlen a : Int)) = ((wlen a + wlen a : Nat) : Int) by omega]
        refine (make_pos Z lz cz (wlen a + wlen a) oz (w.drewN q) hlz hcz hrz.out (by omega) (by omega)).mono ?_
        rintro e w1 ⟨K, xs, rfl, hb, hl1, hl2, hbel, hK⟩
        replace hbel := below_undrewN hbel
        have hgl := Hd.mk (hg.out.below hbel)
        have hbsq := hgl.out.bsq
        have hksq := hgl.out.ksq
        have hsa1 := Hd.mk (sa.out.of_heap (hbel.block KA (hra.out.lt hoa.out)))
        have hka : Hd (KA ≠ K) := ⟨by
          have h1 := hra.out.lt hoa.out
          rcases hK with h | h
          · intro e; have h9 := hal1.out; rw [h, hoa.out] at h9; simp [ali, e] at h9
          · have h2 : w.heap.size ≤ K := h
            omega⟩
        have hbm := Hd.mk (basicMul_any K xs.length KA ca KA ca (wlen a) (wlen a) xs (dig a) (dig a) w1 (by omega) (by omega) (by omega) (by omega) (by omega) hb rfl hsa1.out hsa1.out (fun i _ => dig_lt a i) (fun i _ => dig_lt a i) hka.out hka.out)
        replace hb := Hd.mk hb
        replace hbel := Hd.mk hbel
        replace hK := Hd.mk hK
        rw [show ((wlen a + wlen a : Nat) : Int) = (wlen a : Int) + (wlen a : Int) by omega] at *
        have hg12 : (wlen a : Int) < 12 := by omega
        have hg80 : (wlen a : Int) < 80 := by omega
        go_wp2_with fail
        refine hbm.out.mono ?_
        rintro e w2 ⟨rfl, F, hF, hv, hp⟩
        have hsg := seg_of_over0 hp.here (by omega)
        have hnm := Hd.mk (norm_any K (wlen a + wlen a) xs.length F w2 (by omega) (by omega) hF hsg)
        have hres := NatR.of_norm (oz := oz) ((Chg.of_below hbel.out oz).put hp hK.out) hp.here (over_length _ _ _ _) (by omega) (by omega) hl2 hsg hF (m := a * a) (by rw [hv, val_wlen]) hK.out
        replace hres := Hd.mk hres
        replace hF := Hd.mk hF
        replace hv := Hd.mk hv
        replace hp := Hd.mk hp
        replace hsg := Hd.mk hsg
        go_wp2_with fail
        refine hnm.out.mono ?_
        rintro e w' ⟨rfl, rfl⟩
        go_wp2
        go_ret
        exact ⟨_, rfl, hres.out⟩
end Go.Proofs.YtdbjdpooggaonaaGreatDoor
end

section
namespace Go.Proofs.YtdbjdpooggaonaaGreatDoor
open Go.RowKit
set_option maxRecDepth 100000
theorem getStack_any (w : World) : Calls Tryz.prog 246 #[] w fun e w' => e = .returned (.pointer (some ⟨w.heap.size, 0, none⟩)) ∧ w' = w.alloc (.cells #[.pointer none] 220) := by
  go_enter Tryz.func246, Tryz.ntmps246
  go_wp2
  go_ret
  exact ⟨rfl, rfl⟩
theorem free_deferred (S : Nat) (u : FrameMode) (w : World) (hc : w.cell? ⟨S, 0, none⟩ = some (.pointer none)) :
    CallsD Tryz.prog 247 #[.pointer (some ⟨S, 0, none⟩)] u w fun e u' w' => u' = u ∧ (e = .returned (.tuple #[]) ∧ w = w') := by
  go_enter_d Tryz.func247, Tryz.ntmps247
  go_wp2
  go_end0
  exact ⟨rfl, rfl⟩
theorem nlz_any (x : Nat) (hx : x < BB) (hb : Lib.bitLen x ≤ 64) (w : World) :
    Calls Tryz.prog 284 #[.int .u64 x] w fun e w' => e = .returned (.int .u64 (64 - (Lib.bitLen x : Int))) ∧ w = w' := by
  go_enter Tryz.func284, Tryz.ntmps284
  go_wp2_with (go_at_call 320; refine (LeadingZeros_any _ hx _).mono ?_; rintro e w' ⟨rfl, rfl⟩)
  go_ret
  exact ⟨rfl, rfl⟩
theorem bitLenAux_spec : ∀ f x, x < 2 ^ f → x ≠ 0 → 2 ^ (Lib.bitLenAux f x - 1) ≤ x ∧ x < 2 ^ Lib.bitLenAux f x ∧ 1 ≤ Lib.bitLenAux f x ∧ Lib.bitLenAux f x ≤ f
  | 0, x, h, h0 => by simp at h; omega
  | f + 1, x, h, h0 => by
    simp only [Lib.bitLenAux, if_neg h0]
    by_cases h1 : x / 2 = 0
    · have : x = 1 := by omega
      subst this
      have e : Lib.bitLenAux f (1 / 2) = 0 := by cases f <;> simp [Lib.bitLenAux]
      rw [e]; simp
    · obtain ⟨i1, i2, i3, i4⟩ := bitLenAux_spec f (x / 2) (by rw [Nat.pow_succ] at h; omega) h1
      generalize Lib.bitLenAux f (x / 2) = b at *
      obtain ⟨c, rfl⟩ : ∃ c, b = c + 1 := ⟨b - 1, by omega⟩
      simp only [Nat.add_sub_cancel] at i1
      rw [show 1 + (c + 1) - 1 = c + 1 by omega, show 1 + (c + 1) = c + 2 by omega]
      rw [Nat.pow_succ] at i2 ⊢
      rw [Nat.pow_succ 2 (c + 1), Nat.pow_succ]
      omega
theorem bitLen_spec {x : Nat} (h : x < BB) (h0 : x ≠ 0) : 2 ^ (Lib.bitLen x - 1) ≤ x ∧ x < 2 ^ Lib.bitLen x ∧ 1 ≤ Lib.bitLen x ∧ Lib.bitLen x ≤ 64 := bitLenAux_spec 64 x h h0
theorem bitLen_le (x : Nat) (h : x < BB) : Lib.bitLen x ≤ 64 := by
  by_cases h0 : x = 0
  · subst h0; decide
  · exact (bitLen_spec h h0).2.2.2
theorem and_mask {v : Nat} (h : v < BB) : Go.bits BinOp.and IntKind.u64 (v : Int) 9223372036854775808 = if 9223372036854775808 ≤ v then 9223372036854775808 else 0 := by
  have : Go.bits BinOp.and IntKind.u64 (v : Int) ((9223372036854775808 : Nat) : Int) = ((v &&& 9223372036854775808 : Nat) : Int) := u64_and_nat v _ h (by decide)
  rw [show ((9223372036854775808 : Nat) : Int) = 9223372036854775808 from rfl] at this
  rw [this]
  have hb : v.testBit 63 = decide (9223372036854775808 ≤ v) := by
    rw [Nat.testBit_eq_decide_div_mod_eq]
    unfold BB at h
    by_cases h1 : 9223372036854775808 ≤ v
    · rw [show v / 2 ^ 63 % 2 = 1 by omega]; simp [h1]
    · rw [show v / 2 ^ 63 % 2 = 0 by omega]; simp [h1]
  have e : v &&& 9223372036854775808 = if 9223372036854775808 ≤ v then 9223372036854775808 else 0 := by
    apply Nat.eq_of_testBit_eq
    intro i
    rw [Nat.testBit_and, show 9223372036854775808 = 2 ^ 63 from rfl, Nat.testBit_two_pow]
    by_cases hi : i = 63
    · subst hi
      rw [hb]
      by_cases h1 : 9223372036854775808 ≤ v
      · rw [if_pos h1]; simp [h1]; decide
      · rw [if_neg h1]; simp [h1]
    · have : decide (63 = i) = false := by simp; omega
      rw [this, Bool.and_false]
      split
      · rw [show (2 : Nat) ^ 63 = 2 ^ 63 from rfl, Nat.testBit_two_pow, this]
      · simp
  rw [e]
  split <;> rfl
/-- The exponent's bits from the top, in a word's top. -/
def exv (e t : Nat) : Nat := e * 2 ^ (64 - t) % BB
theorem exv_lt (e t : Nat) : exv e t < BB := Nat.mod_lt _ BB_pos
theorem exv_bit {e t : Nat} (ht : t + 1 ≤ 64) : 9223372036854775808 ≤ exv e (t + 1) ↔ e / 2 ^ t % 2 = 1 := by
  unfold exv
  rw [shl_low _ _ (by omega), show 64 - (64 - (t + 1)) = t + 1 by omega]
  have h1 : 2 ^ (64 - (t + 1)) * 2 ^ t = 9223372036854775808 := by rw [← Nat.pow_add, show 64 - (t + 1) + t = 63 by omega]
  have h2 : e % 2 ^ (t + 1) = e % 2 ^ t + 2 ^ t * (e / 2 ^ t % 2) := by rw [Nat.pow_succ, Nat.mod_mul]
  have h3 : e % 2 ^ t < 2 ^ t := Nat.mod_lt _ (Nat.two_pow_pos t)
  have h4 : e / 2 ^ t % 2 = 0 ∨ e / 2 ^ t % 2 = 1 := by omega
  rw [h2]
  rcases h4 with h4 | h4
  · rw [h4]
    constructor
    · intro h
      have : 2 ^ (64 - (t + 1)) * (e % 2 ^ t + 2 ^ t * 0) < 2 ^ (64 - (t + 1)) * 2 ^ t := Nat.mul_lt_mul_of_pos_left (by omega) (Nat.two_pow_pos _)
      omega
    · intro h; omega
  · rw [h4]
    constructor
    · intro _; rfl
    · intro _
      have : 2 ^ (64 - (t + 1)) * 2 ^ t ≤ 2 ^ (64 - (t + 1)) * (e % 2 ^ t + 2 ^ t * 1) := Nat.mul_le_mul_left _ (by omega)
      omega
theorem exv_next {e t : Nat} (ht : t + 1 ≤ 64) : exv e (t + 1) * 2 % BB = exv e t := by
  unfold exv
  rw [Nat.mod_mul_mod, Nat.mul_assoc, ← Nat.pow_succ, show (64 - (t + 1)).succ = 64 - t by omega]
theorem exp_step (e t : Nat) : e / 2 ^ t = 2 * (e / 2 ^ (t + 1)) + e / 2 ^ t % 2 := by
  rw [Nat.pow_succ, ← Nat.div_div_eq_div_mul]; omega
set_option maxHeartbeats 1000000 in
theorem expNN_small (x y : Value) (a n : Nat) (ox oy : Option Nat) (w : World) (hx : NatS w x a ox) (hy : NatS w y n oy) (ha : 1 < a) (haB : a < BB) (hn : n ≤ 1) :
    Calls Tryz.prog 264 #[.slice none 0 0, .pointer none, x, y, .slice none 0 0, .bool false] w fun e w' => ∃ v, e = .returned v ∧ NatR w w' none (a ^ n) v := by
  have hset := fun q => set_any (.slice none 0 0) x a none ox (w.drewN q) (RecvS.nil _) (hx.of_heap (fun _ _ => rfl)) (by rw [wlen_one haB (by omega)]; omega)
  have hsw := fun q => setWord_any (.slice none 0 0) 1 none (w.drewN q) (RecvS.nil _) (by decide)
  replace hset := Hd.mk hset
  replace hsw := Hd.mk hsw
  obtain ⟨A, ca, rfl, hla, hca, hra, hsa⟩ := hx.open
  obtain ⟨B, cb, rfl, hlb, hcb, hrb, hsb⟩ := hy.open
  have hwa : wlen a = 1 := wlen_one haB (by omega)
  obtain ⟨KA, rfl, hoa, sa⟩ := hsa (by omega)
  rw [hwa] at *
  have g1 := sa 0 (by omega)
  simp only [Nat.add_zero] at g1
  rw [dig_word haB] at g1
  have hA1 := Hd.mk (alias_any none (some ⟨KA, 0, none⟩) 0 0 1 ca none ox w (RowOf.nil w) hra (by omega) hca)
  have hA2 := Hd.mk fun q => alias_any none B 0 0 (wlen n) cb none oy (w.drewN q) (RowOf.nil _) hrb (by omega) hcb
  replace hx := Hd.mk hx
  replace hy := Hd.mk hy
  replace sa := Hd.mk sa
  replace hsa := Hd.mk hsa
  replace hsb := Hd.mk hsb
  replace hra := Hd.mk hra
  replace hrb := Hd.mk hrb
  replace hwa := Hd.mk hwa
  replace hoa := Hd.mk hoa
  have hd1 : ((a : Int) == 1) = false := by simp; omega
  have hn01 : n = 0 ∨ n = 1 := by omega
  rcases hn01 with rfl | rfl
  · rw [wlen_zero] at *
    go_enter_defers Tryz.func264, Tryz.ntmps264
    go_wp2_with fail
    refine hA1.out.mono ?_
    rintro e w' ⟨rfl, q, rfl⟩
    rw [show ali none ox = false from rfl]
    go_wp2_with fail
    refine (hA2.out q).mono ?_
    rintro e w' ⟨rfl, q2, rfl⟩
    rw [show ali none oy = false from rfl]
    go_wp2_with fail
    refine (hsw.out _).mono ?_
    rintro e w' ⟨v, rfl, hv⟩
    replace hv := Hd.mk hv
    go_wp2
    refine ⟨_, results_tmp rfl _ _ _, _, rfl, ?_⟩
    rw [Nat.pow_zero]
    exact NatR.undrewN hv.out
  · rw [wlen_one (x := 1) (by decide) (by decide)] at *
    obtain ⟨KB, rfl, hob, sb⟩ := hsb.out (by omega)
    have g2 := sb 0 (by omega)
    simp only [Nat.add_zero] at g2
    rw [dig_word (x := 1) (by decide)] at g2
    replace sb := Hd.mk sb
    replace hob := Hd.mk hob
    go_enter_defers Tryz.func264, Tryz.ntmps264
    go_wp2_with fail
    refine hA1.out.mono ?_
    rintro e w' ⟨rfl, q, rfl⟩
    rw [show ali none ox = false from rfl]
    go_wp2_with fail
    refine (hA2.out q).mono ?_
    rintro e w' ⟨rfl, q2, rfl⟩
    rw [show ali none oy = false from rfl]
    go_wp2_with fail
    refine (hset.out _).mono ?_
    rintro e w' ⟨v, rfl, hv⟩
    replace hv := Hd.mk hv
    go_wp2
    refine ⟨_, results_tmp rfl _ _ _, _, rfl, ?_⟩
    rw [Nat.pow_one]
    exact NatR.undrewN hv.out

/-- A number and a slice to be written anew, in two different new blocks. -/
def Two (w1 w : World) (vz vy : Value) (m : Nat) : Prop := ∃ oz oy, NatS w vz m oz ∧ RecvS w vy oy ∧ Chg w1 w none ∧ (∀ K, oz = some K → w1.heap.size ≤ K) ∧ (∀ K, oy = some K → w1.heap.size ≤ K) ∧ (∀ K, oz = some K → oy ≠ some K)
theorem Two.drewN {w1 w : World} {vz vy : Value} {m : Nat} (h : Two w1 w vz vy m) (q : Nat) : Two w1 (w.drewN q) vz vy m := by
  obtain ⟨oz, oy, h1, h2, h3, h4⟩ := h
  exact ⟨oz, oy, h1.of_heap fun _ _ => rfl, h2.of_heap fun _ _ => rfl, h3.drewN q, h4⟩
theorem Two.drew {w1 w : World} {vz vy : Value} {m : Nat} (h : Two w1 w vz vy m) : Two w1 w.drew vz vy m := by
  obtain ⟨oz, oy, h1, h2, h3, h4⟩ := h
  exact ⟨oz, oy, h1.of_heap fun _ _ => rfl, h2.of_heap fun _ _ => rfl, h3.drew, h4⟩
theorem Two.turn {w1 w w' : World} {vz v : Value} {m m' : Nat} {oz oy : Option Nat} (h1 : NatS w vz m oz) (h3 : Chg w1 w none) (h4 : ∀ K, oz = some K → w1.heap.size ≤ K) (h5 : ∀ K, oy = some K → w1.heap.size ≤ K) (h6 : ∀ K, oz = some K → oy ≠ some K) (hr : NatR w w' oy m' v) : Two w1 w' v vz m' := by
  obtain ⟨o', k1, k2, k3⟩ := hr
  refine ⟨o', oz, k1, (h1.chg k2 h6).recv, h3.step k2 (fun K hK => .inr (h5 K hK)), fun K hK => ?_, h4, fun K hK e => ?_⟩
  · rcases k3 with rfl | ⟨K', rfl, hk⟩
    · exact h5 K hK
    · cases hK; exact Nat.le_trans h3.size hk
  · rcases k3 with rfl | ⟨K', rfl, hk⟩
    · exact h6 K e hK
    · cases hK
      have := h1.lt e
      omega
theorem sqr_two (stk : Option Addr) (w1 w : World) (vz vy : Value) (m : Nat) (h : Two w1 w vz vy m) (hm : wlen m < 12) (hg : Gl w) :
    Calls Tryz.prog 239 #[vy, .pointer stk, vz] w fun e w' => ∃ v, e = .returned v ∧ Two w1 w' v vz (m * m) := by
  obtain ⟨oz, oy, h1, h2, h3, h4, h5, h6⟩ := h
  refine (sqr_any vy vz stk m oy oz w h2 h1 hm hg).mono ?_
  rintro e w' ⟨v, rfl, hv⟩
  exact ⟨v, rfl, Two.turn (oy := oy) h1 h3 h4 h5 h6 hv⟩
theorem mul_two (stk : Option Addr) (w1 w : World) (vz vy x : Value) (m a : Nat) (ox : Option Nat) (h : Two w1 w vz vy m) (hm : wlen m < 40) (hg : Gl w) (hx : NatS w x a ox) (ha : wlen a < 40) :
    Calls Tryz.prog 240 #[vy, .pointer stk, vz, x] w fun e w' => ∃ v, e = .returned v ∧ Two w1 w' v vz (m * a) := by
  obtain ⟨oz, oy, h1, h2, h3, h4, h5, h6⟩ := h
  refine (nmul_any vy vz x stk m a oy oz ox w h2 h1 hx hm ha hg).mono ?_
  rintro e w' ⟨v, rfl, hv⟩
  exact ⟨v, rfl, Two.turn (oy := oy) h1 h3 h4 h5 h6 hv⟩
theorem Two.old {w1 w : World} {vz vy x : Value} {m a : Nat} {ox : Option Nat} (h : Two w1 w vz vy m) (hx : NatS w1 x a ox) : NatS w x a ox := by
  obtain ⟨oz, oy, h1, h2, h3, h4⟩ := h
  exact hx.chg h3 (fun _ _ => by simp)
theorem Two.gl {w1 w : World} {vz vy : Value} {m : Nat} (h : Two w1 w vz vy m) (hg : Gl w1) : Gl w := by
  obtain ⟨oz, oy, h1, h2, h3, h4⟩ := h
  exact hg.chg h3 NoG.none
theorem Two.block {w1 w : World} {vz vy : Value} {m : Nat} (h : Two w1 w vz vy m) {k : Nat} (hk : k < w1.heap.size) : w.heap[k]? = w1.heap[k]? := by
  obtain ⟨oz, oy, h1, h2, h3, h4⟩ := h
  exact h3.block k hk (by simp)
set_option maxHeartbeats 1000000 in
theorem expNN_big (x y : Value) (a n : Nat) (ox oy : Option Nat) (w : World) (hx : NatS w x a ox) (hy : NatS w y n oy) (ha : 1 < a) (haB : a < BB) (hn : 1 < n) (hnB : n < BB) (hr : wlen (a ^ n) < 12) (hg : Gl w) :
    Calls Tryz.prog 264 #[.slice none 0 0, .pointer none, x, y, .slice none 0 0, .bool false] w fun e w' => ∃ v, e = .returned v ∧ NatR w w' none (a ^ n) v := by
  have hset := fun w1 (hb : Below w.heap.size w w1) => set_any (.slice none 0 0) x a none ox w1 (RecvS.nil _) (hx.below hb) (by rw [wlen_one haB (by omega)]; omega)
  replace hset := Hd.mk hset
  obtain ⟨A, ca, rfl, hla, hca, hra, hsa⟩ := hx.open
  obtain ⟨B, cb, rfl, hlb, hcb, hrb, hsb⟩ := hy.open
  have hwa : wlen a = 1 := wlen_one haB (by omega)
  have hwn : wlen n = 1 := wlen_one hnB (by omega)
  obtain ⟨KA, rfl, hoa, sa⟩ := hsa (by omega)
  obtain ⟨KB, rfl, hob, sb⟩ := hsb (by omega)
  rw [hwa, hwn] at *
  have g1 := sa 0 (by omega)
  simp only [Nat.add_zero] at g1
  rw [dig_word haB] at g1
  have g2 := sb 0 (by omega)
  simp only [Nat.add_zero] at g2
  rw [dig_word hnB] at g2
  have hA1 := Hd.mk (alias_any none (some ⟨KA, 0, none⟩) 0 0 1 ca none ox w (RowOf.nil w) hra (by omega) hca)
  have hA2 := Hd.mk fun q => alias_any none (some ⟨KB, 0, none⟩) 0 0 1 cb none oy (w.drewN q) (RowOf.nil _) hrb (by omega) hcb
  have hlen := Hd.mk (bitLen_spec hnB (by omega))
  have hxK := hx.lt hoa
  have hyK := hy.lt hob
  replace hx := Hd.mk hx
  replace hy := Hd.mk hy
  replace sa := Hd.mk sa
  replace hsa := Hd.mk hsa
  replace hsb := Hd.mk hsb
  replace hra := Hd.mk hra
  replace hrb := Hd.mk hrb
  replace hwa := Hd.mk hwa
  replace hwn := Hd.mk hwn
  replace hoa := Hd.mk hoa
  replace sb := Hd.mk sb
  replace hob := Hd.mk hob
  replace hg := Hd.mk hg
  replace hr := Hd.mk hr
  have hd1 : ((a : Int) == 1) = false := by simp; omega
  have hd2 : ((n : Int) == 1) = false := by simp; omega
  generalize hLe : Lib.bitLen n = L at hlen
  have hnl := fun w => nlz_any n hnB (by rw [hLe]; exact hlen.out.2.2.2) w
  rw [hLe] at hnl
  replace hLe := Hd.mk hLe
  replace hnl := Hd.mk hnl
  go_enter_defers Tryz.func264, Tryz.ntmps264
  go_wp2_with fail
  refine hA1.out.mono ?_
  rintro e w' ⟨rfl, q, rfl⟩
  rw [show ali none ox = false from rfl]
  go_wp2_with fail
  refine (hA2.out q).mono ?_
  rintro e w' ⟨rfl, q2, rfl⟩
  rw [show ali none oy = false from rfl]
  go_wp2_with fail
  refine (getStack_any _).mono ?_
  rintro e w1 ⟨rfl, hw1⟩
  have hbw : Below w.heap.size w w1 := by
    subst hw1
    exact ⟨rfl, rfl, rfl, by simp [World.alloc], fun k hk => by simp [World.alloc, Array.getElem?_push]; omega⟩
  have hsz : w1.heap.size = w.heap.size + 1 := by subst hw1; simp [World.alloc]
  have hS : w1.cell? ⟨w.heap.size, 0, none⟩ = some (.pointer none) := by subst hw1; have := (Blk.new (w.drewN (q + q2)) #[.pointer none] 220).cell 0; simpa using this
  have g3 : w1.cell? ⟨KB, 0, none⟩ = some (.int .u64 n) := by
    have := (sb.out.of_heap (hbw.block KB hyK)) 0 (by omega)
    simp only [Nat.add_zero] at this
    rw [dig_word hnB] at this; exact this
  have hg1 := Hd.mk (hg.out.below hbw)
  replace hbw := Hd.mk hbw
  replace hsz := Hd.mk hsz
  replace hS := Hd.mk hS
  rw [show (w.drewN (q + q2)).heap.size = w.heap.size from rfl]
  clear hw1 g1 g2
  have hxw1 := Hd.mk (hx.out.below hbw.out)
  replace hset := Hd.mk (hset.out w1 hbw.out)
  go_wp2_with fail
  refine hset.out.mono ?_
  rintro e w2 ⟨v, rfl, hv⟩
  have hT : Two w1 w2 v (.slice none 0 0) a := by
    obtain ⟨o', k1, k2, k3⟩ := hv
    refine ⟨o', none, k1, RecvS.nil _, k2, fun K hK => ?_, (fun K hK => nomatch hK), (fun K _ h => nomatch h)⟩
    rcases k3 with rfl | ⟨K', rfl, hk⟩
    · cases hK
    · cases hK; exact hk
  clear hv
  have g4 : w2.cell? ⟨KB, 0, none⟩ = some (.int .u64 n) := by
    have := (sb.out.of_heap ((hT.block (Nat.lt_of_lt_of_le hyK hbw.out.size)).trans (hbw.out.block KB hyK))) 0 (by omega)
    simp only [Nat.add_zero] at this
    rw [dig_word hnB] at this; exact this
  replace hT := Hd.mk hT
  obtain ⟨T, rfl⟩ : ∃ T, L = T + 2 := ⟨L - 2, by
    have := hlen.out
    by_cases h : L = 1
    · subst h; omega
    · omega⟩
  have hTb : T ≤ 62 := by have := hlen.out; omega
  have hs1 : (64 - ((T + 2 : Nat) : Int)) = ((62 - T : Nat) : Int) := by omega
  rw [hs1] at hnl
  go_wp2_with (go_at_call 284; refine (hnl.out _).mono ?_; rintro e w' ⟨rfl, rfl⟩)
  have e1 : IntKind.u64.wrap ((n : Int) * 2 ^ (62 - T + 1)) = ((exv n (T + 1) : Nat) : Int) := by rw [wrap_shl, show 62 - T + 1 = 64 - (T + 1) by omega]; rfl
  have e2 : (64 : Int) - (((62 - T : Nat) : Int) + 1) = ((T + 1 : Nat) : Int) := by omega
  rw [e1, e2]
  clear e1 e2 hs1 hnl
  have hq0 : n / 2 ^ (T + 1) = 1 := by
    have h9 := hlen.out
    rw [show T + 2 - 1 = T + 1 by omega, Nat.pow_succ 2 (T + 1)] at h9
    exact Nat.div_eq_of_lt_le (by omega) (by omega)
  have hle : ∀ m, m ≤ n → wlen (a ^ m) < 12 := fun m hm => Nat.lt_of_le_of_lt (wlen_mono (Nat.pow_le_pow_right (by omega) hm)) hr.out
  replace hq0 := Hd.mk hq0
  replace hle := Hd.mk hle
  clear g3 g4
  replace hlen := hlen.out.2.2.2
  go_loopw [0, 15, 19, 21] (fun z v zz j wr => ∃ (t : Nat), t ≤ T + 1 ∧ v = .int .u64 (exv n t) ∧ j = .int .i64 ((T + 1 - t : Nat) : Int) ∧ Hd (Two w1 wr z zz (a ^ (n / 2 ^ t)))) (fun _ _ _ j _ => T + 1 - (intOf j).toNat)
  case atStart => exact ⟨T + 1, Nat.le_refl _, rfl, by simp, ⟨by rw [hq0.out, Nat.pow_one]; exact hT.out⟩⟩
  case round =>
    obtain ⟨t, ht, rfl, rfl, hI⟩ := hrel
    by_cases h0 : t = 0
    · have hd3 : decide (((T + 1 - t : Nat) : Int) < ((T + 1 : Nat) : Int)) = false := by simp; omega
      subst h0
      have hI' := hI.out
      rw [Nat.pow_zero, Nat.div_one] at hI'
      obtain ⟨oz, oy, k1, k2, k3, k4⟩ := hI'
      obtain ⟨KZ, xs, rfl, hoz, hz1, hz2, hz3, hz4⟩ := k1.pos (Nat.pos_iff_ne_zero.1 (Nat.pow_pos (by omega)))
      have hS2 : wr.cell? ⟨w.heap.size, 0, none⟩ = some (.pointer none) := by
        exact (World.cell?_of_block (w := w1) (a := ⟨w.heap.size, 0, none⟩) (k3.block w.heap.size (by rw [hsz.out]; omega) (by simp))).trans hS.out
      have hN := Hd.mk (norm_any KZ (wlen (a ^ n)) xs.length (dig (a ^ n)) wr (Nat.lt_of_le_of_lt hz1 hz2) hz1 (fun i _ => dig_lt _ i) hz4)
      rw [val_wlen] at hN
      replace hI := Hd.mk hI
      go_wp2
      go_loopw [0, 22] (fun z i w9 => z = .slice (some ⟨KZ, 0, none⟩) (wlen (a ^ n)) xs.length ∧ i = .int .i64 (-1) ∧ w9 = wr) (fun _ _ _ => 0)
      case atStart => exact ⟨rfl, rfl, rfl⟩
      case round =>
      obtain ⟨rfl, rfl, rfl⟩ := hrel
      go_wp2_with (go_at_call 251; refine hN.out.mono ?_; rintro e w' ⟨rfl, rfl⟩)
      refine leaves_cons (f := 247) (args := #[.pointer (some ⟨w.heap.size, 0, none⟩)]) (by simp) (by rfl) ?_
      refine (free_deferred w.heap.size _ _ hS2).mono ?_
      rintro e u w' ⟨rfl, rfl, rfl⟩
      refine ⟨_, results_tmp rfl _ _ _, _, rfl, ?_⟩
      exact ⟨oz, k1, ((Chg.of_below hbw.out none).trans k3), .inr ⟨KZ, hoz, Nat.le_trans hbw.out.size (k4.1 KZ hoz)⟩⟩
    · obtain ⟨s, rfl⟩ : ∃ s, t = s + 1 := ⟨t - 1, by omega⟩
      have hd3 : decide (((T + 1 - (s + 1) : Nat) : Int) < ((T + 1 : Nat) : Int)) = true := by simp; omega
      have hb1 := Hd.mk (exv_bit (e := n) (t := s) (by omega))
      have hb2 := exv_next (e := n) (t := s) (by omega)
      have hb3 := exp_step n s
      have hlt := exv_lt n (s + 1)
      have hdle : n / 2 ^ s ≤ n := Nat.div_le_self _ _
      have hsq := Hd.mk (sqr_two (some ⟨w.heap.size, 0, none⟩) w1 _ _ _ _ hI.out (hle.out _ (Nat.div_le_self _ _)) (hI.out.gl hg1.out))
      have hw2 : IntKind.u64.wrap ((exv n (s + 1) : Int) * 2) = ((exv n s : Nat) : Int) := by have := wrap_shl (exv n (s + 1)) 1; rw [Nat.pow_one, hb2] at this; exact this
      have hle2 : n / 2 ^ (s + 1) + n / 2 ^ (s + 1) ≤ n := by omega
      replace hb2 := Hd.mk hb2
      replace hb3 := Hd.mk hb3
      rw [Nat.add_sub_add_right] at hd3 ⊢
      have hwrap : IntKind.i64.wrap (((T - s : Nat) : Int) + 1) = ((T + 1 - s : Nat) : Int) := by rw [IntWalk.i64_in _ (by omega)]; omega
      by_cases hbit : n / 2 ^ s % 2 = 1
      · have hm := and_mask hlt
        rw [if_pos (hb1.out.2 hbit)] at hm
        go_wp2_with fail
        refine hsq.out.mono ?_
        rintro e w3 ⟨v3, rfl, hT3⟩
        rw [← Nat.pow_add] at hT3
        have hmu := Hd.mk (mul_two (some ⟨w.heap.size, 0, none⟩) w1 w3 _ _ _ _ _ _ hT3 (Nat.lt_of_lt_of_le (hle.out _ hle2) (by omega)) (hT3.gl hg1.out) (hT3.old hxw1.out) (by have := wlen_one haB (by omega); omega))
        replace hT3 := Hd.mk hT3
        go_wp2_with fail
        refine hmu.out.mono ?_
        rintro e w4 ⟨v4, rfl, hT4⟩
        replace hT4 := Hd.mk hT4
        go_wp2
        refine ⟨?_, ?measure⟩
        (repeat apply Exists.intro)
        refine ⟨?rel, rfl⟩
        case rel => exact ⟨s, by omega, by rw [← hw2], rfl, ⟨by
          have := hT4.out
          rwa [← Nat.pow_succ, show (n / 2 ^ (s + 1) + n / 2 ^ (s + 1)).succ = n / 2 ^ s by have := hb3.out; omega] at this⟩⟩
        case measure => simp [intOf]; omega
      · have hm := and_mask hlt
        rw [if_neg (fun h => hbit (hb1.out.1 h))] at hm
        go_wp2_with fail
        refine hsq.out.mono ?_
        rintro e w3 ⟨v3, rfl, hT3⟩
        rw [← Nat.pow_add] at hT3
        replace hT3 := Hd.mk hT3
        go_wp2
        refine ⟨?_, ?measure⟩
        (repeat apply Exists.intro)
        refine ⟨?rel, rfl⟩
        case rel => exact ⟨s, by omega, by rw [← hw2], rfl, ⟨by
          have := hT3.out
          rwa [show n / 2 ^ (s + 1) + n / 2 ^ (s + 1) = n / 2 ^ s by have := hb3.out; omega] at this⟩⟩
        case measure => simp [intOf]; omega
end Go.Proofs.YtdbjdpooggaonaaGreatDoor
end
