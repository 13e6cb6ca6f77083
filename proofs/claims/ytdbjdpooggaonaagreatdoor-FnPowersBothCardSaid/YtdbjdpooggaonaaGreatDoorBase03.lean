/- Natural numbers in memory: set, setWord, setUint64, cmp, bit, low64. Sums and differences of natural numbers in memory. Conditions: those that each theorem states. -/
import Derived.Test.YtdbjdpooggaonaaGreatDoorBase02
set_option linter.all false

section
namespace Go.Proofs.YtdbjdpooggaonaaGreatDoor
set_option maxRecDepth 100000
open Go.RowKit
/-- What a function with a receiver hands back: the number m, in the receiver's block or in a new one; nothing else has changed. -/
def NatR (w w' : World) (oz : Option Nat) (m : Nat) (v : Value) : Prop := ∃ o', NatS w' v m o' ∧ Chg w w' oz ∧ (o' = oz ∨ ∃ K, o' = some K ∧ w.heap.size ≤ K)
section
variable {w w' w'' : World} {v : Value} {m K : Nat} {oz : Option Nat} {xs : List Value}
theorem NatR.of_block {n c : Nat} (hc : Chg w w' oz) (hb : Blk w' K 146 xs) (hx : xs.length = c) (hn : n = wlen m) (hl : n ≤ c) (hl0 : 0 < c) (hl2 : c < 1000) (hs : Seg w' K 0 n (dig m)) (hK : oz = some K ∨ w.heap.size ≤ K) : NatR w w' oz m (.slice (some ⟨K, 0, none⟩) n c) := by
  subst hx
  refine ⟨some K, NatS.mk' hb hn hl hl0 hl2 hs, hc, ?_⟩
  rcases hK with h | h
  · exact .inl h.symm
  · exact .inr ⟨K, rfl, h⟩
theorem seg_dig {w : World} {K n : Nat} {f : Nat → Nat} (hs : Seg w K 0 n f) (hf : ∀ i, i < n → f i < BB) : Seg w K 0 (wlen (val n f)) (dig (val n f)) := by
  have hle : wlen (val n f) ≤ n := wlen_le (val_lt hf)
  exact (hs.mono hle).congr fun i hi => (dig_val hf (by omega)).symm
theorem NatR.of_norm {n c : Nat} {f : Nat → Nat} (hc : Chg w w' oz) (hb : Blk w' K 146 xs) (hx : xs.length = c) (hl : n ≤ c) (hl0 : 0 < c) (hl2 : c < 1000) (hs : Seg w' K 0 n f) (hf : ∀ i, i < n → f i < BB) (hm : val n f = m) (hK : oz = some K ∨ w.heap.size ≤ K) : NatR w w' oz m (.slice (some ⟨K, 0, none⟩) (wlen (val n f)) c) := by
  have hle : wlen (val n f) ≤ n := wlen_le (val_lt hf)
  have hd := seg_dig hs hf
  subst hm
  exact NatR.of_block hc hb hx rfl (by omega) hl0 hl2 hd hK
/-- A row, and one word more. -/
theorem seg_top {w : World} {K m c : Nat} {E : TypeId} {xs : List Value} {F : Nat → Nat} (hb : Blk w K E ((over xs 0 m F).set m (.int .u64 c))) (hm : m < xs.length) : Seg w K 0 (m + 1) (fun i => if i < m then F i else c) := by
  intro i hi
  rw [hb.cell, List.getElem?_set, over_length, Nat.zero_add]
  by_cases h : i < m
  · simp only [h, if_true]
    rw [if_neg (by omega), over_get, if_pos (by omega)]; rfl
  · simp only [h, if_false]
    rw [if_pos (by omega), if_pos (by omega)]
theorem val_top (m c : Nat) (F : Nat → Nat) : val (m + 1) (fun i => if i < m then F i else c) = val m F + c * BB ^ m := by
  rw [val_succ, if_neg (Nat.lt_irrefl m), val_ext (g := F)]
  intro i hi; rw [if_pos hi]
theorem top_lt {m c : Nat} {F : Nat → Nat} (hF : ∀ i, i < m → F i < BB) (hc : c < BB) : ∀ i, i < m + 1 → (if i < m then F i else c) < BB := by
  intro i _
  split
  · exact hF i ‹_›
  · exact hc
theorem NatR.zero {A : Option Addr} {cap : Nat} (hc : Chg w w' oz) (h : RowOf w' A cap oz) (hcap : cap < 1000) : NatR w w' oz 0 (.slice A 0 cap) := ⟨oz, h.zero hcap, hc, .inl rfl⟩
theorem NatR.drewN (h : NatR w w' oz m v) (n : Nat) : NatR w (w'.drewN n) oz m v := by
  obtain ⟨o', h1, h2, h3⟩ := h
  exact ⟨o', h1, h2.drewN n, h3⟩
theorem NatR.undrewN {q : Nat} (h : NatR (w.drewN q) w' oz m v) : NatR w w' oz m v := by
  obtain ⟨o', h1, h2, h3⟩ := h
  exact ⟨o', h1, ⟨h2.os, h2.tape, h2.output, h2.size, h2.block⟩, h3⟩
theorem NatR.lead (hb : Below w.heap.size w w') (h : NatR w' w'' oz m v) : NatR w w'' oz m v := by
  obtain ⟨o', h1, h2, h3⟩ := h
  refine ⟨o', h1, ⟨h2.os.trans hb.os, h2.tape.trans hb.tape, h2.output.trans hb.output, Nat.le_trans hb.size h2.size, fun k hk hne => (h2.block k (Nat.lt_of_lt_of_le hk hb.size) hne).trans (hb.block k hk)⟩, ?_⟩
  rcases h3 with h3 | ⟨K, h3, h4⟩
  · exact .inl h3
  · exact .inr ⟨K, h3, Nat.le_trans hb.size h4⟩
theorem NatR.nat (h : NatR w w' oz m v) : ∃ o', NatS w' v m o' := by obtain ⟨o', h1, _⟩ := h; exact ⟨o', h1⟩
end
/-- A nat value, open. -/
theorem NatS.open {w : World} {v : Value} {m : Nat} {own : Option Nat} (h : NatS w v m own) : ∃ A cap, v = .slice A (wlen m) cap ∧ wlen m ≤ cap ∧ cap < 1000 ∧ RowOf w A cap own ∧ (0 < wlen m → ∃ K, A = some ⟨K, 0, none⟩ ∧ own = some K ∧ Seg w K 0 (wlen m) (dig m)) := by
  obtain ⟨A, cap, rfl, h1, h2, h3, h4⟩ := h
  refine ⟨A, cap, rfl, h1, h2, h3, fun h0 => ?_⟩
  obtain ⟨K, xs, rfl, h5, h6, h7⟩ := h3.pos (by omega)
  exact ⟨K, rfl, h5, h4 K h5⟩
theorem seg_of_over0 {w : World} {b n : Nat} {E : TypeId} {xs : List Value} {f : Nat → Nat} (h : Blk w b E (over xs 0 n f)) (hn : n ≤ xs.length) : Seg w b 0 n f := Seg.of_over h (by omega)

set_option maxHeartbeats 400000 in
theorem set_any (z x : Value) (m : Nat) (oz ox : Option Nat) (w : World) (hz : RecvS w z oz) (hx : NatS w x m ox) (hm : wlen m < 800) :
    Calls Tryz.prog 199 #[z, x] w fun e w' => ∃ v, e = .returned v ∧ NatR w w' oz m v := by
  obtain ⟨A, len, cap, rfl, hl, hc, hr⟩ := hz
  obtain ⟨B, cb, rfl, hlb, hcb, hrb, hsb⟩ := hx.open
  replace hsb := Hd.mk hsb
  replace hx := Hd.mk hx
  by_cases h0 : m = 0
  · subst h0
    rw [wlen_zero] at *
    have hmk := make_any A len cap 0 w hl hc (by omega)
    replace hr := Hd.mk hr
    replace hrb := Hd.mk hrb
    go_enter Tryz.func199, Tryz.ntmps199
    go_wp2_with (first | (go_at_call 230; refine hmk.mono ?_; rintro e w' (⟨_, rfl, rfl⟩ | ⟨h9, _⟩); focus (skip)) | (refine wpList_copy_nothing rfl (.tmp 9) (.tmp 10) 104 104 rfl 146 Tryz.underlying104 ?h1 A B 0 cap 0 cb ?h2 ?h3 ?h4 ?_; (case h1 => kernel_rfl); (case h2 => go_simp); (case h3 => go_simp); (case h4 => rfl)))
    go_ret
    exact ⟨_, rfl, NatR.zero (Chg.refl _ _) hr.out hc⟩
  · have hw : wlen m ≠ 0 := fun h => h0 (wlen_eq_zero.1 h)
    obtain ⟨KB, rfl, hob, hs⟩ := hsb.out (by omega)
    have hmk := make_pos A len cap (wlen m) oz w hl hc hr (by omega) (by omega)
    replace hs := Hd.mk hs
    replace hr := Hd.mk hr
    replace hrb := Hd.mk hrb
    replace hmk := Hd.mk hmk
    replace hob := Hd.mk hob
    go_enter Tryz.func199, Tryz.ntmps199
    go_wp2_with (first | (go_at_call 230; refine hmk.out.mono ?_; rintro e w' ⟨K, xs, rfl, hb, hl1, hl2, hbel, hK⟩; replace hb := Hd.mk hb; replace hbel := Hd.mk hbel; replace hK := Hd.mk hK) | (refine wpList_copyP rfl (.tmp 9) (.tmp 10) 104 104 rfl 146 Tryz.underlying104 ?h1 (some ⟨K, 0, none⟩) (some ⟨KB, 0, none⟩) (wlen m) xs.length (wlen m) cb ?h2 ?h3 K 0 (wlen m) 146 xs (dig m) ?h4 ?h5 ?h6 ?h7 ?_; (case h1 => kernel_rfl); (case h2 => go_simp); (case h3 => go_simp); (case h4 => exact Nat.min_self _); (case h5 => (intro _; exact ⟨rfl, KB, 0, rfl, hs.out.of_heap (hbel.out.block KB (hrb.out.lt hob.out))⟩)); (case h6 => exact hb.out); (case h7 => omega); intro w4 hp4; replace hp4 := Hd.mk hp4))
    go_ret
    refine ⟨_, rfl, NatR.of_block ((Chg.of_below hbel.out oz).put hp4.out hK.out) hp4.out.here (over_length _ _ _ _) rfl hl1 (by omega) hl2 (seg_of_over0 hp4.out.here hl1) hK.out⟩
set_option maxHeartbeats 400000 in
theorem setWord_any (z : Value) (x : Nat) (oz : Option Nat) (w : World) (hz : RecvS w z oz) (hx : x < BB) :
    Calls Tryz.prog 243 #[z, .int .u64 x] w fun e w' => ∃ v, e = .returned v ∧ NatR w w' oz x v := by
  obtain ⟨A, len, cap, rfl, hl, hc, hr⟩ := hz
  by_cases h0 : x = 0
  · subst h0
    replace hr := Hd.mk hr
    go_enter Tryz.func243, Tryz.ntmps243
    go_wp2
    go_ret
    exact ⟨_, rfl, NatR.zero (Chg.refl _ _) hr.out hc⟩
  · have hmk := make_pos A len cap 1 oz w hl hc hr (by omega) (by omega)
    have hd : ((x : Int) == 0) = false := by simp; omega
    replace hr := Hd.mk hr
    replace hmk := Hd.mk hmk
    go_enter Tryz.func243, Tryz.ntmps243
    go_wp2_with (go_at_call 230; refine hmk.out.mono ?_; rintro e w' ⟨K, xs, rfl, hb, hl1, hl2, hbel, hK⟩; have h1 : ∃ v, w'.cell? ⟨K, 0, none⟩ = some v := ⟨_, by rw [hb.cell, List.getElem?_eq_getElem (by omega)]⟩; obtain ⟨v1, h1⟩ := h1; have h2 := hb.frozen 0; replace hb := Hd.mk hb; replace hbel := Hd.mk hbel; replace hK := Hd.mk hK)
    go_ret
    have hp := (Put.refl hb.out).set 0 (.int .u64 x)
    refine ⟨_, rfl, NatR.of_block ((Chg.of_below hbel.out oz).put hp hK.out) hp.here (by simp) (wlen_one hx h0).symm hl1 (by omega) hl2 ?_ hK.out⟩
    intro i hi
    obtain rfl : i = 0 := by omega
    rw [hp.here.cell, List.getElem?_set]
    rw [if_pos rfl, if_pos (by omega), dig_word hx]
set_option maxHeartbeats 400000 in
theorem setUint64_any (z : Value) (x : Nat) (oz : Option Nat) (w : World) (hz : RecvS w z oz) (hx : x < BB) :
    Calls Tryz.prog 216 #[z, .int .u64 x] w fun e w' => ∃ v, e = .returned v ∧ NatR w w' oz x v := by
  have h := Hd.mk (setWord_any z x oz w hz hx)
  have hd : (((x : Nat) : Int) == (x : Int)) = true := by simp
  replace hz := Hd.mk hz
  have hx1 : ((x : Nat) : Int) < 18446744073709551616 := by unfold BB at hx; omega
  go_enter Tryz.func216, Tryz.ntmps216
  go_wp2_with (go_at_call 243; refine h.out.mono ?_; rintro e w' ⟨v, rfl, hv⟩; replace hv := Hd.mk hv)
  go_ret
  exact ⟨_, rfl, hv.out⟩
/-- -1, 0 or 1. -/
def cmpN (a b : Nat) : Int := if a < b then -1 else if a = b then 0 else 1
theorem cmpN_lt {a b : Nat} (h : a < b) : cmpN a b = -1 := by unfold cmpN; rw [if_pos h]
theorem cmpN_gt {a b : Nat} (h : b < a) : cmpN a b = 1 := by unfold cmpN; rw [if_neg (by omega), if_neg (by omega)]
theorem cmpN_eq (a : Nat) : cmpN a a = 0 := by unfold cmpN; simp
theorem dig_lt_lt {a b i : Nat} (hl : wlen a = wlen b) (hi : i < wlen a) (he : ∀ j, i < j → j < wlen a → dig a j = dig b j) (h : dig a i < dig b i) : a < b := by
  have := val_cmp (n := wlen a) (i := i) (f := dig a) (g := dig b) (fun j _ => dig_lt a j) (fun j _ => dig_lt b j) hi he h
  rwa [val_wlen, hl, val_wlen] at this
set_option maxHeartbeats 1000000 in
theorem ncmp_any (x y : Value) (a b : Nat) (ox oy : Option Nat) (w : World) (hx : NatS w x a ox) (hy : NatS w y b oy) (ha : wlen a < 800) :
    Calls Tryz.prog 197 #[x, y] w fun e w' => e = .returned (.int .i64 (cmpN a b)) ∧ ∃ q, w' = w.drewN q := by
  obtain ⟨A, ca, rfl, hla, hca, hra, hsa⟩ := hx.open
  obtain ⟨B, cb, rfl, hlb, hcb, hrb, hsb⟩ := hy.open
  replace hsa := Hd.mk hsa
  replace hsb := Hd.mk hsb
  replace hra := Hd.mk hra
  replace hrb := Hd.mk hrb
  clear hx hy
  by_cases h1 : wlen a < wlen b
  · have hd : ((wlen a : Int) != (wlen b : Int)) = true := by simp; omega
    go_enter Tryz.func197, Tryz.ntmps197
    go_wp2
    go_ret
    exact ⟨ret_int (cmpN_lt (wlen_lt_of h1)).symm, 0, rfl⟩
  · by_cases h2 : wlen b < wlen a
    · have hd : ((wlen a : Int) != (wlen b : Int)) = true := by simp; omega
      go_enter Tryz.func197, Tryz.ntmps197
      go_wp2
      go_ret
      exact ⟨ret_int (cmpN_gt (wlen_lt_of h2)).symm, 0, rfl⟩
    · by_cases h3 : wlen a = 0
      · have hd : ((wlen a : Int) != (wlen b : Int)) = false := by simp; omega
        have hd2 : ((wlen a : Int) == 0) = true := by simp [h3]
        have h4 : a = 0 ∧ b = 0 := ⟨wlen_eq_zero.1 h3, wlen_eq_zero.1 (by omega)⟩
        replace h4 := Hd.mk h4
        replace h3 := Hd.mk h3
        go_enter Tryz.func197, Tryz.ntmps197
        go_wp2
        go_ret
        exact ⟨ret_int (by rw [h4.out.1, h4.out.2, cmpN_eq]), 0, rfl⟩
      · have hd : ((wlen a : Int) != (wlen b : Int)) = false := by simp; omega
        have hd2 : ((wlen a : Int) == 0) = false := by simp; omega
        obtain ⟨KA, rfl, _, sa⟩ := hsa.out (by omega)
        obtain ⟨KB, rfl, _, sb⟩ := hsb.out (by omega)
        have hll : Hd (wlen a = wlen b) := ⟨by omega⟩
        replace sa := Hd.mk sa
        replace sb := Hd.mk sb
        go_enter Tryz.func197, Tryz.ntmps197
        go_wp2
        go_loopw [7] (fun i wr => ∃ k q : Nat, k < wlen a ∧ i = .int .i64 k ∧ Hd (∀ j, k < j → j < wlen a → dig a j = dig b j) ∧ wr = w.drewN q) (fun i _ => (intOf i).toNat)
        case atStart => exact ⟨wlen a - 1, 0, by omega, by go_num, ⟨fun j h4 h5 => by omega⟩, rfl⟩
        case round =>
          obtain ⟨k, q, hk, rfl, he, rfl⟩ := hrel
          have g1 := sa.out k hk
          have g2 := sb.out k (by omega)
          simp only [Nat.zero_add] at g1 g2
          have hkb : k < wlen b := by omega
          by_cases hk0 : 0 < k
          · have hd3 : decide (0 < k) = true := by simp [hk0]
            by_cases hab : dig a k = dig b k
            · have hd4 : (((dig a k : Nat) : Int) == ((dig b k : Nat) : Int)) = true := by simp [hab]
              replace hab := Hd.mk hab
              go_wp2
              go_quiet (fail)
              go_wp2
              go_roundw
              case rel =>
                exact ⟨k - 1, _, by omega, by go_num, ⟨fun j h4 h5 => if e : j = k then e ▸ hab.out else he.out j (by omega) h5⟩, rfl⟩
              case measure => simp [intOf]; omega
            · have hd4 : (((dig a k : Nat) : Int) == ((dig b k : Nat) : Int)) = false := by simp; omega
              by_cases hlt : dig a k < dig b k
              · have hres := Hd.mk (cmpN_lt (dig_lt_lt hll.out hk he.out hlt))
                go_wp2
                go_quiet (fail)
                go_wp2
                go_quiet (fail)
                go_wp2
                go_ret
                exact ⟨ret_int hres.out.symm, _, by simp only [World.drewN_drewN]; rfl⟩
              · have hgt : dig b k < dig a k := by omega
                have hres := Hd.mk (cmpN_gt (dig_lt_lt hll.out.symm hkb (fun j h4 h5 => (he.out j h4 (by omega)).symm) hgt))
                go_wp2
                go_quiet (fail)
                go_wp2
                go_quiet (fail)
                go_wp2
                go_quiet (fail)
                go_wp2
                go_ret
                exact ⟨ret_int hres.out.symm, _, by simp only [World.drewN_drewN]; rfl⟩
          · have hd3 : decide (0 < k) = false := by simp; omega
            obtain rfl : k = 0 := by omega
            by_cases hlt : dig a 0 < dig b 0
            · have hres := Hd.mk (cmpN_lt (dig_lt_lt hll.out hk he.out hlt))
              go_wp2
              go_quiet (fail)
              go_wp2
              go_quiet (fail)
              go_wp2
              go_ret
              exact ⟨ret_int hres.out.symm, _, by simp only [World.drewN_drewN]; rfl⟩
            · by_cases hgt : dig b 0 < dig a 0
              · have hres := Hd.mk (cmpN_gt (dig_lt_lt hll.out.symm hkb (fun j h4 h5 => (he.out j h4 (by omega)).symm) hgt))
                go_wp2
                go_quiet (fail)
                go_wp2
                go_quiet (fail)
                go_wp2
                go_quiet (fail)
                go_wp2
                go_ret
                exact ⟨ret_int hres.out.symm, _, by simp only [World.drewN_drewN]; rfl⟩
              · have hres : Hd (a = b) := ⟨by
                  rw [← val_wlen a, ← val_wlen b, ← hll.out]
                  exact val_ext fun i hi => if e : i = 0 then by subst e; omega else he.out i (by omega) hi⟩
                go_wp2
                go_quiet (fail)
                go_wp2
                go_quiet (fail)
                go_wp2
                go_quiet (fail)
                go_wp2
                go_ret
                exact ⟨ret_int (by rw [hres.out, cmpN_eq]), _, by simp only [World.drewN_drewN]; rfl⟩
set_option maxHeartbeats 400000 in
theorem low64_any (x : Value) (a : Nat) (ox : Option Nat) (w : World) (hx : NatS w x a ox) (ha : wlen a < 800) :
    Calls Tryz.prog 220 #[x] w fun e w' => e = .returned (.int .u64 (dig a 0 : Nat)) ∧ w = w' := by
  obtain ⟨A, ca, rfl, hla, hca, hra, hsa⟩ := hx.open
  replace hsa := Hd.mk hsa
  replace hra := Hd.mk hra
  clear hx
  by_cases h0 : wlen a = 0
  · have h1 : a = 0 := wlen_eq_zero.1 h0
    subst h1
    rw [wlen_zero] at *
    go_enter Tryz.func220, Tryz.ntmps220
    go_wp2
    go_ret
    exact ⟨ret_int (by rw [dig_zero]; rfl), rfl⟩
  · obtain ⟨KA, rfl, _, sa⟩ := hsa.out (by omega)
    have g1 := sa 0 (by omega)
    simp only [Nat.add_zero] at g1
    have hd : ((wlen a : Int) == 0) = false := by simp; omega
    replace sa := Hd.mk sa
    go_enter Tryz.func220, Tryz.ntmps220
    go_wp2
    go_ret
    exact ⟨rfl, rfl⟩
end Go.Proofs.YtdbjdpooggaonaaGreatDoor
end

section
namespace Go.Proofs.YtdbjdpooggaonaaGreatDoor
open Go.RowKit
set_option maxRecDepth 100000
theorem addVV_of {z x y : Value} {w : World} {R : Ending → World → Prop} (h : Calls Tryz.prog 289 #[z, x, y] w R) (hR : ∀ e w', R e w' → ∃ c, e = .returned c) :
    Calls Tryz.prog 249 #[z, x, y] w R := by
  replace h := Hd.mk h
  replace hR := Hd.mk hR
  go_enter Tryz.func249, Tryz.ntmps249
  go_wp2_with (go_at_call 289; refine h.out.mono ?_; intro e w' hp; obtain ⟨c, rfl⟩ := hR.out e w' hp; replace hp := Hd.mk hp)
  exact hp.out
theorem subVV_of {z x y : Value} {w : World} {R : Ending → World → Prop} (h : Calls Tryz.prog 291 #[z, x, y] w R) (hR : ∀ e w', R e w' → ∃ c, e = .returned c) :
    Calls Tryz.prog 252 #[z, x, y] w R := by
  replace h := Hd.mk h
  replace hR := Hd.mk hR
  go_enter Tryz.func252, Tryz.ntmps252
  go_wp2_with (go_at_call 291; refine h.out.mono ?_; intro e w' hp; obtain ⟨c, rfl⟩ := hR.out e w' hp; replace hp := Hd.mk hp)
  exact hp.out
theorem mulAddVWW_of {z x y r : Value} {w : World} {R : Ending → World → Prop} (h : Calls Tryz.prog 333 #[z, x, y, r] w R) (hR : ∀ e w', R e w' → ∃ c, e = .returned c) :
    Calls Tryz.prog 299 #[z, x, y, r] w R := by
  replace h := Hd.mk h
  replace hR := Hd.mk hR
  go_enter Tryz.func299, Tryz.ntmps299
  go_wp2_with (go_at_call 333; refine h.out.mono ?_; intro e w' hp; obtain ⟨c, rfl⟩ := hR.out e w' hp; replace hp := Hd.mk hp)
  exact hp.out
theorem addMulVVWW_of {z x y m a : Value} {w : World} {R : Ending → World → Prop} (h : Calls Tryz.prog 344 #[z, x, y, m, a] w R) (hR : ∀ e w', R e w' → ∃ c, e = .returned c) :
    Calls Tryz.prog 309 #[z, x, y, m, a] w R := by
  replace h := Hd.mk h
  replace hR := Hd.mk hR
  go_enter Tryz.func309, Tryz.ntmps309
  go_wp2_with (go_at_call 344; refine h.out.mono ?_; intro e w' hp; obtain ⟨c, rfl⟩ := hR.out e w' hp; replace hp := Hd.mk hp)
  exact hp.out
set_option maxHeartbeats 400000 in
theorem nadd_ge (z x y : Value) (a b : Nat) (oz ox oy : Option Nat) (w : World) (hz : RecvS w z oz) (hx : NatS w x a ox) (hy : NatS w y b oy) (ha : wlen a < 800) (hab : wlen b ≤ wlen a) :
    Calls Tryz.prog 221 #[z, x, y] w fun e w' => ∃ v, e = .returned v ∧ NatR w w' oz (a + b) v := by
  have hset := Hd.mk (set_any z x a oz ox w hz hx ha)
  obtain ⟨Z, lz, cz, rfl, hlz, hcz, hrz⟩ := hz
  obtain ⟨A, ca, rfl, hla, hca, hra, hsa⟩ := hx.open
  obtain ⟨B, cb, rfl, hlb, hcb, hrb, hsb⟩ := hy.open
  replace hsa := Hd.mk hsa
  replace hsb := Hd.mk hsb
  replace hra := Hd.mk hra
  replace hrb := Hd.mk hrb
  clear hx hy
  by_cases h0 : wlen a = 0
  · have h1 : a = 0 ∧ b = 0 := ⟨wlen_eq_zero.1 h0, wlen_eq_zero.1 (by omega)⟩
    obtain ⟨rfl, rfl⟩ := h1
    rw [wlen_zero] at *
    replace hrz := Hd.mk hrz
    clear hset
    go_enter Tryz.func221, Tryz.ntmps221
    go_wp2
    go_ret
    exact ⟨_, rfl, NatR.zero (Chg.refl _ _) hrz.out hcz⟩
  · have hd0 : ((wlen a : Int) == 0) = false := by simp; omega
    by_cases h1 : wlen b = 0
    · have h2 : b = 0 := wlen_eq_zero.1 h1
      subst h2
      rw [wlen_zero] at *
      replace hrz := Hd.mk hrz
      go_enter Tryz.func221, Tryz.ntmps221
      go_wp2_with (go_at_call 199; refine hset.out.mono ?_; rintro e w' ⟨v, rfl, hv⟩; replace hv := Hd.mk hv)
      go_ret
      exact ⟨_, rfl, by simpa using hv.out⟩
    · have hd1 : ((wlen b : Int) == 0) = false := by simp; omega
      obtain ⟨KA, rfl, hoa, sa⟩ := hsa.out (by omega)
      obtain ⟨KB, rfl, hob, sb⟩ := hsb.out (by omega)
      have hmk := make_pos Z lz cz (wlen a + 1) oz w hlz hcz hrz (by omega) (by omega)
      rw [show ((wlen a + 1 : Nat) : Int) = (wlen a : Int) + 1 by omega] at hmk
      replace hmk := Hd.mk hmk
      replace sa := Hd.mk sa
      replace sb := Hd.mk sb
      replace hoa := Hd.mk hoa
      replace hob := Hd.mk hob
      clear hset
      go_enter Tryz.func221, Tryz.ntmps221
      go_wp2_with (go_at_call 230; refine hmk.out.mono ?_; rintro e w1 ⟨K, xs, rfl, hb, hl1, hl2, hbel, hK⟩; replace hb := Hd.mk hb; replace hbel := Hd.mk hbel; replace hK := Hd.mk hK; have sa1 := Hd.mk (sa.out.of_heap (hbel.out.block KA (hra.out.lt hoa.out))); have sb1 := Hd.mk (sb.out.of_heap (hbel.out.block KB (hrb.out.lt hob.out))))
      have hVV := Hd.mk (addVV_of (addVV_g_any K 0 xs.length KA 0 ca KB 0 cb (wlen b) 146 xs (dig a) (dig b) w1.drew (by omega) hb.out (by omega) (sa1.out.mono hab) sb1.out (fun i _ => dig_lt a i) (fun i _ => dig_lt b i) (fun _ => Nat.le_refl _) (fun _ => Nat.le_refl _)) fun e w' h => ⟨_, h.1⟩)
      have hs0 : (0 : Int) ≤ (wlen b : Int) := by omega
      have hs1 : (wlen b : Int) ≤ (xs.length : Int) := by omega
      have hs2 : (wlen b : Int) ≤ (ca : Int) := by omega
      have hs3 : (wlen b : Int) ≤ (cb : Int) := by omega
      by_cases hmn : wlen b < wlen a
      · have hs4 : (wlen b : Int) ≤ (wlen a : Int) := by omega
        obtain ⟨ysA, hbA⟩ : ∃ ys, Blk w KA 146 ys := by rcases hra.out with ⟨h, _⟩ | ⟨K', ys, h, _, _, h', _⟩ <;> cases h; exact ⟨ys, h'⟩
        have hbA1 := Hd.mk (hbA.of_heap (hbel.out.block KA hbA.lt))
        replace hbA := Hd.mk hbA
        go_still_tail 9, (by kernel_rfl)
        change wpList _ _ _ _ _ w1.drew
        go_wp2_with (go_at_call 249; refine hVV.out.mono ?_; rintro e w2 ⟨rfl, hp2⟩; replace hp2 := Hd.mk hp2)
        have hbA2 : HB w2 KA := by
          by_cases e : KA = K
          · subst e; exact hp2.out.here.hb
          · exact (hp2.out.blk (k := KA) hbA1.out e).hb
        have hc1 := addC_le (n := wlen b) (fun i _ => dig_lt a i) (fun i _ => dig_lt b i) (Nat.zero_le 1)
        have hVW := Hd.mk (addVW_any K (wlen b) (xs.length - wlen b) KA (wlen b) (ca - wlen b) (wlen a - wlen b) (addC (dig a) (dig b) 0 (wlen b)) 146 _ (fun i => dig a (wlen b + i)) w2.drew (by omega) (by omega) (by unfold BB; omega) (fun _ => rfl) hbA2 (by omega) (by omega) hp2.out.here (by rw [over_length]; omega) (Seg.rest (w := w1.drew) sa1.out hb.out hp2.out.drew) (fun i _ => dig_lt a _))
        replace hbA2 := Hd.mk hbA2
        replace hc1 := Hd.mk hc1
        have hs5 : ¬ ca = wlen b := by omega
        have hs6 : ¬ xs.length = wlen b := by omega
        have hs7 : (wlen a : Int) ≤ (xs.length : Int) := by omega
        go_still_tail 8, (by kernel_rfl)
        change wpList _ _ _ _ _ w2.drew
        go_wp2_with (go_at_call 250; refine hVW.out.mono ?_; rintro e w3 ⟨rfl, hp3⟩; have h1 : ∃ v, w3.cell? ⟨K, wlen a, none⟩ = some v := ⟨_, by rw [hp3.here.cell, List.getElem?_eq_getElem (by rw [over_length, over_length]; omega)]⟩; obtain ⟨v1, h1⟩ := h1; have h2 := hp3.here.frozen (wlen a); replace hp3 := Hd.mk hp3)
        obtain ⟨d, hd⟩ : ∃ d, wlen a = wlen b + (d + 1) := ⟨wlen a - wlen b - 1, by omega⟩
        have hp4 := (hp2.out.drew.trans hp3.out).set (wlen a) (.int .u64 (addC (fun i => dig a (wlen b + i)) (one0 (addC (dig a) (dig b) 0 (wlen b))) 0 (wlen a - wlen b) : Nat))
        rw [over_join, show wlen b + (wlen a - wlen b) = wlen a by omega] at hp4
        have hF : Hd (∀ i, i < wlen a → (if i < wlen b then addD (dig a) (dig b) 0 i else addD (fun i => dig a (wlen b + i)) (one0 (addC (dig a) (dig b) 0 (wlen b))) 0 (i - wlen b)) < BB) := ⟨fun i _ => by
          split
          · exact addD_lt _ _ _ _
          · exact addD_lt _ _ _ _⟩
        have hC : Hd (addC (fun i => dig a (wlen b + i)) (one0 (addC (dig a) (dig b) 0 (wlen b))) 0 (wlen a - wlen b) < BB) := ⟨by
          have h5 : addC (dig a) (dig b) 0 (wlen b) < BB := by have := hc1.out; unfold BB; omega
          have := addC_le (n := wlen a - wlen b) (X := fun i => dig a (wlen b + i)) (Y := one0 (addC (dig a) (dig b) 0 (wlen b))) (fun i _ => dig_lt a _) (fun i _ => one0_lt h5 i) (Nat.zero_le 1); unfold BB; omega⟩
        have hsg := seg_top hp4.here (by omega)
        refine (norm_any K (wlen a + 1) xs.length _ _ (by omega) (by omega) (top_lt hF.out hC.out) hsg).mono ?_
        rintro e w' ⟨rfl, rfl⟩
        have hres := NatR.of_norm (oz := oz) (((Chg.of_below hbel.out oz).drew).put hp4 hK.out) hp4.here (by rw [List.length_set, over_length]) (by omega) (by omega) hl2 hsg (top_lt hF.out hC.out) (m := a + b) (by
          rw [val_top]
          have h3 := add_two (dig a) (dig b) (wlen b) d
          rw [← hd, val_wlen, val_wlen, show d + 1 = wlen a - wlen b by omega, ← val_join, show wlen b + (wlen a - wlen b) = wlen a by omega] at h3
          exact h3) hK.out
        replace hres := Hd.mk hres
        clear hp4 hsg hd
        go_wp2
        go_ret
        exact ⟨_, rfl, hres.out⟩
      · have hll : Hd (wlen b = wlen a) := ⟨by omega⟩
        have hF : Hd (∀ i, i < wlen a → addD (dig a) (dig b) 0 i < BB) := ⟨fun i _ => addD_lt _ _ _ _⟩
        have hC : Hd (addC (dig a) (dig b) 0 (wlen b) < BB) := ⟨by have := addC_le (n := wlen b) (fun i _ => dig_lt a i) (fun i _ => dig_lt b i) (Nat.zero_le 1); unfold BB; omega⟩
        go_still_tail 9, (by kernel_rfl)
        change wpList _ _ _ _ _ w1.drew
        go_wp2_with (first | (go_at_call 249; refine hVV.out.mono ?_; rintro e w2 ⟨rfl, hp2⟩; have h1 : ∃ v, w2.cell? ⟨K, wlen a, none⟩ = some v := ⟨_, by rw [hp2.here.cell, List.getElem?_eq_getElem (by rw [over_length]; omega)]⟩; obtain ⟨v1, h1⟩ := h1; have h2 := hp2.here.frozen (wlen a); replace hp2 := Hd.mk hp2))
        have hp3 := hp2.out.set (wlen a) (.int .u64 (addC (dig a) (dig b) 0 (wlen b) : Nat))
        rw [show over xs 0 (wlen b) (addD (dig a) (dig b) 0) = over xs 0 (wlen a) (addD (dig a) (dig b) 0) by rw [hll.out]] at hp3
        have hsg := seg_top hp3.here (by omega)
        refine (norm_any K (wlen a + 1) xs.length _ _ (by omega) (by omega) (top_lt hF.out hC.out) hsg).mono ?_
        rintro e w' ⟨rfl, rfl⟩
        have hres := NatR.of_norm (oz := oz) (((Chg.of_below hbel.out oz).drew).put hp3 hK.out) hp3.here (by rw [List.length_set, over_length]) (by omega) (by omega) hl2 hsg (top_lt hF.out hC.out) (m := a + b) (by
          rw [val_top]
          have h3 := add_law (dig a) (dig b) 0 (wlen a)
          rw [val_wlen, ← hll.out, val_wlen, Nat.add_zero] at h3
          rw [← hll.out]; exact h3) hK.out
        replace hres := Hd.mk hres
        clear hp3 hsg
        go_wp2
        go_ret
        exact ⟨_, rfl, hres.out⟩
set_option maxHeartbeats 400000 in
theorem nadd_any (z x y : Value) (a b : Nat) (oz ox oy : Option Nat) (w : World) (hz : RecvS w z oz) (hx : NatS w x a ox) (hy : NatS w y b oy) (ha : wlen a < 800) (hb : wlen b < 800) :
    Calls Tryz.prog 221 #[z, x, y] w fun e w' => ∃ v, e = .returned v ∧ NatR w w' oz (a + b) v := by
  by_cases hab : wlen b ≤ wlen a
  · exact nadd_ge z x y a b oz ox oy w hz hx hy ha hab
  · have h := Hd.mk (nadd_ge z y x b a oz oy ox w hz hy hx hb (by omega))
    obtain ⟨Z, lz, cz, rfl, hlz, hcz, hrz⟩ := hz
    obtain ⟨A, ca, rfl, hla, hca, hra, hsa⟩ := hx.open
    obtain ⟨B, cb, rfl, hlb, hcb, hrb, hsb⟩ := hy.open
    replace hsa := Hd.mk hsa
    replace hsb := Hd.mk hsb
    replace hra := Hd.mk hra
    replace hrb := Hd.mk hrb
    replace hrz := Hd.mk hrz
    clear hx hy
    have hlt : wlen a < wlen b := by omega
    go_enter Tryz.func221, Tryz.ntmps221
    go_wp2_with (go_at_call 221; refine h.out.mono ?_; rintro e w' ⟨v, rfl, hv⟩; replace hv := Hd.mk hv)
    go_ret
    exact ⟨_, rfl, by rw [Nat.add_comm]; exact hv.out⟩
theorem sub_none {V a b c n : Nat} (hba : b ≤ a) (hV : V < BB ^ n) (h : V + b = a + c * BB ^ n) : c = 0 ∧ V = a - b := by
  have : c = 0 := by
    rcases Nat.eq_zero_or_pos c with h0 | h0
    · exact h0
    · have : 1 * BB ^ n ≤ c * BB ^ n := Nat.mul_le_mul_right _ h0
      omega
  subst this
  omega
set_option maxHeartbeats 400000 in
theorem nsub_any (z x y : Value) (a b : Nat) (oz ox oy : Option Nat) (w : World) (hz : RecvS w z oz) (hx : NatS w x a ox) (hy : NatS w y b oy) (ha : wlen a < 800) (hba : b ≤ a) :
    Calls Tryz.prog 222 #[z, x, y] w fun e w' => ∃ v, e = .returned v ∧ NatR w w' oz (a - b) v := by
  have hab := wlen_mono hba
  have hset := Hd.mk (set_any z x a oz ox w hz hx ha)
  obtain ⟨Z, lz, cz, rfl, hlz, hcz, hrz⟩ := hz
  obtain ⟨A, ca, rfl, hla, hca, hra, hsa⟩ := hx.open
  obtain ⟨B, cb, rfl, hlb, hcb, hrb, hsb⟩ := hy.open
  replace hsa := Hd.mk hsa
  replace hsb := Hd.mk hsb
  replace hra := Hd.mk hra
  replace hrb := Hd.mk hrb
  clear hx hy
  by_cases h0 : wlen a = 0
  · have h1 : a = 0 ∧ b = 0 := ⟨wlen_eq_zero.1 h0, wlen_eq_zero.1 (by omega)⟩
    obtain ⟨rfl, rfl⟩ := h1
    rw [wlen_zero] at *
    replace hrz := Hd.mk hrz
    clear hset
    go_enter Tryz.func222, Tryz.ntmps222
    go_wp2
    go_ret
    exact ⟨_, rfl, NatR.zero (Chg.refl _ _) hrz.out hcz⟩
  · have hd0 : ((wlen a : Int) == 0) = false := by simp; omega
    by_cases h1 : wlen b = 0
    · have h2 : b = 0 := wlen_eq_zero.1 h1
      subst h2
      rw [wlen_zero] at *
      replace hrz := Hd.mk hrz
      go_enter Tryz.func222, Tryz.ntmps222
      go_wp2_with (go_at_call 199; refine hset.out.mono ?_; rintro e w' ⟨v, rfl, hv⟩; replace hv := Hd.mk hv)
      go_ret
      exact ⟨_, rfl, by simpa using hv.out⟩
    · have hd1 : ((wlen b : Int) == 0) = false := by simp; omega
      obtain ⟨KA, rfl, hoa, sa⟩ := hsa.out (by omega)
      obtain ⟨KB, rfl, hob, sb⟩ := hsb.out (by omega)
      have hmk := make_pos Z lz cz (wlen a) oz w hlz hcz hrz (by omega) (by omega)
      replace hmk := Hd.mk hmk
      replace sa := Hd.mk sa
      replace sb := Hd.mk sb
      replace hoa := Hd.mk hoa
      replace hob := Hd.mk hob
      clear hset
      go_enter Tryz.func222, Tryz.ntmps222
      go_wp2_with (go_at_call 230; refine hmk.out.mono ?_; rintro e w1 ⟨K, xs, rfl, hb, hl1, hl2, hbel, hK⟩; replace hb := Hd.mk hb; replace hbel := Hd.mk hbel; replace hK := Hd.mk hK; have sa1 := Hd.mk (sa.out.of_heap (hbel.out.block KA (hra.out.lt hoa.out))); have sb1 := Hd.mk (sb.out.of_heap (hbel.out.block KB (hrb.out.lt hob.out))))
      have hVV := Hd.mk (subVV_of (subVV_g_any K 0 xs.length KA 0 ca KB 0 cb (wlen b) 146 xs (dig a) (dig b) w1.drew (by omega) hb.out (by omega) (sa1.out.mono hab) sb1.out (fun i _ => dig_lt a i) (fun i _ => dig_lt b i) (fun _ => Nat.le_refl _) (fun _ => Nat.le_refl _)) fun e w' h => ⟨_, h.1⟩)
      have hs0 : (0 : Int) ≤ (wlen b : Int) := by omega
      have hs1 : (wlen b : Int) ≤ (xs.length : Int) := by omega
      have hs2 : (wlen b : Int) ≤ (ca : Int) := by omega
      have hs3 : (wlen b : Int) ≤ (cb : Int) := by omega
      by_cases hmn : wlen b < wlen a
      · have hs4 : (wlen b : Int) ≤ (wlen a : Int) := by omega
        obtain ⟨ysA, hbA⟩ : ∃ ys, Blk w KA 146 ys := by rcases hra.out with ⟨h, _⟩ | ⟨K', ys, h, _, _, h', _⟩ <;> cases h; exact ⟨ys, h'⟩
        have hbA1 := Hd.mk (hbA.of_heap (hbel.out.block KA hbA.lt))
        replace hbA := Hd.mk hbA
        go_still_tail 9, (by kernel_rfl)
        change wpList _ _ _ _ _ w1.drew
        go_wp2_with (go_at_call 252; refine hVV.out.mono ?_; rintro e w2 ⟨rfl, hp2⟩; replace hp2 := Hd.mk hp2)
        have hbA2 : HB w2 KA := by
          by_cases e : KA = K
          · subst e; exact hp2.out.here.hb
          · exact (hp2.out.blk (k := KA) hbA1.out e).hb
        have hc1 := subC_le (X := dig a) (Y := dig b) (Nat.zero_le 1) (wlen b)
        have hVW := Hd.mk (subVW_any K (wlen b) (xs.length - wlen b) KA (wlen b) (ca - wlen b) (wlen a - wlen b) (subC (dig a) (dig b) 0 (wlen b)) 146 _ (fun i => dig a (wlen b + i)) w2.drew (by omega) (by omega) (by unfold BB; omega) (fun _ => rfl) hbA2 (by omega) (by omega) hp2.out.here (by rw [over_length]; omega) (Seg.rest (w := w1.drew) sa1.out hb.out hp2.out.drew) (fun i _ => dig_lt a _))
        replace hbA2 := Hd.mk hbA2
        replace hc1 := Hd.mk hc1
        have hs5 : ¬ ca = wlen b := by omega
        have hs6 : ¬ xs.length = wlen b := by omega
        have hs7 : (wlen a : Int) ≤ (xs.length : Int) := by omega
        go_still_tail 7, (by kernel_rfl)
        change wpList _ _ _ _ _ w2.drew
        obtain ⟨d, hd⟩ : ∃ d, wlen a = wlen b + (d + 1) := ⟨wlen a - wlen b - 1, by omega⟩
        have hF : Hd (∀ i, i < wlen a → (if i < wlen b then subD (dig a) (dig b) 0 i else subD (fun i => dig a (wlen b + i)) (one0 (subC (dig a) (dig b) 0 (wlen b))) 0 (i - wlen b)) < BB) := ⟨fun i _ => by
          split
          · exact subD_lt _ _ _ _
          · exact subD_lt _ _ _ _⟩
        have hlaw : Hd (subC (fun i => dig a (wlen b + i)) (one0 (subC (dig a) (dig b) 0 (wlen b))) 0 (wlen a - wlen b) = 0 ∧ val (wlen a) (fun i => if i < wlen b then subD (dig a) (dig b) 0 i else subD (fun i => dig a (wlen b + i)) (one0 (subC (dig a) (dig b) 0 (wlen b))) 0 (i - wlen b)) = a - b) := ⟨by
          have h3 := sub_two (X := dig a) (Y := dig b) (n := wlen b) (d := d) (fun i _ => dig_lt a i) (fun i _ => dig_lt b i)
          rw [← hd, val_wlen, val_wlen, show d + 1 = wlen a - wlen b by omega, ← val_join, show wlen b + (wlen a - wlen b) = wlen a by omega] at h3
          exact sub_none hba (val_lt hF.out) h3⟩
        have hz0 : (((subC (fun i => dig a (wlen b + i)) (one0 (subC (dig a) (dig b) 0 (wlen b))) 0 (wlen a - wlen b) : Nat) : Int) != 0) = false := by rw [hlaw.out.1]; rfl
        replace hd := Hd.mk hd
        go_wp2_with (go_at_call 253; refine hVW.out.mono ?_; rintro e w3 ⟨rfl, hp3⟩; replace hp3 := Hd.mk hp3)
        have hp4 := hp2.out.drew.trans hp3.out
        rw [over_join, show wlen b + (wlen a - wlen b) = wlen a by omega] at hp4
        have hsg := seg_of_over0 hp4.here hl1
        refine (norm_any K (wlen a) xs.length _ _ (by omega) (by omega) hF.out hsg).mono ?_
        rintro e w' ⟨rfl, rfl⟩
        have hres := NatR.of_norm (oz := oz) (((Chg.of_below hbel.out oz).drew).put hp4 hK.out) hp4.here (over_length _ _ _ _) hl1 (by omega) hl2 hsg hF.out (m := a - b) hlaw.out.2 hK.out
        replace hres := Hd.mk hres
        clear hp4 hsg
        go_wp2
        go_ret
        exact ⟨_, rfl, hres.out⟩
      · have hll : Hd (wlen b = wlen a) := ⟨by omega⟩
        have hF : Hd (∀ i, i < wlen a → subD (dig a) (dig b) 0 i < BB) := ⟨fun i _ => subD_lt _ _ _ _⟩
        have hlaw : Hd (subC (dig a) (dig b) 0 (wlen b) = 0 ∧ val (wlen a) (subD (dig a) (dig b) 0) = a - b) := ⟨by
          have h3 := sub_law (X := dig a) (Y := dig b) (c := 0) (n := wlen a) (fun i _ => dig_lt a i) (fun i _ => dig_lt b i) (by omega)
          rw [val_wlen, ← hll.out, val_wlen, Nat.add_zero] at h3
          rw [← hll.out]
          exact sub_none hba (val_lt fun i _ => subD_lt _ _ _ _) h3⟩
        have hz0 : (((subC (dig a) (dig b) 0 (wlen b) : Nat) : Int) != 0) = false := by rw [hlaw.out.1]; rfl
        go_still_tail 9, (by kernel_rfl)
        change wpList _ _ _ _ _ w1.drew
        go_wp2_with (go_at_call 252; refine hVV.out.mono ?_; rintro e w2 ⟨rfl, hp2⟩; replace hp2 := Hd.mk hp2)
        have hp3 := hp2.out
        rw [show over xs 0 (wlen b) (subD (dig a) (dig b) 0) = over xs 0 (wlen a) (subD (dig a) (dig b) 0) by rw [hll.out]] at hp3
        have hsg := seg_of_over0 hp3.here hl1
        refine (norm_any K (wlen a) xs.length _ _ (by omega) (by omega) hF.out hsg).mono ?_
        rintro e w' ⟨rfl, rfl⟩
        have hres := NatR.of_norm (oz := oz) (((Chg.of_below hbel.out oz).drew).put hp3 hK.out) hp3.here (over_length _ _ _ _) hl1 (by omega) hl2 hsg hF.out (m := a - b) hlaw.out.2 hK.out
        replace hres := Hd.mk hres
        clear hp3 hsg
        go_wp2
        go_ret
        exact ⟨_, rfl, hres.out⟩
end Go.Proofs.YtdbjdpooggaonaaGreatDoor
end
