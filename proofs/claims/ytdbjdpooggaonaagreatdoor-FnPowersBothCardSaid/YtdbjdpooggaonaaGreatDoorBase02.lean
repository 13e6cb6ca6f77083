/- A vector and a word: addVW, subVW. Natural numbers in memory, and the small functions on them: norm, make, set, setWord, cmp. Conditions: those that each theorem states. -/
import Derived.Test.YtdbjdpooggaonaaGreatDoorBase01
set_option linter.all false

section
namespace Go.Proofs.YtdbjdpooggaonaaGreatDoor
open Go.RowKit
/-- The word y, and noughts. -/
def one0 (y i : Nat) : Nat := if i = 0 then y else 0
theorem one0_pos (y : Nat) {i : Nat} (h : 0 < i) : one0 y i = 0 := by unfold one0; rw [if_neg (by omega)]
theorem one0_lt {y : Nat} (h : y < BB) (i : Nat) : one0 y i < BB := by unfold one0; split; exact h; exact BB_pos
theorem val_one0 (y : Nat) : ∀ n, val (n + 1) (one0 y) = y
  | 0 => by simp [val, one0]
  | n + 1 => by rw [val_succ, val_one0 y n, one0_pos y (by omega)]; simp
theorem add_two (X Y : Nat → Nat) (n d : Nat) : val n (addD X Y 0) + BB ^ n * val (d + 1) (addD (fun i => X (n + i)) (one0 (addC X Y 0 n)) 0) + addC (fun i => X (n + i)) (one0 (addC X Y 0 n)) 0 (d + 1) * BB ^ (n + (d + 1)) = val (n + (d + 1)) X + val n Y := by
  have h1 := add_law X Y 0 n
  have h2 := add_law (fun i => X (n + i)) (one0 (addC X Y 0 n)) 0 (d + 1)
  rw [val_one0] at h2
  rw [val_split n (d + 1) X, Nat.pow_add]
  generalize val (d + 1) (addD (fun i => X (n + i)) (one0 (addC X Y 0 n)) 0) = V at *
  generalize addC (fun i => X (n + i)) (one0 (addC X Y 0 n)) 0 (d + 1) = C' at *
  generalize addC X Y 0 n = C at *
  generalize val (d + 1) (fun i => X (n + i)) = A at *
  have h3 : BB ^ n * (V + C' * BB ^ (d + 1)) = BB ^ n * (A + C) := by rw [h2, Nat.add_zero]
  rw [Nat.mul_add, Nat.mul_add, Nat.mul_left_comm (BB ^ n) C', Nat.mul_comm (BB ^ n) C] at h3
  omega
theorem sub_two {X Y : Nat → Nat} {n d : Nat} (hX : ∀ i, i < n + (d + 1) → X i < BB) (hY : ∀ i, i < n → Y i < BB) : val n (subD X Y 0) + BB ^ n * val (d + 1) (subD (fun i => X (n + i)) (one0 (subC X Y 0 n)) 0) + val n Y = val (n + (d + 1)) X + subC (fun i => X (n + i)) (one0 (subC X Y 0 n)) 0 (d + 1) * BB ^ (n + (d + 1)) := by
  have h1 := sub_law (X := X) (Y := Y) (c := 0) (n := n) (fun i hi => hX i (by omega)) hY (by omega)
  have hc : one0 (subC X Y 0 n) 0 ≤ 1 := subC_le (by omega) n
  have h2 := sub_law (X := fun i => X (n + i)) (Y := one0 (subC X Y 0 n)) (c := 0) (n := d + 1) (fun i hi => hX _ (by omega)) (fun i _ => one0_lt (by have := subC_le (X := X) (Y := Y) (c := 0) (by omega) n; unfold BB; omega) i) (by omega)
  rw [val_one0] at h2
  rw [val_split n (d + 1) X, Nat.pow_add]
  generalize val (d + 1) (subD (fun i => X (n + i)) (one0 (subC X Y 0 n)) 0) = V at *
  generalize subC (fun i => X (n + i)) (one0 (subC X Y 0 n)) 0 (d + 1) = C' at *
  generalize subC X Y 0 n = C at *
  generalize val (d + 1) (fun i => X (n + i)) = A at *
  have h3 : BB ^ n * (V + C) = BB ^ n * (A + C' * BB ^ (d + 1)) := by rw [← h2, Nat.add_zero]
  rw [Nat.mul_add, Nat.mul_add, Nat.mul_left_comm (BB ^ n) C', Nat.mul_comm (BB ^ n) C] at h3
  omega
theorem over_join (xs : List Value) (n d : Nat) (f g : Nat → Nat) : over (over xs 0 n f) n d g = over xs 0 (n + d) (fun i => if i < n then f i else g (i - n)) := by
  have := over_over xs 0 n d f g
  rwa [Nat.zero_add] at this
theorem val_join (n d : Nat) (f g : Nat → Nat) : val (n + d) (fun i => if i < n then f i else g (i - n)) = val n f + BB ^ n * val d g := by
  rw [val_split, val_ext (n := n) (g := f) (fun i hi => if_pos hi), val_ext (n := d) (g := g) (fun i hi => by rw [if_neg (by omega)]; congr 1; omega)]
/-- Once there is no carry, there is none any more, and the words stay. -/
theorem addC_stop {X : Nat → Nat} {y k n : Nat} (hX : ∀ i, i < n → X i < BB) (hk : 0 < k) (h : addC X (one0 y) 0 k = 0) : ∀ j, k ≤ j → j ≤ n → addC X (one0 y) 0 j = 0 := by
  intro j
  induction j with
  | zero => intro h1; omega
  | succ j ih =>
    intro h1 h2
    by_cases e : k = j + 1
    · rw [← e]; exact h
    · show (X j + one0 y j + addC X (one0 y) 0 j) / BB = 0
      rw [ih (by omega) (by omega), one0_pos y (by omega)]
      exact Nat.div_eq_of_lt (by simpa using hX j (by omega))
theorem addD_stop {X : Nat → Nat} {y k n : Nat} (hX : ∀ i, i < n → X i < BB) (hk : 0 < k) (h : addC X (one0 y) 0 k = 0) : ∀ j, k ≤ j → j < n → addD X (one0 y) 0 j = X j := by
  intro j h1 h2
  unfold addD
  rw [addC_stop hX hk h j h1 (by omega), one0_pos y (by omega)]
  exact Nat.mod_eq_of_lt (by simpa using hX j h2)
theorem addD_last {X : Nat → Nat} {y k : Nat} (hk : 0 < k) (h : addC X (one0 y) 0 k = 1) (hl : X k + 1 < BB) : addD X (one0 y) 0 k = X k + 1 ∧ addC X (one0 y) 0 (k + 1) = 0 := by
  unfold addD
  have e : X k + one0 y k + addC X (one0 y) 0 k = X k + 1 := by rw [h, one0_pos y hk]
  exact ⟨by rw [e, Nat.mod_eq_of_lt hl], by show (X k + one0 y k + addC X (one0 y) 0 k) / BB = 0; rw [e]; exact Nat.div_eq_of_lt hl⟩
theorem addD_over {X : Nat → Nat} {y k : Nat} (hk : 0 < k) (h : addC X (one0 y) 0 k = 1) (hl : X k + 1 = BB) : addD X (one0 y) 0 k = 0 ∧ addC X (one0 y) 0 (k + 1) = 1 := by
  unfold addD
  have e : X k + one0 y k + addC X (one0 y) 0 k = BB := by rw [h, one0_pos y hk]; omega
  exact ⟨by rw [e, Nat.mod_self], by show (X k + one0 y k + addC X (one0 y) 0 k) / BB = 1; rw [e]; exact Nat.div_self BB_pos⟩
theorem subC_stop {X : Nat → Nat} {y k n : Nat} (hk : 0 < k) (h : subC X (one0 y) 0 k = 0) : ∀ j, k ≤ j → j ≤ n → subC X (one0 y) 0 j = 0 := by
  intro j
  induction j with
  | zero => intro h1; omega
  | succ j ih =>
    intro h1 h2
    by_cases e : k = j + 1
    · rw [← e]; exact h
    · show (if X j < one0 y j + subC X (one0 y) 0 j then 1 else 0) = 0
      rw [ih (by omega) (by omega), one0_pos y (by omega)]
      simp
theorem subD_stop {X : Nat → Nat} {y k n : Nat} (hX : ∀ i, i < n → X i < BB) (hk : 0 < k) (h : subC X (one0 y) 0 k = 0) : ∀ j, k ≤ j → j < n → subD X (one0 y) 0 j = X j := by
  intro j h1 h2
  unfold subD
  rw [subC_stop (n := n) hk h j h1 (by omega), one0_pos y (by omega), Nat.sub_zero, Nat.sub_zero, Nat.add_mod_right]
  exact Nat.mod_eq_of_lt (hX j h2)
theorem subD_last {X : Nat → Nat} {y k : Nat} (hk : 0 < k) (h : subC X (one0 y) 0 k = 1) (hl : 0 < X k) (hX : X k < BB) : subD X (one0 y) 0 k = X k - 1 ∧ subC X (one0 y) 0 (k + 1) = 0 := by
  refine ⟨?_, ?_⟩
  · unfold subD
    rw [h, one0_pos y hk, show X k + BB - 0 - 1 = X k - 1 + BB by omega, Nat.add_mod_right, Nat.mod_eq_of_lt (by omega)]
  · show (if X k < one0 y k + subC X (one0 y) 0 k then 1 else 0) = 0
    rw [h, one0_pos y hk, if_neg (by omega)]
theorem subD_over {X : Nat → Nat} {y k : Nat} (hk : 0 < k) (h : subC X (one0 y) 0 k = 1) (hl : X k = 0) : subD X (one0 y) 0 k = BB - 1 ∧ subC X (one0 y) 0 (k + 1) = 1 := by
  refine ⟨?_, ?_⟩
  · unfold subD
    rw [h, one0_pos y hk, hl]
    have := BB_pos
    rw [Nat.mod_eq_of_lt (by omega)]; omega
  · show (if X k < one0 y k + subC X (one0 y) 0 k then 1 else 0) = 1
    rw [h, one0_pos y hk, if_pos (by omega)]
/-- What is left in place, or copied, behind the last carry. -/
theorem over_stay {w : World} {b o n k : Nat} {E : TypeId} {xs : List Value} {X D : Nat → Nat} (hb : Blk w b E xs) (hx : Seg w b o n X) (hk : k ≤ n) (h : ∀ j, k ≤ j → j < n → D j = X j) : over xs o n D = over xs o k D := by
  apply List.ext_getElem?
  intro j
  rw [over_get, over_get]
  by_cases h1 : o ≤ j ∧ j < o + k ∧ j < xs.length
  · rw [if_pos h1, if_pos (by omega)]
  · rw [if_neg h1]
    by_cases h2 : o ≤ j ∧ j < o + n ∧ j < xs.length
    · rw [if_pos h2, h (j - o) (by omega) (by omega), ← hx.blk hb (j - o) (by omega)]
      congr 1; omega
    · rw [if_neg h2]
theorem over_copied {xs : List Value} {o n k : Nat} {X D : Nat → Nat} (hk : k ≤ n) (h : ∀ j, k ≤ j → j < n → D j = X j) : over (over xs o k D) (o + k) (n - k) (fun i => X (k + i)) = over xs o n D := by
  rw [over_over, show k + (n - k) = n by omega]
  apply over_congr
  intro i hi
  by_cases h1 : i < k
  · rw [if_pos h1]
  · rw [if_neg h1, h i (by omega) hi]; congr 1; omega
theorem copy_zero (dp sp : Option Addr) (dc sc : Nat) (w : World) : (Builtin.copy_ #[103, 103] 3 #[.slice dp 0 dc, .slice sp 0 sc]).run Tryz.prog w = .ok (goInt 0) w :=
  run_copy_none w _ _ _ 146 dp sp 0 dc 0 sc Tryz.underlying103 (by kernel_rfl) rfl
theorem addK_le {x y : Nat} (hx : x < BB) (hy : y < BB) : addK x y 0 ≤ 1 := by unfold addK BB at *; omega
theorem subK_le (x y c : Nat) : subK x y c ≤ 1 := by unfold subK; split <;> omega
set_option maxHeartbeats 400000 in
theorem addVW_same (bz oz cz cx n y : Nat) (E : TypeId) (xs : List Value) (X : Nat → Nat) (w : World) (hn : n < 1000) (hn0 : 0 < n) (hyB : y < BB)
    (hz : Blk w bz E xs) (hzn : oz + n ≤ xs.length) (hx : Seg w bz oz n X) (hX : ∀ i, i < n → X i < BB) :
    Calls Tryz.prog 250 #[.slice (some ⟨bz, oz, none⟩) n cz, .slice (some ⟨bz, oz, none⟩) n cx, .int .u64 y] w fun e w' =>
      e = .returned (.int .u64 (addC X (one0 y) 0 n : Nat)) ∧ Put w w' bz E (over xs oz n (addD X (one0 y) 0)) := by
  have h1 := hx 0 (by omega)
  simp only [Nat.add_zero] at h1
  have h2 := hz.frozen oz
  have hq := wne_same ⟨bz, oz, none⟩
  have hX0 := hX 0 hn0
  replace hz := Hd.mk hz
  replace hx := Hd.mk hx
  replace hX := Hd.mk hX
  have hp1 : Hd (∀ w', Put w w' bz E (xs.set oz (.int .u64 (addS (X 0) y 0 : Nat))) → Put w w' bz E (over xs oz 1 (addD X (one0 y) 0))) := ⟨fun w' h => by
    have e := over_succ xs oz 0 (addD X (one0 y) 0)
    rw [over_zero] at e
    rw [← e]; exact h⟩
  by_cases h0 : addK (X 0) y 0 = 0
  · have hd : (((addK (X 0) y 0 : Nat) : Int) == 0) = true := by simp [h0]
    have hs : addC X (one0 y) 0 1 = 0 := h0
    replace h0 := Hd.mk h0
    replace hs := Hd.mk hs
    go_enter Tryz.func250, Tryz.ntmps250
    go_wp2_with (go_at_call 290; refine (Add_any _ _ 0 (by omega) _).mono ?_; rintro e w' ⟨rfl, rfl⟩)
    go_region
    go_wp2
    go_ret
    refine ⟨ret_int (by rw [addC_stop hX.out (by omega) hs.out n (by omega) (Nat.le_refl _)]; rfl), ?_⟩
    rw [over_stay (k := 1) hz.out hx.out (by omega) (addD_stop hX.out (by omega) hs.out)]
    exact hp1.out _ ((Put.refl hz.out).set _ _).drew
  · have hd : (((addK (X 0) y 0 : Nat) : Int) == 0) = false := by simp [h0]
    have hs1 : addC X (one0 y) 0 1 = 1 := by have : addK (X 0) y 0 ≤ 1 := addK_le hX0 hyB; show addK (X 0) y 0 = 1; omega
    replace h0 := Hd.mk h0
    replace hs1 := Hd.mk hs1
    go_enter Tryz.func250, Tryz.ntmps250
    go_wp2_with (go_at_call 290; refine (Add_any _ _ 0 (by omega) _).mono ?_; rintro e w' ⟨rfl, rfl⟩)
    go_loopw [9] (fun i wr => ∃ k : Nat, 0 < k ∧ k ≤ n ∧ i = .int .i64 k ∧ addC X (one0 y) 0 k = 1 ∧ Put w wr bz E (over xs oz k (addD X (one0 y) 0))) (fun i _ => n - (intOf i).toNat)
    case atStart => exact ⟨1, by omega, hn0, rfl, hs1.out, hp1.out _ ((Put.refl hz.out).set _ _)⟩
    case round =>
      obtain ⟨k, hk0, hk, rfl, hc, hp⟩ := hrel
      by_cases hlt : k < n
      · have hp0 := Hd.mk hp
        have g1 := hx.out.past hz.out hp (fun _ => Nat.le_refl _) hlt
        have g3 : ∃ v, wr.cell? ⟨bz, oz + k, none⟩ = some v := ⟨_, by rw [hp.here.cell, List.getElem?_eq_getElem (by rw [over_length]; omega)]⟩
        obtain ⟨v4, g3⟩ := g3
        have g4 := hp.here.frozen (oz + k)
        clear hp
        have hXk := hX.out k hlt
        replace hc := Hd.mk hc
        by_cases hl : X k + 1 < BB
        · have hd2 : (((X k : Nat) : Int) != 18446744073709551615) = true := by unfold BB at hl; simp; omega
          have hb : ((X k : Nat) : Int) + 1 < 18446744073709551616 := by unfold BB at hl; omega
          have hs := (addD_last hk0 hc.out hl).2
          have hv : Hd (((((addD X (one0 y) 0) k : Nat) : Nat) : Int) = (X k : Int) + 1) := ⟨by rw [(addD_last hk0 hc.out hl).1]; omega⟩
          replace hs := Hd.mk hs
          go_wp2
          go_region
          go_wp2
          go_ret
          refine ⟨ret_int (by rw [addC_stop hX.out (by omega) hs.out n (by omega) (Nat.le_refl _)]; rfl), ?_⟩
          rw [over_stay (k := k + 1) hz.out hx.out (by omega) (addD_stop hX.out (by omega) hs.out)]
          rw [← over_succ, show Value.int .u64 (((addD X (one0 y) 0) k : Nat) : Int) = Value.int .u64 ((X k : Int) + 1) from by rw [hv.out]]
          exact (hp0.out.set _ _).drew
        · have hd2 : (((X k : Nat) : Int) != 18446744073709551615) = false := by unfold BB at hl hXk; simp; omega
          go_wp2
          go_roundw
          case rel =>
            refine ⟨k + 1, by omega, hlt, by go_num, (addD_over hk0 hc.out (by omega)).2, ?_⟩
            rw [← over_succ, (addD_over hk0 hc.out (by omega)).1]
            exact hp0.out.set _ _
          case measure => simp [intOf]; omega
      · obtain rfl : k = n := by omega
        replace hc := Hd.mk hc
        replace hp := Hd.mk hp
        go_wp2
        go_ret
        exact ⟨ret_int (by rw [hc.out]; rfl), hp.out⟩
set_option maxHeartbeats 400000 in
theorem subVW_same (bz oz cz cx n y : Nat) (E : TypeId) (xs : List Value) (X : Nat → Nat) (w : World) (hn : n < 1000) (hn0 : 0 < n) (_hyB : y < BB)
    (hz : Blk w bz E xs) (hzn : oz + n ≤ xs.length) (hx : Seg w bz oz n X) (hX : ∀ i, i < n → X i < BB) :
    Calls Tryz.prog 253 #[.slice (some ⟨bz, oz, none⟩) n cz, .slice (some ⟨bz, oz, none⟩) n cx, .int .u64 y] w fun e w' =>
      e = .returned (.int .u64 (subC X (one0 y) 0 n : Nat)) ∧ Put w w' bz E (over xs oz n (subD X (one0 y) 0)) := by
  have h1 := hx 0 (by omega)
  simp only [Nat.add_zero] at h1
  have h2 := hz.frozen oz
  have hq := wne_same ⟨bz, oz, none⟩
  have hX0 := hX 0 hn0
  replace hz := Hd.mk hz
  replace hx := Hd.mk hx
  replace hX := Hd.mk hX
  have hp1 : Hd (∀ w', Put w w' bz E (xs.set oz (.int .u64 (subS (X 0) y 0 : Nat))) → Put w w' bz E (over xs oz 1 (subD X (one0 y) 0))) := ⟨fun w' h => by
    have e := over_succ xs oz 0 (subD X (one0 y) 0)
    rw [over_zero] at e
    rw [← e]; exact h⟩
  by_cases h0 : subK (X 0) y 0 = 0
  · have hd : (((subK (X 0) y 0 : Nat) : Int) == 0) = true := by simp [h0]
    have hs : subC X (one0 y) 0 1 = 0 := h0
    replace h0 := Hd.mk h0
    replace hs := Hd.mk hs
    go_enter Tryz.func253, Tryz.ntmps253
    go_wp2_with (go_at_call 292; refine (Sub_any _ _ 0 (by omega) _).mono ?_; rintro e w' ⟨rfl, rfl⟩)
    go_region
    go_wp2
    go_ret
    refine ⟨ret_int (by rw [subC_stop (n := n) (by omega) hs.out n (by omega) (Nat.le_refl _)]; rfl), ?_⟩
    rw [over_stay (k := 1) hz.out hx.out (by omega) (subD_stop hX.out (by omega) hs.out)]
    exact hp1.out _ ((Put.refl hz.out).set _ _).drew
  · have hd : (((subK (X 0) y 0 : Nat) : Int) == 0) = false := by simp [h0]
    have hs1 : subC X (one0 y) 0 1 = 1 := by have : subK (X 0) y 0 ≤ 1 := subK_le _ _ _; show subK (X 0) y 0 = 1; omega
    replace h0 := Hd.mk h0
    replace hs1 := Hd.mk hs1
    go_enter Tryz.func253, Tryz.ntmps253
    go_wp2_with (go_at_call 292; refine (Sub_any _ _ 0 (by omega) _).mono ?_; rintro e w' ⟨rfl, rfl⟩)
    go_loopw [9] (fun i wr => ∃ k : Nat, 0 < k ∧ k ≤ n ∧ i = .int .i64 k ∧ subC X (one0 y) 0 k = 1 ∧ Put w wr bz E (over xs oz k (subD X (one0 y) 0))) (fun i _ => n - (intOf i).toNat)
    case atStart => exact ⟨1, by omega, hn0, rfl, hs1.out, hp1.out _ ((Put.refl hz.out).set _ _)⟩
    case round =>
      obtain ⟨k, hk0, hk, rfl, hc, hp⟩ := hrel
      by_cases hlt : k < n
      · have hp0 := Hd.mk hp
        have g1 := hx.out.past hz.out hp (fun _ => Nat.le_refl _) hlt
        have g3 : ∃ v, wr.cell? ⟨bz, oz + k, none⟩ = some v := ⟨_, by rw [hp.here.cell, List.getElem?_eq_getElem (by rw [over_length]; omega)]⟩
        obtain ⟨v4, g3⟩ := g3
        have g4 := hp.here.frozen (oz + k)
        clear hp
        have hXk := hX.out k hlt
        replace hc := Hd.mk hc
        by_cases hl : 0 < X k
        · have hd2 : (((X k : Nat) : Int) != 0) = true := by simp; omega
          have hb : 1 ≤ ((X k : Nat) : Int) := by omega
          have hb2 : ((X k : Nat) : Int) < 18446744073709551616 := by unfold BB at hXk; omega
          have hs := (subD_last hk0 hc.out hl hXk).2
          have hv : Hd (((((subD X (one0 y) 0) k : Nat) : Nat) : Int) = (X k : Int) - 1) := ⟨by rw [(subD_last hk0 hc.out hl hXk).1]; omega⟩
          replace hs := Hd.mk hs
          go_wp2
          go_region
          go_wp2
          go_ret
          refine ⟨ret_int (by rw [subC_stop (n := n) (by omega) hs.out n (by omega) (Nat.le_refl _)]; rfl), ?_⟩
          rw [over_stay (k := k + 1) hz.out hx.out (by omega) (subD_stop hX.out (by omega) hs.out)]
          rw [← over_succ, show Value.int .u64 (((subD X (one0 y) 0) k : Nat) : Int) = Value.int .u64 ((X k : Int) - 1) from by rw [hv.out]]
          exact (hp0.out.set _ _).drew
        · have hd2 : (((X k : Nat) : Int) != 0) = false := by simp; omega
          go_wp2
          go_roundw
          case rel =>
            refine ⟨k + 1, by omega, hlt, by go_num, (subD_over hk0 hc.out (by omega)).2, ?_⟩
            rw [← over_succ, (subD_over hk0 hc.out (by omega)).1]
            exact hp0.out.set _ _
          case measure => simp [intOf]; omega
      · obtain rfl : k = n := by omega
        replace hc := Hd.mk hc
        replace hp := Hd.mk hp
        go_wp2
        go_ret
        exact ⟨ret_int (by rw [hc.out]; rfl), hp.out⟩
set_option maxRecDepth 100000 in
set_option maxHeartbeats 1000000 in
theorem addVW_other (bz oz cz bx ox cx n y : Nat) (E : TypeId) (xs : List Value) (X : Nat → Nat) (w : World) (hn : n < 1000) (hn0 : 0 < n) (hyB : y < BB) (hne : bx ≠ bz) (hbx : HB w bx) (hcz : n ≤ cz) (hcx : n ≤ cx)
    (hz : Blk w bz E xs) (hzn : oz + n ≤ xs.length) (hx : Seg w bx ox n X) (hX : ∀ i, i < n → X i < BB) :
    Calls Tryz.prog 250 #[.slice (some ⟨bz, oz, none⟩) n cz, .slice (some ⟨bx, ox, none⟩) n cx, .int .u64 y] w fun e w' =>
      e = .returned (.int .u64 (addC X (one0 y) 0 n : Nat)) ∧ Put w w' bz E (over xs oz n (addD X (one0 y) 0)) := by
  have h1 := hx 0 (by omega)
  simp only [Nat.add_zero] at h1
  have h2 := hz.frozen oz
  have h3 : ∃ v, w.cell? ⟨bz, oz, none⟩ = some v := ⟨_, by rw [hz.cell, List.getElem?_eq_getElem (by omega)]⟩
  obtain ⟨v3, h3⟩ := h3
  have hq : ∀ w', HB w' bz → HB w' bx → (binOp .neq 225 (.pointer (some ⟨bz, oz, none⟩)) (.pointer (some ⟨bx, ox, none⟩))).run Tryz.prog w' = .ok (.bool true) w' := fun w' h1 h2 => wne_other (by intro h; cases h; exact hne rfl) w' h1 h2
  have hbz := hz.hb
  have hq0 := hq ((w.setCell ⟨bz, oz, none⟩ (.int .u64 (addS (X 0) y 0 : Nat))).drew) (by rw [HB_drew, HB_setCell]; exact hbz) (by rw [HB_drew, HB_setCell]; exact hbx)
  replace hq0 := Hd.mk hq0
  have hne' : ¬ bz = bx := fun h => hne h.symm
  have hX0 := hX 0 hn0
  replace hz := Hd.mk hz
  replace hx := Hd.mk hx
  replace hX := Hd.mk hX
  have hp1 : Hd (∀ w', Put w w' bz E (xs.set oz (.int .u64 (addS (X 0) y 0 : Nat))) → Put w w' bz E (over xs oz 1 (addD X (one0 y) 0))) := ⟨fun w' h => by
    have e := over_succ xs oz 0 (addD X (one0 y) 0)
    rw [over_zero] at e
    rw [← e]; exact h⟩
  by_cases h0 : addK (X 0) y 0 = 0
  · have hd : (((addK (X 0) y 0 : Nat) : Int) == 0) = true := by simp [h0]
    have hs : addC X (one0 y) 0 1 = 0 := h0
    replace h0 := Hd.mk h0
    replace hs := Hd.mk hs
    go_enter Tryz.func250, Tryz.ntmps250
    go_wp2_with (go_at_call 290; refine (Add_any _ _ 0 (by omega) _).mono ?_; rintro e w' ⟨rfl, rfl⟩)
    have hq0' := hq0.out
    by_cases hn1 : n = 1
    · subst hn1
      have hcp := copy_zero
      go_region
      clear hq0'
      go_wp2
      by_cases hcz1 : cz = 1 <;> by_cases hcx1 : cx = 1
      all_goals
        go_region
        go_wp2
        go_ret
        exact ⟨ret_int (by rw [hs.out]; rfl), hp1.out _ ((Put.refl hz.out).set _ _).drew.drew⟩
    · have hcz1 : ¬ cz = 1 := by omega
      have hcx1 : ¬ cx = 1 := by omega
      go_region
      clear hq0'
      go_wp2
      have hp9 := Hd.mk ((Put.refl hz.out).set oz (Value.int .u64 (addS (X 0) y 0 : Nat))).drew
      have hs9 : (1 : Int) ≤ (n : Int) := by omega
      go_region_law (first | (refine step_copyP rfl (.tmp 40) (.tmp 42) 103 103 rfl 146 Tryz.underlying103 ?h1 (some ⟨bz, oz + 1, none⟩) (some ⟨bx, ox + 1, none⟩) (n - 1) (cz - 1) (n - 1) (cx - 1) ?h2 ?h3 bz (oz + 1) (n - 1) E (xs.set oz (Value.int .u64 (addS (X 0) y 0 : Nat))) (fun i => X (1 + i)) ?h4 ?h5 ?h6 ?h7 ?_; (case h1 => kernel_rfl); (case h2 => go_simp); (case h3 => go_simp); (case h4 => exact Nat.min_self _); (case h5 => (intro hm0; exact ⟨rfl, bx, _, rfl, (hx.out.of_heap (hp9.out.drew.other bx hne)).tail _⟩)); (case h6 => exact hp9.out.drew.here); (case h7 => (simp ; omega)); intro w4 hp4))
      replace hp4 := Hd.mk (hp9.out.drew.trans hp4)
      go_wp2
      go_ret
      refine ⟨ret_int (by rw [addC_stop (n := n) hX.out (by omega) hs.out n (by omega) (Nat.le_refl _)]; rfl), ?_⟩
      have e := over_copied (xs := xs) (o := oz) (n := n) (k := 1) (by omega) (addD_stop hX.out (by omega) hs.out)
      rw [← e, ← over_succ, over_zero]
      exact hp4.out
  · have hd : (((addK (X 0) y 0 : Nat) : Int) == 0) = false := by simp [h0]
    have hs1 : addC X (one0 y) 0 1 = 1 := by have : addK (X 0) y 0 ≤ 1 := addK_le hX0 hyB; show addK (X 0) y 0 = 1; omega
    replace h0 := Hd.mk h0
    replace hs1 := Hd.mk hs1
    go_enter Tryz.func250, Tryz.ntmps250
    go_wp2_with (go_at_call 290; refine (Add_any _ _ 0 (by omega) _).mono ?_; rintro e w' ⟨rfl, rfl⟩)
    go_loopw [9] (fun i wr => ∃ k : Nat, 0 < k ∧ k ≤ n ∧ i = .int .i64 k ∧ addC X (one0 y) 0 k = 1 ∧ Put w wr bz E (over xs oz k (addD X (one0 y) 0))) (fun i _ => n - (intOf i).toNat)
    case atStart => exact ⟨1, by omega, hn0, rfl, hs1.out, hp1.out _ ((Put.refl hz.out).set _ _)⟩
    case round =>
      obtain ⟨k, hk0, hk, rfl, hc, hp⟩ := hrel
      by_cases hlt : k < n
      · have hp0 := Hd.mk hp
        have g1 := hx.out.past hz.out hp (fun h => absurd h hne) hlt
        have g3 : ∃ v, wr.cell? ⟨bz, oz + k, none⟩ = some v := ⟨_, by rw [hp.here.cell, List.getElem?_eq_getElem (by rw [over_length]; omega)]⟩
        obtain ⟨v4, g3⟩ := g3
        have g4 := hp.here.frozen (oz + k)
        have g5 := hp.here.hb
        have g6 : HB wr bx := by obtain ⟨c, t, h⟩ := hbx; exact ⟨c, t, (hp.other bx hne).trans h⟩
        clear hp
        have hXk := hX.out k hlt
        replace hc := Hd.mk hc
        by_cases hl : X k + 1 < BB
        · have hd2 : (((X k : Nat) : Int) != 18446744073709551615) = true := by unfold BB at hl; simp; omega
          have hb : ((X k : Nat) : Int) + 1 < 18446744073709551616 := by unfold BB at hl; omega
          have hs := (addD_last hk0 hc.out hl).2
          have hv : Hd (((((addD X (one0 y) 0) k : Nat) : Nat) : Int) = (X k : Int) + 1) := ⟨by rw [(addD_last hk0 hc.out hl).1]; omega⟩
          replace hs := Hd.mk hs
          have hq1 := hq ((wr.setCell ⟨bz, oz + k, none⟩ (.int .u64 ((X k : Int) + 1))).drew) (by rw [HB_drew, HB_setCell]; exact g5) (by rw [HB_drew, HB_setCell]; exact g6)
          replace hq1 := Hd.mk hq1
          by_cases hn1 : n = k + 1
          · have hcp : ∀ (dp sp : Option Addr) (dc sc : Nat) (w : World), (Builtin.copy_ #[103, 103] 3 #[.slice dp (n - (k + 1)) dc, .slice sp (n - (k + 1)) sc]).run Tryz.prog w = .ok (goInt 0) w := by rw [show n - (k + 1) = 0 by omega]; exact copy_zero
            replace hn1 := Hd.mk hn1
            replace hcp := Hd.mk hcp
            go_wp2
            have hq1' := hq1.out
            go_region
            clear hq1'
            go_wp2
            have hs5 : IntKind.i64.wrap ((k : Int) + 1) = (k : Int) + 1 := IntWalk.i64_in _ (by omega)
            have hs6 : (0 : Int) ≤ (k : Int) + 1 := by omega
            have hs8 : ((k : Int) + 1).toNat = k + 1 := by omega
            have hs7 : (k : Int) + 1 ≤ (n : Int) := by omega
            have hcp1 := hcp.out
            by_cases hcz1 : cz = k + 1 <;> by_cases hcx1 : cx = k + 1
            all_goals
              go_region
              clear hs5 hs6 hs8 hs7 hcp1
              go_wp2
              go_ret
              refine ⟨ret_int (by rw [hn1.out, hs.out]; rfl), ?_⟩
              rw [hn1.out, ← over_succ, show Value.int .u64 (((addD X (one0 y) 0) k : Nat) : Int) = Value.int .u64 ((X k : Int) + 1) from by rw [hv.out]]
              exact (hp0.out.set _ _).drew.drew
          · have hcz1 : ¬ cz = k + 1 := by omega
            have hcx1 : ¬ cx = k + 1 := by omega
            go_wp2
            have hq1' := hq1.out
            go_region
            clear hq1'
            go_wp2
            have hp9 := Hd.mk (hp0.out.set (oz + k) (Value.int .u64 ((X k : Int) + 1))).drew
            have hs5 : IntKind.i64.wrap ((k : Int) + 1) = (k : Int) + 1 := IntWalk.i64_in _ (by omega)
            have hs6 : (0 : Int) ≤ (k : Int) + 1 := by omega
            have hs7 : (k : Int) + 1 ≤ (n : Int) := by omega
            have hs8 : ((k : Int) + 1).toNat = k + 1 := by omega
            go_region_law (first | (refine step_copyP rfl (.tmp 69) (.tmp 73) 103 103 rfl 146 Tryz.underlying103 ?h1 (some ⟨bz, oz + (k + 1), none⟩) (some ⟨bx, ox + (k + 1), none⟩) (n - (k + 1)) (cz - (k + 1)) (n - (k + 1)) (cx - (k + 1)) ?h2 ?h3 bz (oz + (k + 1)) (n - (k + 1)) E ((over xs oz k (addD X (one0 y) 0)).set (oz + k) (Value.int .u64 ((X k : Int) + 1))) (fun i => X ((k + 1) + i)) ?h4 ?h5 ?h6 ?h7 ?_; (case h1 => kernel_rfl); (case h2 => go_simp); (case h3 => go_simp); (case h4 => exact Nat.min_self _); (case h5 => (intro hm0; exact ⟨rfl, bx, _, rfl, (hx.out.of_heap (hp9.out.drew.other bx hne)).tail _⟩)); (case h6 => exact hp9.out.drew.here); (case h7 => (simp [over_length]; omega)); intro w4 hp4))
            clear hs5 hs6 hs7 hs8
            replace hp4 := Hd.mk (hp9.out.drew.trans hp4)
            go_wp2
            go_ret
            refine ⟨ret_int (by rw [addC_stop (n := n) hX.out (by omega) hs.out n (by omega) (Nat.le_refl _)]; rfl), ?_⟩
            have e := over_copied (xs := xs) (o := oz) (n := n) (k := k + 1) (by omega) (addD_stop hX.out (by omega) hs.out)
            rw [← e, ← over_succ, show Value.int .u64 (((addD X (one0 y) 0) k : Nat) : Int) = Value.int .u64 ((X k : Int) + 1) from by rw [hv.out]]
            exact hp4.out
        · have hd2 : (((X k : Nat) : Int) != 18446744073709551615) = false := by unfold BB at hl hXk; simp; omega
          go_wp2
          go_roundw
          case rel =>
            refine ⟨k + 1, by omega, hlt, by go_num, (addD_over hk0 hc.out (by omega)).2, ?_⟩
            rw [← over_succ, (addD_over hk0 hc.out (by omega)).1]
            exact hp0.out.set _ _
          case measure => simp [intOf]; omega
      · obtain rfl : k = n := by omega
        replace hc := Hd.mk hc
        replace hp := Hd.mk hp
        go_wp2
        go_ret
        exact ⟨ret_int (by rw [hc.out]; rfl), hp.out⟩
set_option maxRecDepth 100000 in
set_option maxHeartbeats 1000000 in
theorem subVW_other (bz oz cz bx ox cx n y : Nat) (E : TypeId) (xs : List Value) (X : Nat → Nat) (w : World) (hn : n < 1000) (hn0 : 0 < n) (_hyB : y < BB) (hne : bx ≠ bz) (hbx : HB w bx) (hcz : n ≤ cz) (hcx : n ≤ cx)
    (hz : Blk w bz E xs) (hzn : oz + n ≤ xs.length) (hx : Seg w bx ox n X) (hX : ∀ i, i < n → X i < BB) :
    Calls Tryz.prog 253 #[.slice (some ⟨bz, oz, none⟩) n cz, .slice (some ⟨bx, ox, none⟩) n cx, .int .u64 y] w fun e w' =>
      e = .returned (.int .u64 (subC X (one0 y) 0 n : Nat)) ∧ Put w w' bz E (over xs oz n (subD X (one0 y) 0)) := by
  have h1 := hx 0 (by omega)
  simp only [Nat.add_zero] at h1
  have h2 := hz.frozen oz
  have h3 : ∃ v, w.cell? ⟨bz, oz, none⟩ = some v := ⟨_, by rw [hz.cell, List.getElem?_eq_getElem (by omega)]⟩
  obtain ⟨v3, h3⟩ := h3
  have hq : ∀ w', HB w' bz → HB w' bx → (binOp .neq 225 (.pointer (some ⟨bz, oz, none⟩)) (.pointer (some ⟨bx, ox, none⟩))).run Tryz.prog w' = .ok (.bool true) w' := fun w' h1 h2 => wne_other (by intro h; cases h; exact hne rfl) w' h1 h2
  have hbz := hz.hb
  have hq0 := hq ((w.setCell ⟨bz, oz, none⟩ (.int .u64 (subS (X 0) y 0 : Nat))).drew) (by rw [HB_drew, HB_setCell]; exact hbz) (by rw [HB_drew, HB_setCell]; exact hbx)
  replace hq0 := Hd.mk hq0
  have hne' : ¬ bz = bx := fun h => hne h.symm
  have hX0 := hX 0 hn0
  replace hz := Hd.mk hz
  replace hx := Hd.mk hx
  replace hX := Hd.mk hX
  have hp1 : Hd (∀ w', Put w w' bz E (xs.set oz (.int .u64 (subS (X 0) y 0 : Nat))) → Put w w' bz E (over xs oz 1 (subD X (one0 y) 0))) := ⟨fun w' h => by
    have e := over_succ xs oz 0 (subD X (one0 y) 0)
    rw [over_zero] at e
    rw [← e]; exact h⟩
  by_cases h0 : subK (X 0) y 0 = 0
  · have hd : (((subK (X 0) y 0 : Nat) : Int) == 0) = true := by simp [h0]
    have hs : subC X (one0 y) 0 1 = 0 := h0
    replace h0 := Hd.mk h0
    replace hs := Hd.mk hs
    go_enter Tryz.func253, Tryz.ntmps253
    go_wp2_with (go_at_call 292; refine (Sub_any _ _ 0 (by omega) _).mono ?_; rintro e w' ⟨rfl, rfl⟩)
    have hq0' := hq0.out
    by_cases hn1 : n = 1
    · subst hn1
      have hcp := copy_zero
      go_region
      clear hq0'
      go_wp2
      by_cases hcz1 : cz = 1 <;> by_cases hcx1 : cx = 1
      all_goals
        go_region
        go_wp2
        go_ret
        exact ⟨ret_int (by rw [hs.out]; rfl), hp1.out _ ((Put.refl hz.out).set _ _).drew.drew⟩
    · have hcz1 : ¬ cz = 1 := by omega
      have hcx1 : ¬ cx = 1 := by omega
      go_region
      clear hq0'
      go_wp2
      have hp9 := Hd.mk ((Put.refl hz.out).set oz (Value.int .u64 (subS (X 0) y 0 : Nat))).drew
      have hs9 : (1 : Int) ≤ (n : Int) := by omega
      go_region_law (first | (refine step_copyP rfl (.tmp 40) (.tmp 42) 103 103 rfl 146 Tryz.underlying103 ?h1 (some ⟨bz, oz + 1, none⟩) (some ⟨bx, ox + 1, none⟩) (n - 1) (cz - 1) (n - 1) (cx - 1) ?h2 ?h3 bz (oz + 1) (n - 1) E (xs.set oz (Value.int .u64 (subS (X 0) y 0 : Nat))) (fun i => X (1 + i)) ?h4 ?h5 ?h6 ?h7 ?_; (case h1 => kernel_rfl); (case h2 => go_simp); (case h3 => go_simp); (case h4 => exact Nat.min_self _); (case h5 => (intro hm0; exact ⟨rfl, bx, _, rfl, (hx.out.of_heap (hp9.out.drew.other bx hne)).tail _⟩)); (case h6 => exact hp9.out.drew.here); (case h7 => (simp ; omega)); intro w4 hp4))
      replace hp4 := Hd.mk (hp9.out.drew.trans hp4)
      go_wp2
      go_ret
      refine ⟨ret_int (by rw [subC_stop (n := n) (by omega) hs.out n (by omega) (Nat.le_refl _)]; rfl), ?_⟩
      have e := over_copied (xs := xs) (o := oz) (n := n) (k := 1) (by omega) (subD_stop hX.out (by omega) hs.out)
      rw [← e, ← over_succ, over_zero]
      exact hp4.out
  · have hd : (((subK (X 0) y 0 : Nat) : Int) == 0) = false := by simp [h0]
    have hs1 : subC X (one0 y) 0 1 = 1 := by have : subK (X 0) y 0 ≤ 1 := subK_le _ _ _; show subK (X 0) y 0 = 1; omega
    replace h0 := Hd.mk h0
    replace hs1 := Hd.mk hs1
    go_enter Tryz.func253, Tryz.ntmps253
    go_wp2_with (go_at_call 292; refine (Sub_any _ _ 0 (by omega) _).mono ?_; rintro e w' ⟨rfl, rfl⟩)
    go_loopw [9] (fun i wr => ∃ k : Nat, 0 < k ∧ k ≤ n ∧ i = .int .i64 k ∧ subC X (one0 y) 0 k = 1 ∧ Put w wr bz E (over xs oz k (subD X (one0 y) 0))) (fun i _ => n - (intOf i).toNat)
    case atStart => exact ⟨1, by omega, hn0, rfl, hs1.out, hp1.out _ ((Put.refl hz.out).set _ _)⟩
    case round =>
      obtain ⟨k, hk0, hk, rfl, hc, hp⟩ := hrel
      by_cases hlt : k < n
      · have hp0 := Hd.mk hp
        have g1 := hx.out.past hz.out hp (fun h => absurd h hne) hlt
        have g3 : ∃ v, wr.cell? ⟨bz, oz + k, none⟩ = some v := ⟨_, by rw [hp.here.cell, List.getElem?_eq_getElem (by rw [over_length]; omega)]⟩
        obtain ⟨v4, g3⟩ := g3
        have g4 := hp.here.frozen (oz + k)
        have g5 := hp.here.hb
        have g6 : HB wr bx := by obtain ⟨c, t, h⟩ := hbx; exact ⟨c, t, (hp.other bx hne).trans h⟩
        clear hp
        have hXk := hX.out k hlt
        replace hc := Hd.mk hc
        by_cases hl : 0 < X k
        · have hd2 : (((X k : Nat) : Int) != 0) = true := by simp; omega
          have hb : 1 ≤ ((X k : Nat) : Int) := by omega
          have hb2 : ((X k : Nat) : Int) < 18446744073709551616 := by unfold BB at hXk; omega
          have hs := (subD_last hk0 hc.out hl hXk).2
          have hv : Hd (((((subD X (one0 y) 0) k : Nat) : Nat) : Int) = (X k : Int) - 1) := ⟨by rw [(subD_last hk0 hc.out hl hXk).1]; omega⟩
          replace hs := Hd.mk hs
          have hq1 := hq ((wr.setCell ⟨bz, oz + k, none⟩ (.int .u64 ((X k : Int) - 1))).drew) (by rw [HB_drew, HB_setCell]; exact g5) (by rw [HB_drew, HB_setCell]; exact g6)
          replace hq1 := Hd.mk hq1
          by_cases hn1 : n = k + 1
          · have hcp : ∀ (dp sp : Option Addr) (dc sc : Nat) (w : World), (Builtin.copy_ #[103, 103] 3 #[.slice dp (n - (k + 1)) dc, .slice sp (n - (k + 1)) sc]).run Tryz.prog w = .ok (goInt 0) w := by rw [show n - (k + 1) = 0 by omega]; exact copy_zero
            replace hn1 := Hd.mk hn1
            replace hcp := Hd.mk hcp
            go_wp2
            have hq1' := hq1.out
            go_region
            clear hq1'
            go_wp2
            have hs5 : IntKind.i64.wrap ((k : Int) + 1) = (k : Int) + 1 := IntWalk.i64_in _ (by omega)
            have hs6 : (0 : Int) ≤ (k : Int) + 1 := by omega
            have hs8 : ((k : Int) + 1).toNat = k + 1 := by omega
            have hs7 : (k : Int) + 1 ≤ (n : Int) := by omega
            have hcp1 := hcp.out
            by_cases hcz1 : cz = k + 1 <;> by_cases hcx1 : cx = k + 1
            all_goals
              go_region
              clear hs5 hs6 hs8 hs7 hcp1
              go_wp2
              go_ret
              refine ⟨ret_int (by rw [hn1.out, hs.out]; rfl), ?_⟩
              rw [hn1.out, ← over_succ, show Value.int .u64 (((subD X (one0 y) 0) k : Nat) : Int) = Value.int .u64 ((X k : Int) - 1) from by rw [hv.out]]
              exact (hp0.out.set _ _).drew.drew
          · have hcz1 : ¬ cz = k + 1 := by omega
            have hcx1 : ¬ cx = k + 1 := by omega
            go_wp2
            have hq1' := hq1.out
            go_region
            clear hq1'
            go_wp2
            have hp9 := Hd.mk (hp0.out.set (oz + k) (Value.int .u64 ((X k : Int) - 1))).drew
            have hs5 : IntKind.i64.wrap ((k : Int) + 1) = (k : Int) + 1 := IntWalk.i64_in _ (by omega)
            have hs6 : (0 : Int) ≤ (k : Int) + 1 := by omega
            have hs7 : (k : Int) + 1 ≤ (n : Int) := by omega
            have hs8 : ((k : Int) + 1).toNat = k + 1 := by omega
            go_region_law (first | (refine step_copyP rfl (.tmp 69) (.tmp 73) 103 103 rfl 146 Tryz.underlying103 ?h1 (some ⟨bz, oz + (k + 1), none⟩) (some ⟨bx, ox + (k + 1), none⟩) (n - (k + 1)) (cz - (k + 1)) (n - (k + 1)) (cx - (k + 1)) ?h2 ?h3 bz (oz + (k + 1)) (n - (k + 1)) E ((over xs oz k (subD X (one0 y) 0)).set (oz + k) (Value.int .u64 ((X k : Int) - 1))) (fun i => X ((k + 1) + i)) ?h4 ?h5 ?h6 ?h7 ?_; (case h1 => kernel_rfl); (case h2 => go_simp); (case h3 => go_simp); (case h4 => exact Nat.min_self _); (case h5 => (intro hm0; exact ⟨rfl, bx, _, rfl, (hx.out.of_heap (hp9.out.drew.other bx hne)).tail _⟩)); (case h6 => exact hp9.out.drew.here); (case h7 => (simp [over_length]; omega)); intro w4 hp4))
            clear hs5 hs6 hs7 hs8
            replace hp4 := Hd.mk (hp9.out.drew.trans hp4)
            go_wp2
            go_ret
            refine ⟨ret_int (by rw [subC_stop (n := n) (by omega) hs.out n (by omega) (Nat.le_refl _)]; rfl), ?_⟩
            have e := over_copied (xs := xs) (o := oz) (n := n) (k := k + 1) (by omega) (subD_stop hX.out (by omega) hs.out)
            rw [← e, ← over_succ, show Value.int .u64 (((subD X (one0 y) 0) k : Nat) : Int) = Value.int .u64 ((X k : Int) - 1) from by rw [hv.out]]
            exact hp4.out
        · have hd2 : (((X k : Nat) : Int) != 0) = false := by simp; omega
          go_wp2
          go_roundw
          case rel =>
            refine ⟨k + 1, by omega, hlt, by go_num, (subD_over hk0 hc.out (by omega)).2, ?_⟩
            rw [← over_succ, (subD_over hk0 hc.out (by omega)).1]
            exact hp0.out.set _ _
          case measure => simp [intOf]; omega
      · obtain rfl : k = n := by omega
        replace hc := Hd.mk hc
        replace hp := Hd.mk hp
        go_wp2
        go_ret
        exact ⟨ret_int (by rw [hc.out]; rfl), hp.out⟩
theorem addVW_any (bz oz cz bx ox cx n y : Nat) (E : TypeId) (xs : List Value) (X : Nat → Nat) (w : World) (hn : n < 1000) (hn0 : 0 < n) (hyB : y < BB) (hb : (bx = bz → ox = oz)) (hbx : HB w bx) (hcz : n ≤ cz) (hcx : n ≤ cx)
    (hz : Blk w bz E xs) (hzn : oz + n ≤ xs.length) (hx : Seg w bx ox n X) (hX : ∀ i, i < n → X i < BB) :
    Calls Tryz.prog 250 #[.slice (some ⟨bz, oz, none⟩) n cz, .slice (some ⟨bx, ox, none⟩) n cx, .int .u64 y] w fun e w' =>
      e = .returned (.int .u64 (addC X (one0 y) 0 n : Nat)) ∧ Put w w' bz E (over xs oz n (addD X (one0 y) 0)) := by
  by_cases h : bx = bz
  · have h2 := hb h
    subst h h2
    exact addVW_same bx ox cz cx n y E xs X w hn hn0 hyB hz hzn hx hX
  · exact addVW_other bz oz cz bx ox cx n y E xs X w hn hn0 hyB h hbx hcz hcx hz hzn hx hX
theorem subVW_any (bz oz cz bx ox cx n y : Nat) (E : TypeId) (xs : List Value) (X : Nat → Nat) (w : World) (hn : n < 1000) (hn0 : 0 < n) (hyB : y < BB) (hb : (bx = bz → ox = oz)) (hbx : HB w bx) (hcz : n ≤ cz) (hcx : n ≤ cx)
    (hz : Blk w bz E xs) (hzn : oz + n ≤ xs.length) (hx : Seg w bx ox n X) (hX : ∀ i, i < n → X i < BB) :
    Calls Tryz.prog 253 #[.slice (some ⟨bz, oz, none⟩) n cz, .slice (some ⟨bx, ox, none⟩) n cx, .int .u64 y] w fun e w' =>
      e = .returned (.int .u64 (subC X (one0 y) 0 n : Nat)) ∧ Put w w' bz E (over xs oz n (subD X (one0 y) 0)) := by
  by_cases h : bx = bz
  · have h2 := hb h
    subst h h2
    exact subVW_same bx ox cz cx n y E xs X w hn hn0 hyB hz hzn hx hX
  · exact subVW_other bz oz cz bx ox cx n y E xs X w hn hn0 hyB h hbx hcz hcx hz hzn hx hX
end Go.Proofs.YtdbjdpooggaonaaGreatDoor
end

section
namespace Go.Proofs.YtdbjdpooggaonaaGreatDoor
open Go.RowKit

/-- A slice at A of this capacity is nil, or all of a block of words. -/
def RowOf (w : World) (A : Option Addr) (cap : Nat) (own : Option Nat) : Prop :=
  (A = none ∧ cap = 0 ∧ own = none) ∨ ∃ K xs, A = some ⟨K, 0, none⟩ ∧ own = some K ∧ xs.length = cap ∧ Blk w K 146 xs ∧ 0 < cap
/-- The value is a slice that may be written anew. -/
def RecvS (w : World) (v : Value) (own : Option Nat) : Prop := ∃ A len cap, v = .slice A len cap ∧ len ≤ cap ∧ cap < 1000 ∧ RowOf w A cap own
/-- The value is the slice of the words of m. -/
def NatS (w : World) (v : Value) (m : Nat) (own : Option Nat) : Prop :=
  ∃ A cap, v = .slice A (wlen m) cap ∧ wlen m ≤ cap ∧ cap < 1000 ∧ RowOf w A cap own ∧ ∀ K, own = some K → Seg w K 0 (wlen m) (dig m)
/-- w' is w, but for new blocks and for the block 'own'. -/
structure Chg (w w' : World) (own : Option Nat) : Prop where
  os : w'.os = w.os
  tape : w'.tape = w.tape
  output : w'.output = w.output
  size : w.heap.size ≤ w'.heap.size
  block : ∀ k, k < w.heap.size → own ≠ some k → w'.heap[k]? = w.heap[k]?
section
variable {w w' w'' : World} {A : Option Addr} {cap len m K : Nat} {own : Option Nat} {v : Value} {E : TypeId} {xs : List Value}
theorem Chg.refl (w : World) (own : Option Nat) : Chg w w own := ⟨rfl, rfl, rfl, Nat.le_refl _, fun _ _ _ => rfl⟩
theorem Chg.trans (h : Chg w w' own) (k : Chg w' w'' own) : Chg w w'' own :=
  ⟨k.os.trans h.os, k.tape.trans h.tape, k.output.trans h.output, Nat.le_trans h.size k.size, fun i hi ho => (k.block i (Nat.lt_of_lt_of_le hi h.size) ho).trans (h.block i hi ho)⟩
theorem Chg.drewN (h : Chg w w' own) (n : Nat) : Chg w (w'.drewN n) own := ⟨h.os, h.tape, h.output, h.size, h.block⟩
theorem Chg.drew (h : Chg w w' own) : Chg w w'.drew own := ⟨h.os, h.tape, h.output, h.size, h.block⟩
theorem Chg.of_below (h : Below w.heap.size w w') (own : Option Nat) : Chg w w' own := ⟨h.os, h.tape, h.output, h.size, fun k hk _ => h.block k hk⟩
theorem Chg.put (h : Chg w w' own) {ys : List Value} (hp : Put w' w'' K E ys) (hK : own = some K ∨ w.heap.size ≤ K) : Chg w w'' own :=
  ⟨hp.os.trans h.os, hp.tape.trans h.tape, hp.output.trans h.output, by rw [hp.size]; exact h.size, fun k hk ho => (hp.other k (fun e => by
    subst e
    rcases hK with h1 | h1
    · exact ho h1
    · omega)).trans (h.block k hk ho)⟩
theorem Chg.step (h : Chg w w' own) {own' : Option Nat} (k : Chg w' w'' own') (hK : ∀ K, own' = some K → own = some K ∨ w.heap.size ≤ K) : Chg w w'' own :=
  ⟨k.os.trans h.os, k.tape.trans h.tape, k.output.trans h.output, Nat.le_trans h.size k.size, fun i hi ho => (k.block i (Nat.lt_of_lt_of_le hi h.size) (fun e => by
    rcases hK i e with h1 | h1
    · exact ho h1
    · omega)).trans (h.block i hi ho)⟩
theorem Chg.none_below (h : Chg w w' none) : Below w.heap.size w w' := ⟨h.os, h.tape, h.output, h.size, fun k hk => h.block k hk (by simp)⟩
theorem Chg.blk (h : Chg w w' own) {k : Nat} (hk : Blk w k E xs) (ho : own ≠ some k) : Blk w' k E xs := hk.of_heap (h.block k hk.lt ho)
theorem RowOf.nil (w : World) : RowOf w none 0 none := .inl ⟨rfl, rfl, rfl⟩
theorem RowOf.of_heap (h : RowOf w A cap own) (e : ∀ K, own = some K → w'.heap[K]? = w.heap[K]?) : RowOf w' A cap own := by
  rcases h with h | ⟨K, xs, h1, h2, h3, h4, h5⟩
  · exact .inl h
  · exact .inr ⟨K, xs, h1, h2, h3, h4.of_heap (e K h2), h5⟩
theorem RowOf.pos (h : RowOf w A cap own) (hc : 0 < cap) : ∃ K xs, A = some ⟨K, 0, none⟩ ∧ own = some K ∧ xs.length = cap ∧ Blk w K 146 xs := by
  rcases h with ⟨_, h, _⟩ | ⟨K, xs, h1, h2, h3, h4, _⟩
  · omega
  · exact ⟨K, xs, h1, h2, h3, h4⟩
theorem RowOf.cap0 (h : RowOf w A cap own) (hc : cap = 0) : own = none := by
  rcases h with ⟨_, _, h⟩ | ⟨K, xs, h1, h2, h3, h4, h5⟩
  · exact h
  · omega
theorem RowOf.lt (h : RowOf w A cap own) {K : Nat} (ho : own = some K) : K < w.heap.size := by
  rcases h with ⟨_, _, h⟩ | ⟨K', xs, h1, h2, h3, h4, _⟩
  · rw [h] at ho; cases ho
  · rw [h2] at ho; cases ho; exact h4.lt
theorem NatS.recv (h : NatS w v m own) : RecvS w v own := by
  obtain ⟨A, cap, rfl, h1, h2, h3, _⟩ := h
  exact ⟨A, _, cap, rfl, h1, h2, h3⟩
theorem NatS.of_heap (h : NatS w v m own) (e : ∀ K, own = some K → w'.heap[K]? = w.heap[K]?) : NatS w' v m own := by
  obtain ⟨A, cap, rfl, h1, h2, h3, h4⟩ := h
  exact ⟨A, cap, rfl, h1, h2, h3.of_heap e, fun K hK => (h4 K hK).of_heap (e K hK)⟩
theorem NatS.lt (h : NatS w v m own) {K : Nat} (ho : own = some K) : K < w.heap.size := by
  obtain ⟨A, cap, rfl, h1, h2, h3, h4⟩ := h
  exact h3.lt ho
theorem NatS.chg {o' : Option Nat} (h : NatS w v m own) (hc : Chg w w' o') (hne : ∀ K, own = some K → o' ≠ some K) : NatS w' v m own :=
  h.of_heap fun K hK => hc.block K (h.lt hK) (hne K hK)
theorem NatS.below (h : NatS w v m own) (hc : Below w.heap.size w w') : NatS w' v m own := h.of_heap fun K hK => hc.block K (h.lt hK)
theorem RecvS.lt (h : RecvS w v own) {K : Nat} (ho : own = some K) : K < w.heap.size := by
  obtain ⟨A, len, cap, rfl, h1, h2, h3⟩ := h
  exact h3.lt ho
theorem RecvS.of_heap (h : RecvS w v own) (e : ∀ K, own = some K → w'.heap[K]? = w.heap[K]?) : RecvS w' v own := by
  obtain ⟨A, len, cap, rfl, h1, h2, h3⟩ := h
  exact ⟨A, len, cap, rfl, h1, h2, h3.of_heap e⟩
theorem RecvS.chg {o' : Option Nat} (h : RecvS w v own) (hc : Chg w w' o') (hne : ∀ K, own = some K → o' ≠ some K) : RecvS w' v own :=
  h.of_heap fun K hK => hc.block K (h.lt hK) (hne K hK)
theorem RecvS.below (h : RecvS w v own) (hc : Below w.heap.size w w') : RecvS w' v own := h.of_heap fun K hK => hc.block K (h.lt hK)
theorem RecvS.nil (w : World) : RecvS w (.slice none 0 0) none := ⟨none, 0, 0, rfl, Nat.le_refl _, by omega, RowOf.nil w⟩
theorem NatS.nil (w : World) : NatS w (.slice none 0 0) 0 none := ⟨none, 0, by rw [wlen_zero], by rw [wlen_zero]; omega, by omega, RowOf.nil w, fun K h => by cases h⟩
/-- A number that is not 0. -/
theorem NatS.pos (h : NatS w v m own) (hm : m ≠ 0) : ∃ K xs, v = .slice (some ⟨K, 0, none⟩) (wlen m) xs.length ∧ own = some K ∧ wlen m ≤ xs.length ∧ xs.length < 1000 ∧ Blk w K 146 xs ∧ Seg w K 0 (wlen m) (dig m) := by
  obtain ⟨A, cap, rfl, h1, h2, h3, h4⟩ := h
  have : wlen m ≠ 0 := fun h => hm (wlen_eq_zero.1 h)
  obtain ⟨K, xs, rfl, h5, h6, h7⟩ := h3.pos (by omega)
  subst h6
  exact ⟨K, xs, rfl, h5, h1, h2, h7, h4 K h5⟩
theorem NatS.mk' {K : Nat} {xs : List Value} {n : Nat} (hb : Blk w K 146 xs) (hn : n = wlen m) (hl : n ≤ xs.length) (h0 : 0 < xs.length) (hc : xs.length < 1000) (hs : Seg w K 0 n (dig m)) : NatS w (.slice (some ⟨K, 0, none⟩) n xs.length) m (some K) := by
  subst hn
  exact ⟨_, _, rfl, hl, hc, .inr ⟨K, xs, rfl, rfl, rfl, hb, h0⟩, fun K' h => by cases h; exact hs⟩
/-- 0, whatever lies there. -/
theorem RowOf.zero (h : RowOf w A cap own) (hc : cap < 1000) : NatS w (.slice A 0 cap) 0 own :=
  ⟨A, cap, by rw [wlen_zero], by rw [wlen_zero]; omega, hc, h, fun K _ i hi => by rw [wlen_zero] at hi; omega⟩
end

set_option maxHeartbeats 400000 in
theorem norm_any (K n cap : Nat) (f : Nat → Nat) (w : World) (hn : n < 1000) (hnc : n ≤ cap) (hf : ∀ i, i < n → f i < BB) (hx : Seg w K 0 n f) :
    Calls Tryz.prog 251 #[.slice (some ⟨K, 0, none⟩) n cap] w fun e w' => e = .returned (.slice (some ⟨K, 0, none⟩) (wlen (val n f)) cap) ∧ w = w' := by
  replace hx := Hd.mk hx
  replace hf := Hd.mk hf
  go_enter Tryz.func251, Tryz.ntmps251
  go_wp2
  go_loop [3] (fun i => ∃ k : Nat, k ≤ n ∧ i = .int .i64 k ∧ Hd (∀ j, k ≤ j → j < n → f j = 0)) (fun i => (intOf i).toNat)
  case atStart => exact ⟨n, Nat.le_refl _, rfl, ⟨fun j h1 h2 => by omega⟩⟩
  case round =>
    obtain ⟨k, hk, rfl, hz⟩ := hrel
    by_cases h0 : 0 < k
    · obtain ⟨j, rfl⟩ : ∃ j, k = j + 1 := ⟨k - 1, by omega⟩
      have h1 := hx.out j (by omega)
      simp only [Nat.zero_add] at h1
      by_cases h2 : f j = 0
      · have hd : (((f j : Nat) : Int) == 0) = true := by simp [h2]
        replace h2 := Hd.mk h2
        go_wp2
        go_round
        case rel => exact ⟨j, by omega, by go_num, ⟨fun i h3 h4 => if e : i = j then e ▸ h2.out else hz.out i (by omega) h4⟩⟩
        case measure => simp [intOf]
      · have hd : (((f j : Nat) : Int) == 0) = false := by simp [h2]
        replace h2 := Hd.mk h2
        go_wp2
        go_ret
        exact ⟨by rw [wlen_norm hf.out hk hz.out (.inr h2.out)]; first | rfl | simp, rfl⟩
    · obtain rfl : k = 0 := by omega
      go_wp2
      go_ret
      exact ⟨by rw [wlen_norm hf.out hk hz.out (.inl rfl)]; first | rfl | simp, rfl⟩
theorem made_size (z : Array Value) (n : Nat) : (madeCells z n).size = n := by simp [madeCells]
theorem run_mk (T : TypeId) (hT : Tryz.prog.underlying T = some (.slice 146)) (n c : Nat) (hnc : n ≤ c) (hc : c ≤ 4000000) (w : World) :
    (Instr.makeSlice T (.int .i64 n) (.int .i64 c)).run Tryz.prog w = .ok (.slice (some ⟨w.heap.size, 0, none⟩) n c) (w.alloc (.cells (madeCells #[.int .u64 0] c) 146)) := by
  obtain ⟨j, hj, hz, hs, hb⟩ := info_parts wordInfo0
  have := run_makeSlice (w := w) T 146 j (.int .u64 0) hT hj hz .i64 .i64 n c (by omega) (by omega) (by rw [hs]; omega) (by rw [hb]; omega) (by omega)
  rw [hs] at this
  simpa [Value.cells] using this
theorem make_one (A : Option Addr) (len cap : Nat) (w : World) (h : cap < 1) :
    Calls Tryz.prog 230 #[.slice A len cap, .int .i64 1] w fun e w' => e = .returned (.slice (some ⟨w.heap.size, 0, none⟩) 1 1) ∧ w' = w.alloc (.cells #[.int .u64 0] 146) := by
  have hmk : ∀ w, (Instr.makeSlice 104 (.int .i64 1) (.int .i64 1)).run Tryz.prog w = .ok (.slice (some ⟨w.heap.size, 0, none⟩) 1 1) (w.alloc (.cells #[.int .u64 0] 146)) := fun _ => by kernel_rfl
  go_enter Tryz.func230, Tryz.ntmps230
  go_wp2
  go_ret
  exact ⟨rfl, rfl⟩
/-- make: the old block, or a new one. -/
theorem make_any (A : Option Addr) (len cap n : Nat) (w : World) (_hl : len ≤ cap) (hc : cap < 1000) (hn : n < 900) :
    Calls Tryz.prog 230 #[.slice A len cap, .int .i64 n] w fun e w' =>
      (n ≤ cap ∧ e = .returned (.slice A n cap) ∧ w = w') ∨ (cap < n ∧ ∃ xs : List Value, n ≤ xs.length ∧ xs.length < 1000 ∧ e = .returned (.slice (some ⟨w.heap.size, 0, none⟩) n xs.length) ∧ w' = w.alloc (.cells xs.toArray 146)) := by
  by_cases h : n ≤ cap
  · go_enter Tryz.func230, Tryz.ntmps230
    go_wp2
    go_ret
    exact .inl ⟨h, rfl, rfl⟩
  · by_cases h1 : n = 1
    · subst h1
      exact (make_one A len cap w (by omega)).mono fun e w' ⟨h2, h3⟩ => .inr ⟨by omega, [.int .u64 0], by simp, by simp, h2, h3⟩
    · have hmk := run_mk 104 Tryz.underlying104 n (n + 4) (by omega) (by omega)
      rw [show ((n + 4 : Nat) : Int) = (n : Int) + 4 by omega] at hmk
      have hd : ((n : Int) == 1) = false := by simp; omega
      go_enter Tryz.func230, Tryz.ntmps230
      go_wp2
      go_ret
      refine .inr ⟨by omega, (madeCells #[.int .u64 0] (n + 4)).toList, ?_, ?_, ?_, by simp⟩
      · simp [made_size]
      · simp [made_size]; omega
      · simp [made_size]
/-- make of at least one word, in one form. -/
theorem make_pos (A : Option Addr) (len cap n : Nat) (own : Option Nat) (w : World) (hl : len ≤ cap) (hc : cap < 1000) (hr : RowOf w A cap own) (hn : n < 900) (hn0 : 0 < n) :
    Calls Tryz.prog 230 #[.slice A len cap, .int .i64 n] w fun e w' =>
      ∃ K xs, e = .returned (.slice (some ⟨K, 0, none⟩) n xs.length) ∧ Blk w' K 146 xs ∧ n ≤ xs.length ∧ xs.length < 1000 ∧ Below w.heap.size w w' ∧ (own = some K ∨ w.heap.size ≤ K) :=
  (make_any A len cap n w hl hc hn).mono fun e w' h => by
    rcases h with ⟨h1, rfl, rfl⟩ | ⟨h1, xs, h2, h3, rfl, rfl⟩
    · obtain ⟨K, xs, rfl, ho, rfl, hb⟩ := hr.pos (by omega)
      exact ⟨K, xs, rfl, hb, h1, hc, Below.refl _ _, .inl ho⟩
    · exact ⟨_, xs, rfl, by simpa using Blk.new w xs.toArray 146, h2, h3, (Below.refl _ _).alloc (Nat.le_refl _) _, .inr (Nat.le_refl _)⟩
end Go.Proofs.YtdbjdpooggaonaaGreatDoor
end
