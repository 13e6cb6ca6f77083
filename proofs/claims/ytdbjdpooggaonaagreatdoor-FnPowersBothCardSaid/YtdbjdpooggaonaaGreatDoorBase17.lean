/- Plain arithmetic of decimal digits: Num's text at base ten. No program in sight. The reference's numbers: digits in memory; trim, signed, compare. The reference's numbers: rows of digits that grow; compare, plus, less. The reference's numbers: sums of digits. The reference's numbers: differences of digits, comparing. The reference's numbers: signs, comparing, sums. Conditions: those that each theorem states. -/
import Derived.Test.YtdbjdpooggaonaaGreatDoorBase07
import Derived.Test.YtdbjdpooggaonaaGreatDoorBase12
import Derived.Deep.AppendLies
import Derived.Laws.OwnMore
import Derived.OwnWalk
import Derived.Deep.RegionHeld3
set_option linter.all false

section
namespace Go.Proofs.YtdbjdpooggaonaaGreatDoor.T

/-- Ten. -/
def BB : Nat := 10
theorem BB_eq : BB = 10 := rfl
theorem BB_pos : 0 < BB := by decide
theorem BBp (n : Nat) : 0 < BB ^ n := Nat.pow_pos BB_pos

/-- The number of the words f 0 .. f (n - 1). -/
def val : Nat → (Nat → Nat) → Nat
  | 0, _ => 0
  | n + 1, f => val n f + f n * BB ^ n
theorem val_zero (f : Nat → Nat) : val 0 f = 0 := rfl
theorem val_succ (n : Nat) (f : Nat → Nat) : val (n + 1) f = val n f + f n * BB ^ n := rfl
theorem val_ext {n : Nat} {f g : Nat → Nat} (h : ∀ i, i < n → f i = g i) : val n f = val n g := by
  induction n with
  | zero => rfl
  | succ n ih => rw [val_succ, val_succ, ih (fun i hi => h i (by omega)), h n (by omega)]
theorem val_lt {n : Nat} {f : Nat → Nat} (h : ∀ i, i < n → f i < BB) : val n f < BB ^ n := by
  induction n with
  | zero => simp [val]
  | succ n ih =>
    have h1 := ih (fun i hi => h i (by omega))
    have h2 := h n (by omega)
    rw [val_succ, Nat.pow_succ]
    have h3 : (f n + 1) * BB ^ n ≤ BB * BB ^ n := Nat.mul_le_mul_right _ h2
    have h4 : (f n + 1) * BB ^ n = f n * BB ^ n + BB ^ n := Nat.succ_mul _ _
    rw [Nat.mul_comm (BB ^ n) BB]
    omega
/-- The first word apart. -/
theorem val_head (n : Nat) (f : Nat → Nat) : val (n + 1) f = f 0 + BB * val n (fun i => f (i + 1)) := by
  induction n with
  | zero => simp [val]
  | succ n ih =>
    rw [val_succ (n + 1) f, ih, val_succ n (fun i => f (i + 1))]
    have : BB ^ (n + 1) = BB * BB ^ n := by rw [Nat.pow_succ, Nat.mul_comm]
    rw [this]
    grind
theorem val_split (m n : Nat) (f : Nat → Nat) : val (m + n) f = val m f + BB ^ m * val n (fun i => f (m + i)) := by
  induction n with
  | zero => simp [val]
  | succ n ih =>
    rw [← Nat.add_assoc, val_succ, ih, val_succ]
    have : BB ^ (m + n) = BB ^ m * BB ^ n := Nat.pow_add _ _ _
    rw [this]
    grind
theorem val_zeros (n : Nat) {f : Nat → Nat} (h : ∀ i, i < n → f i = 0) : val n f = 0 := by
  induction n with
  | zero => rfl
  | succ n ih => rw [val_succ, ih (fun i hi => h i (by omega)), h n (by omega)]; simp
theorem val_more {m n : Nat} {f : Nat → Nat} (hmn : m ≤ n) (h : ∀ i, m ≤ i → i < n → f i = 0) : val n f = val m f := by
  obtain ⟨d, rfl⟩ := Nat.le.dest hmn
  rw [val_split, val_zeros d (fun i hi => h (m + i) (by omega) (by omega))]; simp

/-- Word i of a number. -/
def dig (m i : Nat) : Nat := m / BB ^ i % BB
theorem dig_lt (m i : Nat) : dig m i < BB := Nat.mod_lt _ BB_pos
theorem dig_zero (i : Nat) : dig 0 i = 0 := by simp [dig]
theorem val_dig (m n : Nat) : val n (dig m) = m % BB ^ n := by
  induction n with
  | zero => simp [val, Nat.mod_one]
  | succ n ih =>
    rw [val_succ, ih, dig, Nat.pow_succ, Nat.mod_mul]
    rw [Nat.mul_comm]
theorem val_dig_of_lt {m n : Nat} (h : m < BB ^ n) : val n (dig m) = m := by rw [val_dig, Nat.mod_eq_of_lt h]
theorem dig_val {n : Nat} {f : Nat → Nat} (h : ∀ i, i < n → f i < BB) {i : Nat} (hi : i < n) : dig (val n f) i = f i := by
  obtain ⟨d, rfl⟩ : ∃ d, n = i + (d + 1) := ⟨n - i - 1, by omega⟩
  unfold dig
  rw [val_split, Nat.add_mul_div_left _ _ (BBp i), Nat.div_eq_of_lt (val_lt (fun j hj => h j (by omega))), Nat.zero_add, val_head]
  simp only [Nat.add_zero]
  rw [Nat.add_mul_mod_self_left, Nat.mod_eq_of_lt (h i (by omega))]
theorem dig_ge {m n i : Nat} (h : m < BB ^ n) (hi : n ≤ i) : dig m i = 0 := by
  unfold dig
  have : m < BB ^ i := Nat.lt_of_lt_of_le h (Nat.pow_le_pow_right BB_pos hi)
  rw [Nat.div_eq_of_lt this, Nat.zero_mod]
theorem dig_word {x : Nat} (h : x < BB) : dig x 0 = x := by simp [dig, Nat.mod_eq_of_lt h]

/-- How many words a number has. -/
def wlen (m : Nat) : Nat := if h : m = 0 then 0 else wlen (m / BB) + 1
termination_by m
decreasing_by exact Nat.div_lt_self (by omega) (by decide)
theorem wlen_zero : wlen 0 = 0 := by rw [wlen]; simp
theorem wlen_pos {m : Nat} (h : m ≠ 0) : wlen m = wlen (m / BB) + 1 := by rw [wlen]; simp [h]
theorem wlen_le_iff (n : Nat) : ∀ m, wlen m ≤ n ↔ m < BB ^ n := by
  induction n with
  | zero =>
    intro m
    by_cases h : m = 0
    · subst h; simp [wlen_zero]
    · rw [wlen_pos h]; simp; omega
  | succ n ih =>
    intro m
    by_cases h : m = 0
    · subst h; simp [wlen_zero, BBp]
    · rw [wlen_pos h, Nat.add_le_add_iff_right, ih, Nat.pow_succ, Nat.div_lt_iff_lt_mul BB_pos]
theorem wlen_le {m n : Nat} (h : m < BB ^ n) : wlen m ≤ n := (wlen_le_iff n m).2 h
theorem lt_wlen (m : Nat) : m < BB ^ wlen m := (wlen_le_iff _ m).1 (Nat.le_refl _)
theorem wlen_eq {m n : Nat} (h1 : m < BB ^ (n + 1)) (h2 : BB ^ n ≤ m) : wlen m = n + 1 := by
  have a := wlen_le h1
  have b : ¬ wlen m ≤ n := fun h => by have := (wlen_le_iff n m).1 h; omega
  omega
theorem le_of_wlen {m n : Nat} (h : n < wlen m) : BB ^ n ≤ m := by
  have : ¬ wlen m ≤ n := by omega
  rw [wlen_le_iff] at this
  omega
theorem wlen_mono {a b : Nat} (h : a ≤ b) : wlen a ≤ wlen b := wlen_le (Nat.lt_of_le_of_lt h (lt_wlen b))
theorem wlen_eq_zero {m : Nat} : wlen m = 0 ↔ m = 0 := by
  constructor
  · intro h
    have := (wlen_le_iff 0 m).1 (by omega)
    simpa using this
  · rintro rfl; exact wlen_zero
theorem val_wlen (m : Nat) : val (wlen m) (dig m) = m := val_dig_of_lt (lt_wlen m)
theorem dig_top {m n : Nat} (h : wlen m = n + 1) : dig m n ≠ 0 := by
  intro h0
  have h1 := val_wlen m
  rw [h, val_succ, h0, Nat.zero_mul, Nat.add_zero] at h1
  have h2 : val n (dig m) < BB ^ n := val_lt (fun i _ => dig_lt m i)
  have := le_of_wlen (m := m) (n := n) (by omega)
  omega
theorem wlen_val {n : Nat} {f : Nat → Nat} (h : ∀ i, i < n → f i < BB) (ht : n = 0 ∨ f (n - 1) ≠ 0) : wlen (val n f) = n := by
  cases n with
  | zero => simp [val, wlen_zero]
  | succ n =>
    have ht : f n ≠ 0 := by rcases ht with h | h; (· omega); (· simpa using h)
    refine wlen_eq (val_lt h) ?_
    rw [val_succ]
    have : 1 * BB ^ n ≤ f n * BB ^ n := Nat.mul_le_mul_right _ (by omega)
    omega
/-- What norm leaves: the words above place i are 0, and the one below it is none. -/
theorem wlen_norm {n i : Nat} {f : Nat → Nat} (h : ∀ j, j < n → f j < BB) (hi : i ≤ n) (hz : ∀ j, i ≤ j → j < n → f j = 0) (ht : i = 0 ∨ f (i - 1) ≠ 0) : wlen (val n f) = i := by
  rw [val_more hi hz]
  exact wlen_val (fun j hj => h j (by omega)) ht
theorem wlen_one {x : Nat} (h : x < BB) (h0 : x ≠ 0) : wlen x = 1 := wlen_eq (by simpa using h) (by simp; omega)
theorem wlen_lt_of {a b : Nat} (h : wlen a < wlen b) : a < b := by
  rcases Nat.lt_or_ge a b with h' | h'
  · exact h'
  · have := wlen_mono h'; omega

/-- Two numbers of n words, that agree from place i on: the words below tell. -/
theorem val_cmp {n i : Nat} {f g : Nat → Nat} (hf : ∀ j, j < n → f j < BB) (hg : ∀ j, j < n → g j < BB) (hi : i < n) (he : ∀ j, i < j → j < n → f j = g j) (hlt : f i < g i) : val n f < val n g := by
  obtain ⟨d, rfl⟩ : ∃ d, n = (i + 1) + d := ⟨n - i - 1, by omega⟩
  rw [val_split (i + 1) d f, val_split (i + 1) d g, val_ext (n := d) (f := fun j => f (i + 1 + j)) (g := fun j => g (i + 1 + j)) (fun j hj => he _ (by omega) (by omega)), val_succ, val_succ]
  have h1 : val i f < BB ^ i := val_lt (fun j hj => hf j (by omega))
  have h2 : (f i + 1) * BB ^ i ≤ g i * BB ^ i := Nat.mul_le_mul_right _ hlt
  rw [Nat.succ_mul] at h2
  omega

/-! The loops. -/
/-- Sums with carries. -/
def addC (X Y : Nat → Nat) (c : Nat) : Nat → Nat
  | 0 => c
  | i + 1 => (X i + Y i + addC X Y c i) / BB
def addD (X Y : Nat → Nat) (c i : Nat) : Nat := (X i + Y i + addC X Y c i) % BB
theorem addC_le {X Y : Nat → Nat} {c n : Nat} (hx : ∀ i, i < n → X i < BB) (hy : ∀ i, i < n → Y i < BB) (hc : c ≤ 1) : addC X Y c n ≤ 1 := by
  induction n with
  | zero => exact hc
  | succ n ih =>
    have h1 := ih (fun i hi => hx i (by omega)) (fun i hi => hy i (by omega))
    have h2 := hx n (by omega)
    have h3 := hy n (by omega)
    show (X n + Y n + addC X Y c n) / BB ≤ 1
    unfold BB at *
    omega
theorem addD_lt (X Y : Nat → Nat) (c i : Nat) : addD X Y c i < BB := Nat.mod_lt _ BB_pos
theorem add_law (X Y : Nat → Nat) (c n : Nat) : val n (addD X Y c) + addC X Y c n * BB ^ n = val n X + val n Y + c := by
  induction n with
  | zero => simp [val, addC]
  | succ n ih =>
    rw [val_succ, val_succ, val_succ]
    have h := Nat.div_add_mod (X n + Y n + addC X Y c n) BB
    have h2 : addD X Y c n = (X n + Y n + addC X Y c n) % BB := rfl
    have h3 : addC X Y c (n + 1) = (X n + Y n + addC X Y c n) / BB := rfl
    rw [h2, h3, Nat.pow_succ]
    generalize (X n + Y n + addC X Y c n) % BB = r at *
    generalize (X n + Y n + addC X Y c n) / BB = q at *
    grind
/-- Differences with borrows. -/
def subC (X Y : Nat → Nat) (c : Nat) : Nat → Nat
  | 0 => c
  | i + 1 => if X i < Y i + subC X Y c i then 1 else 0
def subD (X Y : Nat → Nat) (c i : Nat) : Nat := (X i + BB - Y i - subC X Y c i) % BB
theorem subC_le {X Y : Nat → Nat} {c : Nat} (hc : c ≤ 1) : ∀ n, subC X Y c n ≤ 1
  | 0 => hc
  | n + 1 => by show (if X n < Y n + subC X Y c n then 1 else 0) ≤ 1; split <;> omega
theorem subD_lt (X Y : Nat → Nat) (c i : Nat) : subD X Y c i < BB := Nat.mod_lt _ BB_pos
theorem sub_law {X Y : Nat → Nat} {c n : Nat} (hx : ∀ i, i < n → X i < BB) (hy : ∀ i, i < n → Y i < BB) (hc : c ≤ 1) : val n (subD X Y c) + val n Y + c = val n X + subC X Y c n * BB ^ n := by
  induction n with
  | zero => simp [val, subC]
  | succ n ih =>
    have ih := ih (fun i hi => hx i (by omega)) (fun i hi => hy i (by omega))
    have h1 := subC_le (X := X) (Y := Y) hc n
    have h2 := hx n (by omega)
    have h3 := hy n (by omega)
    rw [val_succ, val_succ, val_succ]
    have e1 : subC X Y c (n + 1) = if X n < Y n + subC X Y c n then 1 else 0 := rfl
    have e2 : subD X Y c n + Y n + subC X Y c n = X n + subC X Y c (n + 1) * BB := by
      rw [e1]
      unfold subD
      have := BB_eq
      split
      · rw [Nat.mod_eq_of_lt (by omega)]; omega
      · rw [show X n + BB - Y n - subC X Y c n = (X n - Y n - subC X Y c n) + BB by omega, Nat.add_mod_right, Nat.mod_eq_of_lt (by omega)]; omega
    rw [Nat.pow_succ]
    generalize subC X Y c (n + 1) = q at *
    generalize subC X Y c n = p at *
    generalize subD X Y c n = r at *
    have e3 : r * BB ^ n + Y n * BB ^ n + p * BB ^ n = X n * BB ^ n + q * BB * BB ^ n := by
      rw [← Nat.add_mul, ← Nat.add_mul, e2, Nat.add_mul]
    grind

/-- T's length is the digits' number. -/
theorem wlen_dlen {a : Nat} (h : a ≠ 0) : wlen a = dlen a := by
  have h1 := lt_dlen a
  have h2 := dlen_le h
  have h3 := dlen_pos a
  obtain ⟨k, hk⟩ : ∃ k, dlen a = k + 1 := ⟨dlen a - 1, by omega⟩
  rw [hk] at h1 h2 ⊢
  exact wlen_eq h1 (show 10 ^ k ≤ a by simpa using h2)
end Go.Proofs.YtdbjdpooggaonaaGreatDoor.T
end

section
namespace Go.Proofs.YtdbjdpooggaonaaGreatDoor
open Go.RowKit
set_option maxRecDepth 100000
/-- n digits f, the lowest first, in a slice. -/
def DS (w : World) (v : Value) (n : Nat) (f : Nat → Nat) : Prop := ∃ A cap, v = .slice A n cap ∧ n ≤ cap ∧ cap ≤ maxLen ∧ (0 < n → ∃ K o, A = some ⟨K, o, none⟩ ∧ ∀ i, i < n → w.cell? ⟨K, o + i, none⟩ = some (.int .u8 ((f i : Nat) : Int)))
/-- A number of the reference. -/
def NumV (w : World) (v : Value) (x : Int) : Prop := ∃ d, v = .agg #[.bool (decide (x < 0)), d] ∧ DS w d (T.wlen x.natAbs) (T.dig x.natAbs)
section
variable {w w' : World} {v : Value} {n m : Nat} {f g : Nat → Nat} {x : Int}
theorem DS.below (h : DS w v n f) (hb : Below w.heap.size w w') : DS w' v n f := by
  obtain ⟨A, cap, rfl, h1, h3, h2⟩ := h
  refine ⟨A, cap, rfl, h1, h3, fun h0 => ?_⟩
  obtain ⟨K, o, rfl, h4⟩ := h2 h0
  exact ⟨K, o, rfl, fun i hi => (hb.cell (p := ⟨K, o + i, none⟩) (World.block_lt_of_cell? w _ (h4 i hi))).trans (h4 i hi)⟩
theorem NumV.below (h : NumV w v x) (hb : Below w.heap.size w w') : NumV w' v x := by
  obtain ⟨d, rfl, h⟩ := h
  exact ⟨d, rfl, h.below hb⟩
theorem DS.congr (h : DS w v n f) (hg : ∀ i, i < n → f i = g i) : DS w v n g := by
  obtain ⟨A, cap, rfl, h1, h3, h2⟩ := h
  refine ⟨A, cap, rfl, h1, h3, fun h0 => ?_⟩
  obtain ⟨K, o, rfl, h4⟩ := h2 h0
  exact ⟨K, o, rfl, fun i hi => by rw [h4 i hi, hg i hi]⟩
theorem DS.less {A : Option Addr} {cap : Nat} (h : DS w (.slice A n cap) n f) (hm : m ≤ n) : DS w (.slice A m cap) m f := by
  obtain ⟨A', cap', e, h1, h3, h2⟩ := h
  cases e
  refine ⟨A, cap, rfl, by omega, h3, fun h0 => ?_⟩
  obtain ⟨K, o, rfl, h4⟩ := h2 (by omega)
  exact ⟨K, o, rfl, fun i hi => h4 i (by omega)⟩
theorem NumV.drewN (h : NumV w v x) (q : Nat) : NumV (w.drewN q) v x := h.below (below_drewN w q)
end
set_option maxHeartbeats 1000000 in
theorem trim_any (A : Option Addr) (n cap : Nat) (f : Nat → Nat) (w : World) (hd : DS w (.slice A n cap) n f) (hf : ∀ i, i < n → f i < 10) (hn : n < 1000000) :
    Calls Tryz.prog 180 #[.slice A n cap] w fun e w' => e = .returned (.slice A (T.wlen (T.val n f)) cap) ∧ w = w' := by
  replace hf := Hd.mk hf
  obtain ⟨A', cap', e, h1, h3, h2⟩ := hd
  cases e
  replace h2 := Hd.mk h2
  replace h1 := Hd.mk h1
  replace h3 := Hd.mk h3
  go_enter Tryz.func180, Tryz.ntmps180
  go_wp2
  go_loopw [0] (fun d wr => ∃ k : Nat, k ≤ n ∧ d = .slice A k cap ∧ Hd (∀ j, k ≤ j → j < n → f j = 0) ∧ w = wr) (fun d _ => match d with | .slice _ k _ => k | _ => 0)
  case atStart => exact ⟨n, Nat.le_refl _, rfl, ⟨fun j h4 h5 => by omega⟩, rfl⟩
  case round =>
    obtain ⟨k, hk, rfl, hz, rfl⟩ := hrel
    by_cases h0 : k = 0
    · subst h0
      have hres := Hd.mk (T.wlen_norm (n := n) (i := 0) hf.out (Nat.zero_le _) (fun j h4 h5 => hz.out j h4 h5) (.inl rfl))
      go_wp2
      go_ret
      exact ⟨by rw [hres.out]; rfl, rfl⟩
    · obtain ⟨m, rfl⟩ : ∃ m, k = m + 1 := ⟨k - 1, by omega⟩
      obtain ⟨K, o, rfl, hc⟩ := h2.out (by omega)
      have hck := hc m (by omega)
      have hcap := h1.out
      have hfk := hf.out m (by omega)
      have hmB : m < 1000000 := by omega
      replace hc := Hd.mk hc
      by_cases h9 : f m = 0
      · have hd9 : (((f m : Nat) : Int) == 0) = true := by rw [h9]; rfl
        replace h9 := Hd.mk h9
        go_wp2
        go_roundw
        case rel => exact ⟨m, by omega, rfl, ⟨fun j h4 h5 => if e : j = m then by rw [e]; exact h9.out else hz.out j (by omega) h5⟩, trivial⟩
        case measure => simp
      · have hd9 : (((f m : Nat) : Int) == 0) = false := by simp; omega
        have hres := Hd.mk (T.wlen_norm (n := n) (i := m + 1) hf.out hk (fun j h4 h5 => hz.out j h4 h5) (.inr h9))
        replace h9 := Hd.mk h9
        go_wp2
        go_ret
        exact ⟨by rw [hres.out]; rfl, rfl⟩
/-- The digits of a number trimmed. -/
theorem DS.trimmed {w : World} {A : Option Addr} {n cap : Nat} {f : Nat → Nat} (h : DS w (.slice A n cap) n f) (hf : ∀ i, i < n → f i < 10) : DS w (.slice A (T.wlen (T.val n f)) cap) (T.wlen (T.val n f)) (T.dig (T.val n f)) := by
  have hle : T.wlen (T.val n f) ≤ n := T.wlen_le (T.val_lt hf)
  exact (h.less hle).congr fun i hi => (T.dig_val hf (by omega)).symm
set_option maxHeartbeats 1000000 in
theorem signed_any (neg : Bool) (d : Value) (n : Nat) (f : Nat → Nat) (w : World) (hd : DS w d n f) (hf : ∀ i, i < n → f i < 10) (hn : n < 1000000) :
    Calls Tryz.prog 114 #[.bool neg, d] w fun e w' => ∃ v, e = .returned v ∧ NumV w' v (if neg then -(T.val n f : Int) else (T.val n f : Int)) ∧ Below w.heap.size w w' := by
  obtain ⟨A, cap, rfl, h1, h3, h2⟩ := hd
  have hd : DS w (.slice A n cap) n f := ⟨A, cap, rfl, h1, h3, h2⟩
  have htr := Hd.mk fun w1 (hb : Below w.heap.size w w1) => trim_any A n cap f w1 (hd.below hb) hf hn
  have htd := hd.trimmed hf
  have hb1 : ∀ o, Below w.heap.size w (w.alloc o) := fun o => (Below.refl _ _).alloc (Nat.le_refl _) _
  have hna : ∀ v : Int, (v = if neg then -(T.val n f : Int) else (T.val n f : Int)) → v.natAbs = T.val n f := fun v hv => by subst hv; split <;> simp
  have hsg : decide ((if neg then -(T.val n f : Int) else (T.val n f : Int)) < 0) = (neg && decide (0 < T.wlen (T.val n f))) := by
    by_cases h0 : T.val n f = 0
    · rw [h0, T.wlen_zero]; cases neg <;> rfl
    · have : T.wlen (T.val n f) ≠ 0 := fun h => h0 (T.wlen_eq_zero.1 h)
      cases neg
      · simp
      · simp; omega
  have hfin : Hd (∀ w', Below w.heap.size w w' → NumV w' (.agg #[.bool (neg && decide (0 < T.wlen (T.val n f))), .slice A (T.wlen (T.val n f)) cap]) (if neg then -(T.val n f : Int) else (T.val n f : Int))) := ⟨fun w' hb => by
    refine ⟨_, by rw [hsg], ?_⟩
    rw [hna _ rfl]
    exact htd.below hb⟩
  generalize T.wlen (T.val n f) = m at *
  generalize (if neg then -(T.val n f : Int) else (T.val n f : Int)) = x at *
  replace htd := Hd.mk htd
  replace hna := Hd.mk hna
  replace hsg := Hd.mk hsg
  replace h2 := Hd.mk h2
  replace hd := Hd.mk hd
  replace hf := Hd.mk hf
  replace h1 := Hd.mk h1
  replace h3 := Hd.mk h3
  replace hb1 := Hd.mk hb1
  cases neg
  · go_enter Tryz.func114, Tryz.ntmps114
    go_wp2_with (go_at_call 180; refine (htr.out _ (hb1.out _)).mono ?_; rintro e w2 ⟨rfl, rfl⟩)
    refine bodyPost_ret (v := .agg #[.bool false, .slice A m cap]) (by simp [results, Tryz.results114, go_sem]) rfl ⟨_, rfl, hfin.out _ ?_, ?_⟩
    all_goals exact (Below.refl _ _).alloc (Nat.le_refl _) _
  · by_cases hm : m = 0
    · subst hm
      go_enter Tryz.func114, Tryz.ntmps114
      go_wp2_with (go_at_call 180; refine (htr.out _ (hb1.out _)).mono ?_; rintro e w2 ⟨rfl, rfl⟩)
      refine bodyPost_ret (v := .agg #[.bool false, .slice A 0 cap]) (by simp [results, Tryz.results114, go_sem]) rfl ⟨_, rfl, hfin.out _ ?_, ?_⟩
      all_goals exact (Below.refl _ _).alloc (Nat.le_refl _) _
    · have hpos : decide (0 < (m : Int)) = true := decide_eq_true (by omega)
      have hpn : decide (0 < m) = true := decide_eq_true (by omega)
      rw [hpn] at hfin
      replace hm := Hd.mk hm
      go_enter Tryz.func114, Tryz.ntmps114
      go_wp2_with (go_at_call 180; refine (htr.out _ (hb1.out _)).mono ?_; rintro e w2 ⟨rfl, rfl⟩)
      refine bodyPost_ret (v := .agg #[.bool true, .slice A m cap]) (by simp [results, Tryz.results114, go_sem]) rfl ⟨_, rfl, hfin.out _ ?_, ?_⟩
      all_goals exact (Below.refl _ _).alloc (Nat.le_refl _) _
end Go.Proofs.YtdbjdpooggaonaaGreatDoor
end

section
namespace Go.Proofs.YtdbjdpooggaonaaGreatDoor
open Go.RowKit
set_option maxRecDepth 100000
def digs (n : Nat) (f : Nat → Nat) : List Value := (List.range n).map fun i => .int .u8 ((f i : Nat) : Int)
/-- A row of n digits f of the call's own, begun at w0. -/
structure OwD (w0 wr : World) (v : Value) (n : Nat) (f : Nat → Nat) : Prop where
  row : wr.ownsRow w0.heap.size 5 1 v n (digs n f)
  bel : Below w0.heap.size w0 wr
theorem digs_get {n i : Nat} {f : Nat → Nat} (h : i < n) : (digs n f)[i]? = some (.int .u8 ((f i : Nat) : Int)) := by
  unfold digs; rw [List.getElem?_map, List.getElem?_range h]; rfl
theorem digs_succ (n : Nat) (f : Nat → Nat) : digs (n + 1) f = digs n f ++ [.int .u8 ((f n : Nat) : Int)] := by
  unfold digs; rw [List.range_succ, List.map_append]; rfl
theorem Below.grown {B : Nat} {w wr w' : World} {v : Value} (h : Below B w wr) (g : wr.grownBy w' v.ownBlock) (hv : ∀ K, v.ownBlock = some K → B ≤ K) (hB : B ≤ wr.heap.size) : Below B w w' :=
  ⟨g.os.trans h.os, g.tape.trans h.tape, g.output.trans h.output, Nat.le_trans h.size g.size, fun k hk => (g.block k (by omega) (fun e => by have := hv k e.symm; omega)).trans (h.block k hk)⟩
section
variable {w0 wr w' : World} {v : Value} {n : Nat} {f g : Nat → Nat}
theorem OwD.nil (w : World) (f : Nat → Nat) : OwD w w (.slice none 0 0) 0 f := ⟨World.ownsRow_nil _ _ _ _, Below.refl _ _⟩
theorem OwD.congr (h : OwD w0 wr v n f) (hg : ∀ i, i < n → f i = g i) : OwD w0 wr v n g := by
  have : digs n f = digs n g := by
    unfold digs
    apply List.map_congr_left
    intro i hi
    rw [hg i (List.mem_range.1 hi)]
  exact ⟨this ▸ h.row, h.bel⟩
theorem OwD.below (h : OwD w0 wr v n f) (hb : Below wr.heap.size wr w') : OwD w0 w' v n f :=
  ⟨h.row.kept (row := none) ⟨hb.os, hb.tape, hb.output, hb.size, fun k hk _ => hb.block k hk⟩ (by
    cases e : v.ownBlock with
    | none => exact .inl rfl
    | some k => exact .inr (by simp)), h.bel.trans (hb.mono h.bel.size)⟩
theorem OwD.ds (h : OwD w0 wr v n f) : DS wr v n f := by
  obtain ⟨h1, h2⟩ := h.row
  rcases h2 with ⟨rfl, rfl⟩ | ⟨g, cap, cur, rfl, h3, h4, h5, h6, h7, h8⟩
  · exact ⟨none, 0, rfl, Nat.le_refl _, Nat.zero_le _, fun h => by omega⟩
  · refine ⟨_, cap, rfl, h5, h6, fun _ => ⟨g, 0, rfl, fun i hi => ?_⟩⟩
    rw [Nat.zero_add, cell_of_row wr g i cur _ _ h4]
    have h9 := digs_get (f := f) hi
    rw [← h8, List.getElem?_take_of_lt (by omega)] at h9
    simpa using h9
end
/-- A row that is new since w, or nil. -/
def NewS (w : World) (v : Value) : Prop := v = .slice none 0 0 ∨ ∃ K n c, v = .slice (some ⟨K, 0, none⟩) n c ∧ w.heap.size ≤ K
theorem OwD.newS {w0 wr : World} {A : Option Addr} {n c : Nat} {f : Nat → Nat} (h : OwD w0 wr (.slice A n c) n f) {m : Nat} (hm : m ≤ n) : NewS w0 (.slice A m c) := by
  rcases h.row.2 with ⟨h1, h2⟩ | ⟨g, cap, cur, h1, h2, _⟩
  · cases h1; exact .inl (by rw [show m = 0 by omega])
  · cases h1; exact .inr ⟨g, m, c, rfl, h2⟩
theorem u8info : ∃ i, Tryz.prog.info? 5 = some i ∧ i.zero = some (.int .u8 0) ∧ i.size = 1 ∧ i.bytes = 1 := by
  obtain ⟨i, h1, h2, h3, h4⟩ := info_parts byteInfo0
  exact ⟨i, h1, h2, h3, h4⟩
/-- A digit more. -/
theorem wpList_push {w0 wr : World} {ops : Array Oper} {rest : List Oper} {o : Oper} {a : Act} {Q : Exit → Act → World → Prop} (hgd : o.guard = none) (s x : Operand)
    (ho : o.op = .call { callee := .builtin .append, args := #[s, x], argTypes := #[22, 22] })
    (v : Value) (n : Nat) (f : Nat → Nat) (hs : a.eval s = v) (how : OwD w0 wr v n f) (c : Int) (hc : c = ((f n : Nat) : Int)) (hx : a.eval x = .slice (some ⟨wr.heap.size, 0, none⟩) 1 1) (hn : n < 1000000)
    (h : ∀ v' w', OwD w0 w' v' (n + 1) f → (∃ g cap, v' = .slice (some ⟨g, 0, none⟩) (n + 1) cap) → Below w0.heap.size w0 w' → wr.heap.size < w'.heap.size → wpList Tryz.prog ops Q rest (a.put o.dst v') w') :
    wpList Tryz.prog ops Q (o :: rest) a (wr.alloc (.cells #[.int .u8 c] 5)) := by
  obtain ⟨i, hi, hz, hsz, hby⟩ := u8info
  have hsize : wr.heap.size ≤ (wr.alloc (.cells #[.int .u8 c] 5)).heap.size := by rw [World.size_alloc]; omega
  refine wpList_append_lies _ hgd s x 22 ho w0.heap.size 5 i (.int .u8 0) 1 1 Tryz.underlying22 hi hz hsz hby rfl (by decide) v n (digs n f) hs (how.row.alloc _) ⟨wr.heap.size, 0, none⟩ 1 1 [.int .u8 c] hx rfl
    (World.news_of_block (w := wr.alloc (.cells #[.int .u8 c] 5)) (cs := #[.int .u8 c]) (Blk.new wr #[.int .u8 c] 5))
    (fun u hu => by simp at hu; subst hu; rfl) (by decide) (by unfold maxLen; omega) (by omega) (Nat.le_trans how.bel.size hsize) _ rfl ?_
  intro g cap w' h1 h2 h3 h4
  have hb : Below w0.heap.size w0 w' := Below.grown (how.bel.alloc how.bel.size _) h2 (fun K hK => (how.row.lt K hK).1) (Nat.le_trans how.bel.size hsize)
  refine h _ w' ⟨by rw [digs_succ, ← hc]; exact h1, hb⟩ ⟨g, cap, rfl⟩ hb ?_
  have := h2.size
  rw [World.size_alloc] at this; omega
end Go.Proofs.YtdbjdpooggaonaaGreatDoor
end

section
namespace Go.Proofs.YtdbjdpooggaonaaGreatDoor
open Go.RowKit
set_option maxRecDepth 100000
theorem addC_step (X Y : Nat → Nat) : ∀ k, T.addC X Y 0 (k + 1) = (X k + Y k + T.addC X Y 0 k) / 10 := fun _ => rfl
theorem addD_eq (X Y : Nat → Nat) : ∀ k, T.addD X Y 0 k = (X k + Y k + T.addC X Y 0 k) % 10 := fun _ => rfl
theorem addC_u8 {X Y : Nat → Nat} {k : Nat} (hX : ∀ i, X i < 10) (hY : ∀ i, Y i < 10) : T.addC X Y 0 k ≤ 1 := T.addC_le (fun i _ => hX i) (fun i _ => hY i) (by omega)
theorem dig_beyond {a k : Nat} (h : T.wlen a ≤ k) : T.dig a k = 0 := T.dig_ge (n := T.wlen a) (T.lt_wlen a) h
theorem addC_end {a b k : Nat} (ha : T.wlen a ≤ k) (hb : T.wlen b ≤ k) : T.addC (T.dig a) (T.dig b) 0 (k + 1) = 0 := by
  have h := addC_u8 (k := k) (T.dig_lt a) (T.dig_lt b)
  show (T.dig a k + T.dig b k + T.addC (T.dig a) (T.dig b) 0 k) / T.BB = 0
  rw [dig_beyond ha, dig_beyond hb]
  unfold T.BB; omega
set_option maxHeartbeats 4000000 in
theorem plus_any (va vb : Value) (a b : Nat) (w : World) (ha : DS w va (T.wlen a) (T.dig a)) (hb : DS w vb (T.wlen b) (T.dig b)) (hla : T.wlen a < 1000) (hlb : T.wlen b < 1000) :
    Calls Tryz.prog 177 #[va, vb] w fun e w' => ∃ v n, e = .returned v ∧ DS w' v n (T.addD (T.dig a) (T.dig b) 0) ∧ n < 2000 ∧ T.val n (T.addD (T.dig a) (T.dig b) 0) = a + b ∧ Below w.heap.size w w' := by
  have hda := Hd.mk ha
  have hdb := Hd.mk hb
  obtain ⟨A, ca, rfl, h1, h1m, h2⟩ := ha
  obtain ⟨B, cb, rfl, h3, h3m, h4⟩ := hb
  replace h1 := Hd.mk h1
  replace h1m := Hd.mk h1m
  replace h2 := Hd.mk h2
  replace h3 := Hd.mk h3
  replace h3m := Hd.mk h3m
  replace h4 := Hd.mk h4
  have hlaw := Hd.mk (T.add_law (T.dig a) (T.dig b) 0)
  have hcle := Hd.mk fun k => addC_u8 (k := k) (T.dig_lt a) (T.dig_lt b)
  have hend := Hd.mk fun k (h5 : T.wlen a ≤ k) (h6 : T.wlen b ≤ k) => addC_end h5 h6
  have hvala := Hd.mk fun k (h5 : T.wlen a ≤ k) => T.val_dig_of_lt (m := a) (n := k) ((T.wlen_le_iff k a).1 h5)
  have hvalb := Hd.mk fun k (h5 : T.wlen b ≤ k) => T.val_dig_of_lt (m := b) (n := k) ((T.wlen_le_iff k b).1 h5)
  have hbya := Hd.mk fun k (h5 : T.wlen a ≤ k) => dig_beyond h5
  have hbyb := Hd.mk fun k (h5 : T.wlen b ≤ k) => dig_beyond h5
  have hdla := fun k => T.dig_lt a k
  have hdlb := fun k => T.dig_lt b k
  replace hdla := Hd.mk hdla
  replace hdlb := Hd.mk hdlb
  have hstep := Hd.mk (addC_step (T.dig a) (T.dig b))
  have hdig := Hd.mk (addD_eq (T.dig a) (T.dig b))
  have hFC0 : T.addC (T.dig a) (T.dig b) 0 0 = 0 := rfl
  generalize T.addD (T.dig a) (T.dig b) 0 = FD at *
  generalize T.addC (T.dig a) (T.dig b) 0 = FC at *
  generalize T.dig a = fa at *
  generalize T.dig b = fb at *
  generalize hna : T.wlen a = na at *
  generalize hnb : T.wlen b = nb at *
  replace hna := Hd.mk hna
  replace hnb := Hd.mk hnb
  obtain ⟨M, hM1, hM2, hM3⟩ : ∃ M, na ≤ M ∧ nb ≤ M ∧ (M = na ∨ M = nb) := by
    by_cases h : na ≤ nb
    · exact ⟨nb, h, Nat.le_refl _, .inr rfl⟩
    · exact ⟨na, Nat.le_refl _, by omega, .inl rfl⟩
  have hC0 : FC 0 = 0 := hFC0
  obtain ⟨M, hM1, hM2, hM3⟩ : ∃ M, na ≤ M ∧ nb ≤ M ∧ (M = na ∨ M = nb) := by
    by_cases h : na ≤ nb
    · exact ⟨nb, h, Nat.le_refl _, .inr rfl⟩
    · exact ⟨na, Nat.le_refl _, by omega, .inl rfl⟩
  have hC0 : FC 0 = 0 := hFC0
  obtain ⟨M, hM1, hM2, hM3⟩ : ∃ M, na ≤ M ∧ nb ≤ M ∧ (M = na ∨ M = nb) := by
    by_cases h : na ≤ nb
    · exact ⟨nb, h, Nat.le_refl _, .inr rfl⟩
    · exact ⟨na, Nat.le_refl _, by omega, .inl rfl⟩
  have hC0 : FC 0 = 0 := hFC0
  go_enter Tryz.func177, Tryz.ntmps177
  go_wp2
  go_loopw [5, 6, 7, 8] (fun o c i n wr => ∃ k : Nat, k ≤ M + 1 ∧ Hd (k = M + 1 → FC k = 0) ∧ c = .int .u8 ((FC k : Nat) : Int) ∧ i = .int .i64 k ∧ Hd (OwD w wr o k FD)) (fun _ _ i _ _ => M + 2 - (intOf i).toNat)
  case atStart => exact ⟨0, by omega, ⟨fun h => by omega⟩, by rw [hC0]; rfl, rfl, ⟨OwD.nil _ _⟩⟩
  case round =>
    obtain ⟨k, hk1, hk2, rfl, rfl, how⟩ := hrel
    have hc1 := hcle.out k
    have hst := hstep.out k
    have hdg := hdig.out k
    by_cases hex : M ≤ k ∧ FC k = 0
    · obtain ⟨he1, he2⟩ := hex
      have q1 : decide ((k : Int) < (na : Int)) = false := decide_eq_false (by omega)
      have q2 : decide ((k : Int) < (nb : Int)) = false := decide_eq_false (by omega)
      have hres : T.val k FD = a + b := by
        have := hlaw.out k
        rw [he2, hvala.out k (by omega), hvalb.out k (by omega)] at this
        omega
      rw [he2]
      replace hres := Hd.mk hres
      replace he2 := Hd.mk he2
      replace hst := Hd.mk hst
      replace hdg := Hd.mk hdg
      go_wp2
      go_ret
      exact ⟨_, _, rfl, how.out.ds, by omega, hres.out, how.out.bel⟩
    · have hxa := hdla.out k
      have hxb := hdlb.out k
      have hkM : k ≤ M := by
        by_cases h : k = M + 1
        · exact absurd ⟨by omega, hk2.out h⟩ hex
        · omega
      have hnext : k + 1 = M + 1 → FC (k + 1) = 0 := fun h => hend.out k (by omega) (by omega)
      have hpos : k < M ∨ 0 < FC k := by omega
      have hza : na ≤ k → fa k = 0 := hbya.out k
      have hzb : nb ≤ k → fb k = 0 := hbyb.out k
      clear hex hk2
      generalize hcv : FC k = c at *
      generalize hav : fa k = xa at *
      generalize hbv : fb k = xb at *
      unfold T.BB at hxa hxb
      replace hcv := Hd.mk hcv
      replace hav := Hd.mk hav
      replace hbv := Hd.mk hbv
      replace hst := Hd.mk hst
      replace hdg := Hd.mk hdg
      replace hnext := Hd.mk hnext
      replace hza := Hd.mk hza
      replace hzb := Hd.mk hzb
      have hkB : k < 1001 := by omega
      by_cases qa : k < na
      · have q1 : decide ((k : Int) < (na : Int)) = true := decide_eq_true (by omega)
        obtain ⟨KA, oa, rfl, hca⟩ := h2.out (by omega)
        have g1 := hca k qa
        rw [hav.out] at g1
        have hlea := h1.out
        replace hca := Hd.mk hca
        by_cases qb : k < nb
        · have q2 : decide ((k : Int) < (nb : Int)) = true := decide_eq_true (by omega)
          obtain ⟨KB, ob, rfl, hcb⟩ := h4.out (by omega)
          have g2 := hcb k qb
          rw [hbv.out] at g2
          have hleb := h3.out
          replace hcb := Hd.mk hcb
          have hb1 := how.out.bel
          have g1' : wr.cell? ⟨KA, oa + k, none⟩ = some (.int .u8 (xa : Int)) := (hb1.cell (p := ⟨KA, oa + k, none⟩) (World.block_lt_of_cell? w _ g1)).trans g1
          clear g1
          have g2' : wr.cell? ⟨KB, ob + k, none⟩ = some (.int .u8 (xb : Int)) := (hb1.cell (p := ⟨KB, ob + k, none⟩) (World.block_lt_of_cell? w _ g2)).trans g2
          clear g2
          replace hb1 := Hd.mk hb1
          go_wp2_with (at_builtin; refine wpList_push rfl (.tmp 46) (.tmp 49) rfl _ k FD rfl how.out _ ?hc rfl (by omega) ?_; (case hc => (rw [hdg.out]; push_cast; omega)); intro v' w' how2 hv' hb2 hsz2; obtain ⟨g', cap', rfl⟩ := hv'; replace how2 := Hd.mk how2; replace hb2 := Hd.mk hb2)
          go_roundw
          case rel => exact ⟨k + 1, by omega, hnext, by rw [hst.out]; congr 1; push_cast; omega, by go_num, how2⟩
          case measure => simp [intOf]; omega
        · have q2 : decide ((k : Int) < (nb : Int)) = false := decide_eq_false (by omega)
          have hxb0 := hzb.out (by omega)
          subst hxb0
          have hb1 := how.out.bel
          have g1' : wr.cell? ⟨KA, oa + k, none⟩ = some (.int .u8 (xa : Int)) := (hb1.cell (p := ⟨KA, oa + k, none⟩) (World.block_lt_of_cell? w _ g1)).trans g1
          clear g1
          replace hb1 := Hd.mk hb1
          go_wp2_with (at_builtin; refine wpList_push rfl (.tmp 46) (.tmp 49) rfl _ k FD rfl how.out _ ?hc rfl (by omega) ?_; (case hc => (rw [hdg.out]; push_cast; omega)); intro v' w' how2 hv' hb2 hsz2; obtain ⟨g', cap', rfl⟩ := hv'; replace how2 := Hd.mk how2; replace hb2 := Hd.mk hb2)
          go_roundw
          case rel => exact ⟨k + 1, by omega, hnext, by rw [hst.out]; congr 1; push_cast; omega, by go_num, how2⟩
          case measure => simp [intOf]; omega
      · have q1 : decide ((k : Int) < (na : Int)) = false := decide_eq_false (by omega)
        have hxa0 := hza.out (by omega)
        subst hxa0
        by_cases qb : k < nb
        · have q2 : decide ((k : Int) < (nb : Int)) = true := decide_eq_true (by omega)
          obtain ⟨KB, ob, rfl, hcb⟩ := h4.out (by omega)
          have g2 := hcb k qb
          rw [hbv.out] at g2
          have hleb := h3.out
          replace hcb := Hd.mk hcb
          have hb1 := how.out.bel
          have g2' : wr.cell? ⟨KB, ob + k, none⟩ = some (.int .u8 (xb : Int)) := (hb1.cell (p := ⟨KB, ob + k, none⟩) (World.block_lt_of_cell? w _ g2)).trans g2
          clear g2
          replace hb1 := Hd.mk hb1
          go_wp2_with (at_builtin; refine wpList_push rfl (.tmp 46) (.tmp 49) rfl _ k FD rfl how.out _ ?hc rfl (by omega) ?_; (case hc => (rw [hdg.out]; push_cast; omega)); intro v' w' how2 hv' hb2 hsz2; obtain ⟨g', cap', rfl⟩ := hv'; replace how2 := Hd.mk how2; replace hb2 := Hd.mk hb2)
          go_roundw
          case rel => exact ⟨k + 1, by omega, hnext, by rw [hst.out]; congr 1; push_cast; omega, by go_num, how2⟩
          case measure => simp [intOf]; omega
        · have q2 : decide ((k : Int) < (nb : Int)) = false := decide_eq_false (by omega)
          have hxb0 := hzb.out (by omega)
          subst hxb0
          have q3 : decide (0 < (c : Int)) = true := decide_eq_true (by omega)
          have hb1 := how.out.bel
          replace hb1 := Hd.mk hb1
          go_wp2_with (at_builtin; refine wpList_push rfl (.tmp 46) (.tmp 49) rfl _ k FD rfl how.out _ ?hc rfl (by omega) ?_; (case hc => (rw [hdg.out]; push_cast; omega)); intro v' w' how2 hv' hb2 hsz2; obtain ⟨g', cap', rfl⟩ := hv'; replace how2 := Hd.mk how2; replace hb2 := Hd.mk hb2)
          go_roundw
          case rel => exact ⟨k + 1, by omega, hnext, by rw [hst.out]; congr 1; push_cast; omega, by go_num, how2⟩
          case measure => simp [intOf]; omega
end Go.Proofs.YtdbjdpooggaonaaGreatDoor
end

section
namespace Go.Proofs.YtdbjdpooggaonaaGreatDoor
open Go.RowKit
set_option maxRecDepth 100000
theorem subC_step (X Y : Nat → Nat) : ∀ k, T.subC X Y 0 (k + 1) = if X k < Y k + T.subC X Y 0 k then 1 else 0 := fun _ => rfl
theorem subD_eq (X Y : Nat → Nat) : ∀ k, T.subD X Y 0 k = (X k + 10 - Y k - T.subC X Y 0 k) % 10 := fun _ => rfl
set_option maxHeartbeats 4000000 in
theorem less_new (va vb : Value) (a b : Nat) (w : World) (ha : DS w va (T.wlen a) (T.dig a)) (hb : DS w vb (T.wlen b) (T.dig b)) (hla : T.wlen a < 1000) (hba : b ≤ a) :
    Calls Tryz.prog 178 #[va, vb] w fun e w' => ∃ v, e = .returned v ∧ DS w' v (T.wlen (a - b)) (T.dig (a - b)) ∧ Below w.heap.size w w' ∧ NewS w v := by
  have hlb : T.wlen b ≤ T.wlen a := T.wlen_mono hba
  obtain ⟨A, ca, rfl, h1, h1m, h2⟩ := ha
  obtain ⟨B, cb, rfl, h3, h3m, h4⟩ := hb
  replace h1 := Hd.mk h1
  replace h1m := Hd.mk h1m
  replace h2 := Hd.mk h2
  replace h3 := Hd.mk h3
  replace h3m := Hd.mk h3m
  replace h4 := Hd.mk h4
  have hcle := Hd.mk (T.subC_le (X := T.dig a) (Y := T.dig b) (c := 0) (by omega))
  have hbyb := Hd.mk fun k (h5 : T.wlen b ≤ k) => dig_beyond h5
  have hdla := Hd.mk fun k => T.dig_lt a k
  have hdlb := Hd.mk fun k => T.dig_lt b k
  have hFC0 : T.subC (T.dig a) (T.dig b) 0 0 = 0 := rfl
  have hstep := Hd.mk (subC_step (T.dig a) (T.dig b))
  have hdig := Hd.mk (subD_eq (T.dig a) (T.dig b))
  have hfl := Hd.mk fun i (_ : i < T.wlen a) => (T.subD_lt (T.dig a) (T.dig b) 0 i : _ < 10)
  have hval : T.val (T.wlen a) (T.subD (T.dig a) (T.dig b) 0) = a - b := by
    have e1 : T.val (T.wlen a) (T.dig a) = a := T.val_wlen a
    have e2 : T.val (T.wlen a) (T.dig b) = b := T.val_dig_of_lt ((T.wlen_le_iff _ _).1 hlb)
    have h := T.sub_law (X := T.dig a) (Y := T.dig b) (c := 0) (n := T.wlen a) (fun i _ => T.dig_lt a i) (fun i _ => T.dig_lt b i) (by omega)
    rw [e1, e2] at h
    have h5 : T.val (T.wlen a) (T.subD (T.dig a) (T.dig b) 0) < T.BB ^ T.wlen a := T.val_lt (fun i _ => T.subD_lt _ _ _ i)
    have h6 := T.subC_le (X := T.dig a) (Y := T.dig b) (c := 0) (by omega) (T.wlen a)
    rcases Nat.eq_zero_or_pos (T.subC (T.dig a) (T.dig b) 0 (T.wlen a)) with h7 | h7
    · rw [h7] at h; omega
    · rw [show T.subC (T.dig a) (T.dig b) 0 (T.wlen a) = 1 by omega] at h; omega
  replace hval := Hd.mk hval
  generalize T.subD (T.dig a) (T.dig b) 0 = FD at *
  generalize T.subC (T.dig a) (T.dig b) 0 = FC at *
  generalize T.dig a = fa at *
  generalize T.dig b = fb at *
  generalize hna : T.wlen a = na at *
  generalize hnb : T.wlen b = nb at *
  replace hna := Hd.mk hna
  replace hnb := Hd.mk hnb
  go_enter Tryz.func178, Tryz.ntmps178
  go_wp2
  go_loopw [5, 6, 7, 8] (fun o c i n wr => ∃ k : Nat, k ≤ na ∧ c = .int .u8 ((FC k : Nat) : Int) ∧ i = .int .i64 k ∧ Hd (OwD w wr o k FD)) (fun _ _ i _ _ => na - (intOf i).toNat)
  case atStart => exact ⟨0, by omega, by rw [hFC0]; rfl, rfl, ⟨OwD.nil _ _⟩⟩
  case round =>
    obtain ⟨k, hk1, rfl, rfl, how⟩ := hrel
    have hc1 := hcle.out k
    by_cases hex : k = na
    · subst hex
      obtain ⟨A5, c5, rfl, h5, h6, h7⟩ := how.out.ds
      have hds := Hd.mk (how.out.ds)
      have hwk : Hd (T.wlen (a - b) ≤ k) := ⟨hval.out ▸ T.wlen_le (T.val_lt hfl.out)⟩
      have hnw := Hd.mk fun (q : Nat) (hq : q ≤ k) => how.out.newS (m := q) hq
      have htr := Hd.mk fun w1 (hb : Below wr.heap.size wr w1) => trim_any A5 k c5 FD w1 (how.out.ds.below hb) hfl.out (by omega)
      have hdt := Hd.mk (DS.trimmed (w := wr) ⟨A5, c5, rfl, h5, h6, h7⟩ hfl.out)
      rw [hval.out] at htr hdt
      replace h7 := Hd.mk h7
      replace h5 := Hd.mk h5
      replace h6 := Hd.mk h6
      have hbl := Hd.mk how.out.bel
      go_wp2_with (go_at_call 180; refine (htr.out _ (Below.refl _ _)).mono ?_; rintro e w2 ⟨rfl, rfl⟩)
      go_ret
      exact ⟨_, rfl, hdt.out, hbl.out, hnw.out _ (hwk.out)⟩
    · have hst := hstep.out k
      have hdg := hdig.out k
      have hxa := hdla.out k
      have hxb := hdlb.out k
      have hzb : nb ≤ k → fb k = 0 := hbyb.out k
      have hqa : k < na := by omega
      obtain ⟨KA, oa, rfl, hca⟩ := h2.out (by omega)
      have g1 := hca k hqa
      generalize hcv : FC k = c at *
      generalize hav : fa k = xa at *
      generalize hbv : fb k = xb at *
      unfold T.BB at hxa hxb
      have hlea := h1.out
      have hb1 := how.out.bel
      have g1' : wr.cell? ⟨KA, oa + k, none⟩ = some (.int .u8 (xa : Int)) := (hb1.cell (p := ⟨KA, oa + k, none⟩) (World.block_lt_of_cell? w _ g1)).trans g1
      clear g1
      have hkB : k < 1001 := by omega
      have hw1 : IntKind.u8.wrap (10 + (xa : Int)) = 10 + (xa : Int) := IntWalk.u8_in _ (by omega)
      have hw2 : IntKind.u8.wrap (10 + (xa : Int) - c) = 10 + (xa : Int) - c := IntWalk.u8_in _ (by omega)
      have hw3 : IntKind.u8.wrap (10 + (xa : Int) - c - xb) = 10 + (xa : Int) - c - xb := IntWalk.u8_in _ (by omega)
      have hp1 : (0 : Int) ≤ 10 + (xa : Int) - c := by omega
      have hp2 : (0 : Int) ≤ 10 + (xa : Int) - c - xb := by omega
      replace hcv := Hd.mk hcv
      replace hav := Hd.mk hav
      replace hbv := Hd.mk hbv
      replace hst := Hd.mk hst
      replace hdg := Hd.mk hdg
      replace hzb := Hd.mk hzb
      replace hca := Hd.mk hca
      by_cases qb : k < nb
      · have q2 : decide ((k : Int) < (nb : Int)) = true := decide_eq_true (by omega)
        obtain ⟨KB, ob, rfl, hcb⟩ := h4.out (by omega)
        have g2 := hcb k qb
        rw [hbv.out] at g2
        have hleb := h3.out
        replace hcb := Hd.mk hcb
        have g2' : wr.cell? ⟨KB, ob + k, none⟩ = some (.int .u8 (xb : Int)) := (hb1.cell (p := ⟨KB, ob + k, none⟩) (World.block_lt_of_cell? w _ g2)).trans g2
        clear g2
        have hw4 : IntKind.u8.wrap (1 - (10 + (xa : Int) - c - xb) / 10) = 1 - (10 + (xa : Int) - c - xb) / 10 := IntWalk.u8_in _ (by omega)
        replace hb1 := Hd.mk hb1
        go_wp2_with (at_builtin; refine wpList_push rfl (.tmp 32) (.tmp 35) rfl _ k FD rfl how.out _ ?hc rfl (by omega) ?_; (case hc => (rw [hdg.out]; omega)); intro v' w' how2 hv' hb2 hsz2; obtain ⟨g', cap', rfl⟩ := hv'; replace how2 := Hd.mk how2; replace hb2 := Hd.mk hb2)
        go_roundw
        case rel => exact ⟨k + 1, by omega, by rw [hst.out]; congr 1; split <;> omega, by go_num, how2⟩
        case measure => simp [intOf]; omega
      · have q2 : decide ((k : Int) < (nb : Int)) = false := decide_eq_false (by omega)
        have hxb0 := hzb.out (by omega)
        subst hxb0
        have hw4 : IntKind.u8.wrap (1 - (10 + (xa : Int) - c) / 10) = 1 - (10 + (xa : Int) - c) / 10 := IntWalk.u8_in _ (by omega)
        replace hb1 := Hd.mk hb1
        go_wp2_with (at_builtin; refine wpList_push rfl (.tmp 32) (.tmp 35) rfl _ k FD rfl how.out _ ?hc rfl (by omega) ?_; (case hc => (rw [hdg.out]; omega)); intro v' w' how2 hv' hb2 hsz2; obtain ⟨g', cap', rfl⟩ := hv'; replace how2 := Hd.mk how2; replace hb2 := Hd.mk hb2)
        go_roundw
        case rel => exact ⟨k + 1, by omega, by rw [hst.out]; congr 1; split <;> omega, by go_num, how2⟩
        case measure => simp [intOf]; omega
theorem less_any (va vb : Value) (a b : Nat) (w : World) (ha : DS w va (T.wlen a) (T.dig a)) (hb : DS w vb (T.wlen b) (T.dig b)) (hla : T.wlen a < 1000) (hba : b ≤ a) :
    Calls Tryz.prog 178 #[va, vb] w fun e w' => ∃ v, e = .returned v ∧ DS w' v (T.wlen (a - b)) (T.dig (a - b)) ∧ Below w.heap.size w w' :=
  (less_new va vb a b w ha hb hla hba).mono fun e w' ⟨v, h1, h2, h3, _⟩ => ⟨v, h1, h2, h3⟩
theorem T_dig_lt_lt {a b i : Nat} (hl : T.wlen a = T.wlen b) (hi : i < T.wlen a) (he : ∀ j, i < j → j < T.wlen a → T.dig a j = T.dig b j) (h : T.dig a i < T.dig b i) : a < b := by
  have := T.val_cmp (n := T.wlen a) (i := i) (f := T.dig a) (g := T.dig b) (fun j _ => T.dig_lt a j) (fun j _ => T.dig_lt b j) hi he h
  rwa [T.val_wlen, hl, T.val_wlen] at this
set_option maxHeartbeats 2000000 in
theorem compare_any (va vb : Value) (a b : Nat) (w : World) (ha : DS w va (T.wlen a) (T.dig a)) (hb : DS w vb (T.wlen b) (T.dig b)) (hla : T.wlen a < 1000) :
    Calls Tryz.prog 49 #[va, vb] w fun e w' => e = .returned (.int .i64 (cmpN a b)) ∧ ∃ q, w' = w.drewN q := by
  obtain ⟨A, ca, rfl, h1, h1m, h2⟩ := ha
  obtain ⟨B, cb, rfl, h3, h3m, h4⟩ := hb
  replace h1m := Hd.mk h1m
  replace h3m := Hd.mk h3m
  replace h2 := Hd.mk h2
  replace h4 := Hd.mk h4
  by_cases e1 : T.wlen a < T.wlen b
  · have hd : ((T.wlen a : Int) != (T.wlen b : Int)) = true := by simp; omega
    go_enter Tryz.func49, Tryz.ntmps49
    go_wp2
    go_ret
    exact ⟨ret_int (cmpN_lt (T.wlen_lt_of e1)).symm, 0, rfl⟩
  · by_cases e2 : T.wlen b < T.wlen a
    · have hd : ((T.wlen a : Int) != (T.wlen b : Int)) = true := by simp; omega
      go_enter Tryz.func49, Tryz.ntmps49
      go_wp2
      go_ret
      exact ⟨ret_int (cmpN_gt (T.wlen_lt_of e2)).symm, 0, rfl⟩
    · have hll : Hd (T.wlen a = T.wlen b) := ⟨by omega⟩
      have hd : ((T.wlen a : Int) != (T.wlen b : Int)) = false := by simp; omega
      go_enter Tryz.func49, Tryz.ntmps49
      go_wp2
      go_loopw [5] (fun i wr => ∃ k q : Nat, k ≤ T.wlen a ∧ i = .int .i64 ((k : Int) - 1) ∧ Hd (∀ j, k ≤ j → j < T.wlen a → T.dig a j = T.dig b j) ∧ wr = w.drewN q) (fun i _ => (intOf i + 1).toNat)
      case atStart => exact ⟨T.wlen a, 0, by omega, rfl, ⟨fun j h4 h5 => by omega⟩, rfl⟩
      case round =>
        obtain ⟨k, q, hk, rfl, he, rfl⟩ := hrel
        by_cases hk0 : k = 0
        · subst hk0
          have hres : Hd (a = b) := ⟨by
            rw [← T.val_wlen a, ← T.val_wlen b, ← hll.out]
            exact T.val_ext fun i hi => he.out i (by omega) hi⟩
          go_wp2
          go_ret
          exact ⟨ret_int (by rw [hres.out, cmpN_eq]), _, rfl⟩
        · obtain ⟨m, rfl⟩ : ∃ m, k = m + 1 := ⟨k - 1, by omega⟩
          have hm1 : ((m + 1 : Nat) : Int) - 1 = (m : Int) := by omega
          rw [hm1]
          obtain ⟨KA, oa, rfl, hca⟩ := h2.out (by omega)
          obtain ⟨KB, ob, rfl, hcb⟩ := h4.out (by omega)
          have g1 := hca m (by omega)
          have g2 := hcb m (by omega)
          have hma : m < T.wlen a := by omega
          have hmb : m < T.wlen b := by have := hll.out; omega
          replace hca := Hd.mk hca
          replace hcb := Hd.mk hcb
          have hp0 : decide (0 ≤ (m : Int)) = true := decide_eq_true (by omega)
          clear hm1
          by_cases hab : T.dig a m = T.dig b m
          · have hd4 : (((T.dig a m : Nat) : Int) != ((T.dig b m : Nat) : Int)) = false := by simp [hab]
            have hd5 : (((T.dig a m : Nat) : Int) == ((T.dig b m : Nat) : Int)) = true := by simp [hab]
            replace hab := Hd.mk hab
            go_wp2
            go_quiet (fail)
            go_wp2
            go_roundw
            case rel => exact ⟨m, _, by omega, by go_num, ⟨fun j h4 h5 => if e : j = m then e ▸ hab.out else he.out j (by omega) h5⟩, rfl⟩
            case measure => simp [intOf] <;> omega
          · have hd4 : (((T.dig a m : Nat) : Int) != ((T.dig b m : Nat) : Int)) = true := by simp; omega
            have hd5 : (((T.dig a m : Nat) : Int) == ((T.dig b m : Nat) : Int)) = false := by simp; omega
            by_cases hlt : T.dig a m < T.dig b m
            · have hres := Hd.mk (cmpN_lt (T_dig_lt_lt hll.out hma (fun j h4 h5 => he.out j (by omega) h5) hlt))
              go_wp2
              go_quiet (fail)
              go_wp2
              go_quiet (fail)
              go_wp2
              go_ret
              exact ⟨ret_int hres.out.symm, _, by simp only [World.drewN_drewN]; rfl⟩
            · have hgt : T.dig b m < T.dig a m := by omega
              have hres := Hd.mk (cmpN_gt (T_dig_lt_lt hll.out.symm hmb (fun j h4 h5 => (he.out j (by omega) (by have := hll.out; omega)).symm) hgt))
              go_wp2
              go_quiet (fail)
              go_wp2
              go_quiet (fail)
              go_wp2
              go_ret
              exact ⟨ret_int hres.out.symm, _, by simp only [World.drewN_drewN]; rfl⟩
end Go.Proofs.YtdbjdpooggaonaaGreatDoor
end

section
namespace Go.Proofs.YtdbjdpooggaonaaGreatDoor
open Go.RowKit
set_option maxRecDepth 100000
section
variable {w w' w3 : World} {v : Value} {n : Nat} {f : Nat → Nat} {x : Int}
theorem NumV.open (h : NumV w v x) : ∃ A cap, v = .agg #[.bool (decide (x < 0)), .slice A (T.wlen x.natAbs) cap] ∧ DS w (.slice A (T.wlen x.natAbs) cap) (T.wlen x.natAbs) (T.dig x.natAbs) := by
  obtain ⟨d, rfl, A, cap, rfl, h1⟩ := h
  exact ⟨A, cap, rfl, A, cap, rfl, h1⟩
theorem DS.poke (h : DS w v n f) {p : Addr} {u y : Value} (hp : w.cell? p = some u) (hu : ∀ c : Int, u ≠ .int .u8 c) : DS (w.setCell p y) v n f := by
  obtain ⟨A, cap, rfl, h1, h3, h2⟩ := h
  refine ⟨A, cap, rfl, h1, h3, fun h0 => ?_⟩
  obtain ⟨K, o, rfl, h4⟩ := h2 h0
  refine ⟨K, o, rfl, fun i hi => ?_⟩
  rw [World.cell?_setCell_other, h4 i hi]
  intro e
  rw [e, h4 i hi] at hp
  exact hu _ (Option.some.inj hp).symm
/-- A result's slot filled. -/
theorem ret_num {R : Nat} {b0 : Bool} {A0 : Option Addr} {n0 k0 : Nat} {u0 u1 : Value} (hb : Below w.heap.size w w3) (hR : w.heap.size ≤ R) (c0 : w3.cell? ⟨R, 0, none⟩ = some (.bool b0)) (c1 : w3.cell? ⟨R, 1, none⟩ = some (.slice A0 n0 k0)) (hv : NumV w3 v x) :
    NumV ((w3.setCell ⟨R, 0, none⟩ u0).setCell ⟨R, 1, none⟩ u1) v x ∧ Below w.heap.size w ((w3.setCell ⟨R, 0, none⟩ u0).setCell ⟨R, 1, none⟩ u1) := by
  obtain ⟨d, rfl, hd⟩ := hv
  refine ⟨⟨d, rfl, (hd.poke c0 (fun c e => by cases e)).poke (u := .slice A0 n0 k0) ?_ (fun c e => by cases e)⟩, (hb.setCell (p := ⟨R, 0, none⟩) hR _).setCell (p := ⟨R, 1, none⟩) hR _⟩
  rw [World.cell?_setCell_other, c1]
  intro e; cases e
/-- A contract that makes a number, its value written out. -/
theorem nv {P : Program} {g : FuncId} {args : Array Value} {w1 : World} (h : Calls P g args w1 fun e w' => ∃ v, e = .returned v ∧ NumV w' v x ∧ Below w1.heap.size w1 w') :
    Calls P g args w1 fun e w' => ∃ b A m c, e = .returned (.agg #[.bool b, .slice A m c]) ∧ NumV w' (.agg #[.bool b, .slice A m c]) x ∧ Below w1.heap.size w1 w' :=
  h.mono fun e w' ⟨v, he, hn, hb⟩ => by
    obtain ⟨A, cap, rfl, _⟩ := hn.open
    exact ⟨_, _, _, _, he, hn, hb⟩
theorem nvd {P : Program} {g : FuncId} {args : Array Value} {w1 : World} {Pr : Nat → Prop} (h : Calls P g args w1 fun e w' => ∃ v n, e = .returned v ∧ DS w' v n f ∧ Pr n ∧ Below w1.heap.size w1 w') :
    Calls P g args w1 fun e w' => ∃ A n c, e = .returned (.slice A n c) ∧ DS w' (.slice A n c) n f ∧ Pr n ∧ Below w1.heap.size w1 w' :=
  h.mono fun e w' ⟨v, n, he, hd, hp, hb⟩ => by
    obtain ⟨A, c, rfl, h9⟩ := hd
    exact ⟨_, _, _, he, ⟨A, c, rfl, h9⟩, hp, hb⟩
/-- Cells of older blocks. -/
theorem cb {b o : Nat} {u : Value} (hb : Below w.heap.size w w') (h : w.cell? ⟨b, o, none⟩ = some u) : w'.cell? ⟨b, o, none⟩ = some u := (hb.cell (p := ⟨b, o, none⟩) (World.block_lt_of_cell? w _ h)).trans h
theorem fb {b o : Nat} {u : Value} (hb : Below w.heap.size w w') (h : w.cell? ⟨b, o, none⟩ = some u) (hf : w.frozen? ⟨b, o, none⟩ = false) : w'.frozen? ⟨b, o, none⟩ = false := (hb.frozen (p := ⟨b, o, none⟩) (World.block_lt_of_cell? w _ h)).trans hf
end
theorem zero_any (v : Value) (x : Int) (w : World) (hx : NumV w v x) : Calls Tryz.prog 24 #[v] w fun e w' => e = .returned (.bool (decide (x = 0))) ∧ Below w.heap.size w w' := by
  obtain ⟨A, cap, rfl, hd⟩ := hx.open
  have hr : ((T.wlen x.natAbs : Int) == 0) = decide (x = 0) := by
    by_cases h : x = 0
    · subst h; rw [show Int.natAbs 0 = 0 from rfl, T.wlen_zero]; rfl
    · have : T.wlen x.natAbs ≠ 0 := fun h' => h (by have := T.wlen_eq_zero.1 h'; omega)
      rw [decide_eq_false h]; simp; omega
  generalize decide (x = 0) = r at *
  generalize T.wlen x.natAbs = m at *
  replace hd := Hd.mk hd
  replace hx := Hd.mk hx
  go_enter Tryz.func24, Tryz.ntmps24
  go_wp2
  go_ret
  exact ⟨rfl, (Below.refl _ _).alloc (Nat.le_refl _) _⟩
set_option maxHeartbeats 1000000 in
theorem minus_any (v : Value) (x : Int) (w : World) (hx : NumV w v x) (hl : T.wlen x.natAbs < 1000) : Calls Tryz.prog 179 #[v] w fun e w' => ∃ v, e = .returned v ∧ NumV w' v (-x) ∧ Below w.heap.size w w' := by
  obtain ⟨A, cap, rfl, hd⟩ := hx.open
  have hsg := Hd.mk fun w1 (hb : Below w.heap.size w w1) => nv (signed_any (!decide (x < 0)) _ _ _ w1 (hd.below hb) (fun i _ => T.dig_lt _ i) (by omega))
  have hv : (if (!decide (x < 0)) = true then -(T.val (T.wlen x.natAbs) (T.dig x.natAbs) : Int) else (T.val (T.wlen x.natAbs) (T.dig x.natAbs) : Int)) = -x := by
    rw [T.val_wlen]; by_cases h : x < 0 <;> simp [h] <;> omega
  rw [hv] at hsg
  generalize decide (x < 0) = nb at *
  generalize T.wlen x.natAbs = m at *
  replace hv := Hd.mk hv
  replace hd := Hd.mk hd
  replace hx := Hd.mk hx
  have hb0 : ∀ o o', Below w.heap.size w ((w.alloc o).alloc o') := fun o o' => ((Below.refl _ _).alloc (Nat.le_refl _) _).alloc (by rw [World.size_alloc]; omega) _
  replace hb0 := Hd.mk hb0
  go_enter Tryz.func179, Tryz.ntmps179
  go_wp2_with (go_at_call 114; refine (hsg.out _ (hb0.out _ _)).mono ?_; rintro e w2 ⟨b2, A2, m2, c2, rfl, hn2, hb2⟩; have r0 := cb (b := w.heap.size + 1) (o := 0) (u := .bool false) hb2 (by go_simp); have r1 := cb (b := w.heap.size + 1) (o := 1) (u := .slice none 0 0) hb2 (by go_simp); have z0 := fb (b := w.heap.size + 1) (o := 0) (u := .bool false) hb2 (by go_simp) (by go_simp); have z1 := fb (b := w.heap.size + 1) (o := 1) (u := .slice none 0 0) hb2 (by go_simp) (by go_simp); have hb3 := Hd.mk ((hb0.out _ _).trans (hb2.mono (hb0.out _ _).size)); have hlt2 : w.heap.size + 1 < w2.heap.size := (by have := hb2.size; simp only [World.size_alloc] at this; omega); clear hb2; replace hn2 := Hd.mk hn2)
  have hfin := ret_num (u0 := .bool b2) (u1 := .slice A2 m2 c2) hb3.out (R := w.heap.size + 1) (by omega) r0 r1 hn2.out
  refine bodyPost_ret (v := .agg #[.bool b2, .slice A2 m2 c2]) (by simp [results, Tryz.results179, go_sem, r0, r1, z0, z1, hlt2]) rfl ⟨_, rfl, hfin.1, hfin.2⟩
end Go.Proofs.YtdbjdpooggaonaaGreatDoor
end
