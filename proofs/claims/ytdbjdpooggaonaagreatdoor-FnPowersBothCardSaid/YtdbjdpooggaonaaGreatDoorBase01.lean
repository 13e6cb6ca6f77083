/- Plain arithmetic of words of 64 bits: the number of a list of words, its words, and the laws of the vector loops. No program in sight. Memory as the proofs of this claim speak of it: blocks that are known whole, a block written, frames. No program in sight. Functions on words: math/bits and the word helpers of the package: what each call answers. The vector loops. Shifts of vectors. Conditions: those that each theorem states. -/
import Derived.WalkKit
import Derived.WalkSpells
import Derived.WalkLawsBesides
import Derived.Deep.QuietTactic
import Derived.BigQuiet
import Derived.Laws.CopyOwn
import Derived.Lib.SliceRun
import Derived.LaidEqlPtr
import Derived.Lib.Builder
import Derived.Deep.RegionLaw
import Derived.Deep.RegionHeld3
import Derived.StillTailTactics
import Derived.Deep.DeepCutAuto
import Derived.Test.YtdbjdpooggaonaaGreatDoorProg
import Derived.Test.YtdbjdpooggaonaaGreatDoorShelf
import Derived.Laws.Externs
set_option linter.all false

section
namespace Go.Proofs.YtdbjdpooggaonaaGreatDoor

/-- A fact put aside. -/
structure Hd (p : Prop) : Prop where
  out : p
/-- 2^64. -/
def BB : Nat := 18446744073709551616
theorem BB_eq : BB = 18446744073709551616 := rfl
theorem BB_pos : 0 < BB := by decide
theorem BBp (n : Nat) : 0 < BB ^ n := Nat.pow_pos BB_pos

/-- The number of the words f 0 .. f (n - 1). -/
def val : Nat → (Nat → Nat) → Nat
  | 0, _ => 0
  | n + 1, f => val n f + f n * BB ^ n
theorem val_zero (f : Nat → Nat) : val 0 f = 0 := rfl
theorem val_succ (n : Nat) (f : Nat → Nat) : val (n + 1) f = val n f + f n * BB ^ n := rfl
theorem val_ext {n : Nat} {f g : Nat → Nat} (h : ∀ i, i < n → f i = g i) : val n f = val n g := by
  induction n with
  | zero => rfl
  | succ n ih => rw [val_succ, val_succ, ih (fun i hi => h i (by omega)), h n (by omega)]
theorem val_lt {n : Nat} {f : Nat → Nat} (h : ∀ i, i < n → f i < BB) : val n f < BB ^ n := by
  induction n with
  | zero => simp [val]
  | succ n ih =>
    have h1 := ih (fun i hi => h i (by omega))
    have h2 := h n (by omega)
    rw [val_succ, Nat.pow_succ]
    have h3 : (f n + 1) * BB ^ n ≤ BB * BB ^ n := Nat.mul_le_mul_right _ h2
    have h4 : (f n + 1) * BB ^ n = f n * BB ^ n + BB ^ n := Nat.succ_mul _ _
    rw [Nat.mul_comm (BB ^ n) BB]
    omega
/-- The first word apart. -/
theorem val_head (n : Nat) (f : Nat → Nat) : val (n + 1) f = f 0 + BB * val n (fun i => f (i + 1)) := by
  induction n with
  | zero => simp [val]
  | succ n ih =>
    rw [val_succ (n + 1) f, ih, val_succ n (fun i => f (i + 1))]
    have : BB ^ (n + 1) = BB * BB ^ n := by rw [Nat.pow_succ, Nat.mul_comm]
    rw [this]
    grind
theorem val_split (m n : Nat) (f : Nat → Nat) : val (m + n) f = val m f + BB ^ m * val n (fun i => f (m + i)) := by
  induction n with
  | zero => simp [val]
  | succ n ih =>
    rw [← Nat.add_assoc, val_succ, ih, val_succ]
    have : BB ^ (m + n) = BB ^ m * BB ^ n := Nat.pow_add _ _ _
    rw [this]
    grind
theorem val_zeros (n : Nat) {f : Nat → Nat} (h : ∀ i, i < n → f i = 0) : val n f = 0 := by
  induction n with
  | zero => rfl
  | succ n ih => rw [val_succ, ih (fun i hi => h i (by omega)), h n (by omega)]; simp
theorem val_more {m n : Nat} {f : Nat → Nat} (hmn : m ≤ n) (h : ∀ i, m ≤ i → i < n → f i = 0) : val n f = val m f := by
  obtain ⟨d, rfl⟩ := Nat.le.dest hmn
  rw [val_split, val_zeros d (fun i hi => h (m + i) (by omega) (by omega))]; simp

/-- Word i of a number. -/
def dig (m i : Nat) : Nat := m / BB ^ i % BB
theorem dig_lt (m i : Nat) : dig m i < BB := Nat.mod_lt _ BB_pos
theorem dig_zero (i : Nat) : dig 0 i = 0 := by simp [dig]
theorem val_dig (m n : Nat) : val n (dig m) = m % BB ^ n := by
  induction n with
  | zero => simp [val, Nat.mod_one]
  | succ n ih =>
    rw [val_succ, ih, dig, Nat.pow_succ, Nat.mod_mul]
    rw [Nat.mul_comm]
theorem val_dig_of_lt {m n : Nat} (h : m < BB ^ n) : val n (dig m) = m := by rw [val_dig, Nat.mod_eq_of_lt h]
theorem dig_val {n : Nat} {f : Nat → Nat} (h : ∀ i, i < n → f i < BB) {i : Nat} (hi : i < n) : dig (val n f) i = f i := by
  obtain ⟨d, rfl⟩ : ∃ d, n = i + (d + 1) := ⟨n - i - 1, by omega⟩
  unfold dig
  rw [val_split, Nat.add_mul_div_left _ _ (BBp i), Nat.div_eq_of_lt (val_lt (fun j hj => h j (by omega))), Nat.zero_add, val_head]
  simp only [Nat.add_zero]
  rw [Nat.add_mul_mod_self_left, Nat.mod_eq_of_lt (h i (by omega))]
theorem dig_ge {m n i : Nat} (h : m < BB ^ n) (hi : n ≤ i) : dig m i = 0 := by
  unfold dig
  have : m < BB ^ i := Nat.lt_of_lt_of_le h (Nat.pow_le_pow_right BB_pos hi)
  rw [Nat.div_eq_of_lt this, Nat.zero_mod]
theorem dig_word {x : Nat} (h : x < BB) : dig x 0 = x := by simp [dig, Nat.mod_eq_of_lt h]

/-- How many words a number has. -/
def wlen (m : Nat) : Nat := if h : m = 0 then 0 else wlen (m / BB) + 1
termination_by m
decreasing_by exact Nat.div_lt_self (by omega) (by decide)
theorem wlen_zero : wlen 0 = 0 := by rw [wlen]; simp
theorem wlen_pos {m : Nat} (h : m ≠ 0) : wlen m = wlen (m / BB) + 1 := by rw [wlen]; simp [h]
theorem wlen_le_iff (n : Nat) : ∀ m, wlen m ≤ n ↔ m < BB ^ n := by
  induction n with
  | zero =>
    intro m
    by_cases h : m = 0
    · subst h; simp [wlen_zero]
    · rw [wlen_pos h]; simp; omega
  | succ n ih =>
    intro m
    by_cases h : m = 0
    · subst h; simp [wlen_zero, BBp]
    · rw [wlen_pos h, Nat.add_le_add_iff_right, ih, Nat.pow_succ, Nat.div_lt_iff_lt_mul BB_pos]
theorem wlen_le {m n : Nat} (h : m < BB ^ n) : wlen m ≤ n := (wlen_le_iff n m).2 h
theorem lt_wlen (m : Nat) : m < BB ^ wlen m := (wlen_le_iff _ m).1 (Nat.le_refl _)
theorem wlen_eq {m n : Nat} (h1 : m < BB ^ (n + 1)) (h2 : BB ^ n ≤ m) : wlen m = n + 1 := by
  have a := wlen_le h1
  have b : ¬ wlen m ≤ n := fun h => by have := (wlen_le_iff n m).1 h; omega
  omega
theorem le_of_wlen {m n : Nat} (h : n < wlen m) : BB ^ n ≤ m := by
  have : ¬ wlen m ≤ n := by omega
  rw [wlen_le_iff] at this
  omega
theorem wlen_mono {a b : Nat} (h : a ≤ b) : wlen a ≤ wlen b := wlen_le (Nat.lt_of_le_of_lt h (lt_wlen b))
theorem wlen_eq_zero {m : Nat} : wlen m = 0 ↔ m = 0 := by
  constructor
  · intro h
    have := (wlen_le_iff 0 m).1 (by omega)
    simpa using this
  · rintro rfl; exact wlen_zero
theorem val_wlen (m : Nat) : val (wlen m) (dig m) = m := val_dig_of_lt (lt_wlen m)
theorem dig_top {m n : Nat} (h : wlen m = n + 1) : dig m n ≠ 0 := by
  intro h0
  have h1 := val_wlen m
  rw [h, val_succ, h0, Nat.zero_mul, Nat.add_zero] at h1
  have h2 : val n (dig m) < BB ^ n := val_lt (fun i _ => dig_lt m i)
  have := le_of_wlen (m := m) (n := n) (by omega)
  omega
theorem wlen_val {n : Nat} {f : Nat → Nat} (h : ∀ i, i < n → f i < BB) (ht : n = 0 ∨ f (n - 1) ≠ 0) : wlen (val n f) = n := by
  cases n with
  | zero => simp [val, wlen_zero]
  | succ n =>
    have ht : f n ≠ 0 := by rcases ht with h | h; (· omega); (· simpa using h)
    refine wlen_eq (val_lt h) ?_
    rw [val_succ]
    have : 1 * BB ^ n ≤ f n * BB ^ n := Nat.mul_le_mul_right _ (by omega)
    omega
/-- What norm leaves: the words above place i are 0, and the one below it is none. -/
theorem wlen_norm {n i : Nat} {f : Nat → Nat} (h : ∀ j, j < n → f j < BB) (hi : i ≤ n) (hz : ∀ j, i ≤ j → j < n → f j = 0) (ht : i = 0 ∨ f (i - 1) ≠ 0) : wlen (val n f) = i := by
  rw [val_more hi hz]
  exact wlen_val (fun j hj => h j (by omega)) ht
theorem wlen_one {x : Nat} (h : x < BB) (h0 : x ≠ 0) : wlen x = 1 := wlen_eq (by simpa using h) (by simp; omega)
theorem wlen_lt_of {a b : Nat} (h : wlen a < wlen b) : a < b := by
  rcases Nat.lt_or_ge a b with h' | h'
  · exact h'
  · have := wlen_mono h'; omega

/-- Two numbers of n words, that agree from place i on: the words below tell. -/
theorem val_cmp {n i : Nat} {f g : Nat → Nat} (hf : ∀ j, j < n → f j < BB) (hg : ∀ j, j < n → g j < BB) (hi : i < n) (he : ∀ j, i < j → j < n → f j = g j) (hlt : f i < g i) : val n f < val n g := by
  obtain ⟨d, rfl⟩ : ∃ d, n = (i + 1) + d := ⟨n - i - 1, by omega⟩
  rw [val_split (i + 1) d f, val_split (i + 1) d g, val_ext (n := d) (f := fun j => f (i + 1 + j)) (g := fun j => g (i + 1 + j)) (fun j hj => he _ (by omega) (by omega)), val_succ, val_succ]
  have h1 : val i f < BB ^ i := val_lt (fun j hj => hf j (by omega))
  have h2 : (f i + 1) * BB ^ i ≤ g i * BB ^ i := Nat.mul_le_mul_right _ hlt
  rw [Nat.succ_mul] at h2
  omega

/-! The loops. -/
/-- Sums with carries. -/
def addC (X Y : Nat → Nat) (c : Nat) : Nat → Nat
  | 0 => c
  | i + 1 => (X i + Y i + addC X Y c i) / BB
def addD (X Y : Nat → Nat) (c i : Nat) : Nat := (X i + Y i + addC X Y c i) % BB
theorem addC_le {X Y : Nat → Nat} {c n : Nat} (hx : ∀ i, i < n → X i < BB) (hy : ∀ i, i < n → Y i < BB) (hc : c ≤ 1) : addC X Y c n ≤ 1 := by
  induction n with
  | zero => exact hc
  | succ n ih =>
    have h1 := ih (fun i hi => hx i (by omega)) (fun i hi => hy i (by omega))
    have h2 := hx n (by omega)
    have h3 := hy n (by omega)
    show (X n + Y n + addC X Y c n) / BB ≤ 1
    unfold BB at *
    omega
theorem addD_lt (X Y : Nat → Nat) (c i : Nat) : addD X Y c i < BB := Nat.mod_lt _ BB_pos
theorem add_law (X Y : Nat → Nat) (c n : Nat) : val n (addD X Y c) + addC X Y c n * BB ^ n = val n X + val n Y + c := by
  induction n with
  | zero => simp [val, addC]
  | succ n ih =>
    rw [val_succ, val_succ, val_succ]
    have h := Nat.div_add_mod (X n + Y n + addC X Y c n) BB
    have h2 : addD X Y c n = (X n + Y n + addC X Y c n) % BB := rfl
    have h3 : addC X Y c (n + 1) = (X n + Y n + addC X Y c n) / BB := rfl
    rw [h2, h3, Nat.pow_succ]
    generalize (X n + Y n + addC X Y c n) % BB = r at *
    generalize (X n + Y n + addC X Y c n) / BB = q at *
    grind
/-- Differences with borrows. -/
def subC (X Y : Nat → Nat) (c : Nat) : Nat → Nat
  | 0 => c
  | i + 1 => if X i < Y i + subC X Y c i then 1 else 0
def subD (X Y : Nat → Nat) (c i : Nat) : Nat := (X i + BB - Y i - subC X Y c i) % BB
theorem subC_le {X Y : Nat → Nat} {c : Nat} (hc : c ≤ 1) : ∀ n, subC X Y c n ≤ 1
  | 0 => hc
  | n + 1 => by show (if X n < Y n + subC X Y c n then 1 else 0) ≤ 1; split <;> omega
theorem subD_lt (X Y : Nat → Nat) (c i : Nat) : subD X Y c i < BB := Nat.mod_lt _ BB_pos
theorem sub_law {X Y : Nat → Nat} {c n : Nat} (hx : ∀ i, i < n → X i < BB) (hy : ∀ i, i < n → Y i < BB) (hc : c ≤ 1) : val n (subD X Y c) + val n Y + c = val n X + subC X Y c n * BB ^ n := by
  induction n with
  | zero => simp [val, subC]
  | succ n ih =>
    have ih := ih (fun i hi => hx i (by omega)) (fun i hi => hy i (by omega))
    have h1 := subC_le (X := X) (Y := Y) hc n
    have h2 := hx n (by omega)
    have h3 := hy n (by omega)
    rw [val_succ, val_succ, val_succ]
    have e1 : subC X Y c (n + 1) = if X n < Y n + subC X Y c n then 1 else 0 := rfl
    have e2 : subD X Y c n + Y n + subC X Y c n = X n + subC X Y c (n + 1) * BB := by
      rw [e1]
      unfold subD
      have := BB_eq
      split
      · rw [Nat.mod_eq_of_lt (by omega)]; omega
      · rw [show X n + BB - Y n - subC X Y c n = (X n - Y n - subC X Y c n) + BB by omega, Nat.add_mod_right, Nat.mod_eq_of_lt (by omega)]; omega
    rw [Nat.pow_succ]
    generalize subC X Y c (n + 1) = q at *
    generalize subC X Y c n = p at *
    generalize subD X Y c n = r at *
    have e3 : r * BB ^ n + Y n * BB ^ n + p * BB ^ n = X n * BB ^ n + q * BB * BB ^ n := by
      rw [← Nat.add_mul, ← Nat.add_mul, e2, Nat.add_mul]
    grind
/-- A vector times a word and a word. -/
def mulC (X : Nat → Nat) (y r : Nat) : Nat → Nat
  | 0 => r
  | i + 1 => (X i * y + mulC X y r i) / BB
def mulD (X : Nat → Nat) (y r i : Nat) : Nat := (X i * y + mulC X y r i) % BB
theorem mulD_lt (X : Nat → Nat) (y r i : Nat) : mulD X y r i < BB := Nat.mod_lt _ BB_pos
theorem mul_step {a y c : Nat} (ha : a < BB) (hy : y < BB) (hc : c < BB) : (a * y + c) / BB < BB := by
  rw [Nat.div_lt_iff_lt_mul BB_pos]
  have h1 : a * y ≤ (BB - 1) * (BB - 1) := Nat.mul_le_mul (by omega) (by omega)
  have h2 : (BB - 1) * (BB - 1) + (BB - 1) < BB * BB := by decide
  omega
theorem mulC_lt {X : Nat → Nat} {y r n : Nat} (hx : ∀ i, i < n → X i < BB) (hy : y < BB) (hr : r < BB) : mulC X y r n < BB := by
  induction n with
  | zero => exact hr
  | succ n ih => exact mul_step (hx n (by omega)) hy (ih (fun i hi => hx i (by omega)))
theorem mul_law (X : Nat → Nat) (y r n : Nat) : val n (mulD X y r) + mulC X y r n * BB ^ n = val n X * y + r := by
  induction n with
  | zero => simp [val, mulC]
  | succ n ih =>
    rw [val_succ, val_succ]
    have h := Nat.div_add_mod (X n * y + mulC X y r n) BB
    have h2 : mulD X y r n = (X n * y + mulC X y r n) % BB := rfl
    have h3 : mulC X y r (n + 1) = (X n * y + mulC X y r n) / BB := rfl
    rw [h2, h3, Nat.pow_succ]
    generalize (X n * y + mulC X y r n) % BB = a at *
    generalize (X n * y + mulC X y r n) / BB = b at *
    have e : (a + b * BB) * BB ^ n = (X n * y + mulC X y r n) * BB ^ n := by rw [← h]; congr 1; rw [Nat.mul_comm b]; omega
    grind
/-- A vector, and another one times a word, and a word. -/
def amC (Z X : Nat → Nat) (y r : Nat) : Nat → Nat
  | 0 => r
  | i + 1 => (Z i + X i * y + amC Z X y r i) / BB
def amD (Z X : Nat → Nat) (y r i : Nat) : Nat := (Z i + X i * y + amC Z X y r i) % BB
theorem amD_lt (Z X : Nat → Nat) (y r i : Nat) : amD Z X y r i < BB := Nat.mod_lt _ BB_pos
theorem am_step {z a y c : Nat} (hz : z < BB) (ha : a < BB) (hy : y < BB) (hc : c < BB) : (z + a * y + c) / BB < BB := by
  rw [Nat.div_lt_iff_lt_mul BB_pos]
  have h1 : a * y ≤ (BB - 1) * (BB - 1) := Nat.mul_le_mul (by omega) (by omega)
  have h2 : (BB - 1) * (BB - 1) + (BB - 1) + (BB - 1) < BB * BB := by decide
  omega
theorem amC_lt {Z X : Nat → Nat} {y r n : Nat} (hz : ∀ i, i < n → Z i < BB) (hx : ∀ i, i < n → X i < BB) (hy : y < BB) (hr : r < BB) : amC Z X y r n < BB := by
  induction n with
  | zero => exact hr
  | succ n ih => exact am_step (hz n (by omega)) (hx n (by omega)) hy (ih (fun i hi => hz i (by omega)) (fun i hi => hx i (by omega)))
theorem am_law (Z X : Nat → Nat) (y r n : Nat) : val n (amD Z X y r) + amC Z X y r n * BB ^ n = val n Z + val n X * y + r := by
  induction n with
  | zero => simp [val, amC]
  | succ n ih =>
    rw [val_succ, val_succ, val_succ]
    have h := Nat.div_add_mod (Z n + X n * y + amC Z X y r n) BB
    have h2 : amD Z X y r n = (Z n + X n * y + amC Z X y r n) % BB := rfl
    have h3 : amC Z X y r (n + 1) = (Z n + X n * y + amC Z X y r n) / BB := rfl
    rw [h2, h3, Nat.pow_succ]
    generalize (Z n + X n * y + amC Z X y r n) % BB = a at *
    generalize (Z n + X n * y + amC Z X y r n) / BB = b at *
    have e : (a + b * BB) * BB ^ n = (Z n + X n * y + amC Z X y r n) * BB ^ n := by rw [← h]; congr 1; rw [Nat.mul_comm b]; omega
    grind
/-! Shifts by less than a word. -/
theorem pow_two (s : Nat) (h : s ≤ 64) : 2 ^ s * 2 ^ (64 - s) = BB := by rw [← Nat.pow_add, Nat.add_sub_cancel' h]; rfl
theorem shl_low (x s : Nat) (h : s ≤ 64) : x * 2 ^ s % BB = 2 ^ s * (x % 2 ^ (64 - s)) := by rw [← pow_two s h, Nat.mul_comm x, Nat.mul_mod_mul_left]
theorem shl_high {x s : Nat} (hx : x < BB) (h : s ≤ 64) : x / 2 ^ (64 - s) < 2 ^ s := by
  rw [Nat.div_lt_iff_lt_mul (Nat.two_pow_pos _), pow_two s h]; exact hx
theorem shl_or {x y s : Nat} (hy : y < BB) (h : s ≤ 64) : (x * 2 ^ s % BB) ||| (y / 2 ^ (64 - s)) = x * 2 ^ s % BB + y / 2 ^ (64 - s) := by
  rw [shl_low x s h, Nat.two_pow_add_eq_or_of_lt (shl_high hy h)]
end Go.Proofs.YtdbjdpooggaonaaGreatDoor
end

section
namespace Go.Proofs.YtdbjdpooggaonaaGreatDoor
open Go.RowKit

/-- Block b holds these cells, none of them frozen. -/
def Blk (w : World) (b : Nat) (E : TypeId) (xs : List Value) : Prop := w.heap[b]? = some (.cells xs.toArray E (0, 0))
section
variable {w w' : World} {b k : Nat} {E E' : TypeId} {xs ys : List Value}
theorem Blk.cell (h : Blk w b E xs) (i : Nat) : w.cell? ⟨b, i, none⟩ = xs[i]? := by
  unfold Blk at h
  simp [World.cell?, h]
theorem Blk.frozen (h : Blk w b E xs) (i : Nat) : w.frozen? ⟨b, i, none⟩ = false := by
  unfold Blk at h
  simp [World.frozen?, h]
theorem Blk.lt (h : Blk w b E xs) : b < w.heap.size := by
  unfold Blk at h
  exact (Array.getElem?_eq_some_iff.1 h).1
theorem Blk.inj (h : Blk w b E xs) (h' : Blk w b E' ys) : E = E' ∧ xs = ys := by
  unfold Blk at h h'
  rw [h] at h'
  simp only [Option.some.injEq, Obj.cells.injEq] at h'
  exact ⟨h'.2.1, by simpa using h'.1⟩
theorem Blk.of_heap (h : Blk w b E xs) (e : w'.heap[b]? = w.heap[b]?) : Blk w' b E xs := by unfold Blk; rw [e]; exact h
theorem Blk.drewN (h : Blk w b E xs) (n : Nat) : Blk (w.drewN n) b E xs := h
theorem Blk.drew (h : Blk w b E xs) : Blk w.drew b E xs := h
theorem Blk.alloc (h : Blk w b E xs) (o : Obj) : Blk (w.alloc o) b E xs := by
  have := h.lt
  unfold Blk at h ⊢
  rw [← h]
  show (w.heap.push o)[b]? = _
  rw [Array.getElem?_push, if_neg (by omega)]
theorem Blk.new (w : World) (c : Array Value) (E : TypeId) : Blk (w.alloc (.cells c E)) w.heap.size E c.toList := by
  unfold Blk
  show (w.heap.push _)[w.heap.size]? = _
  simp
theorem Blk.set (h : Blk w b E xs) (i : Nat) (v : Value) : Blk (w.setCell ⟨b, i, none⟩ v) b E (xs.set i v) := by
  unfold Blk at h ⊢
  simp only [World.setCell, Array.getElem?_modify, if_true, h]
  simp
end

/-- w' is w, but that block b holds ys now, and for draws. -/
structure Put (w w' : World) (b : Nat) (E : TypeId) (ys : List Value) : Prop where
  os : w'.os = w.os
  tape : w'.tape = w.tape
  output : w'.output = w.output
  size : w'.heap.size = w.heap.size
  here : Blk w' b E ys
  other : ∀ k, k ≠ b → w'.heap[k]? = w.heap[k]?
section
variable {w w' w'' : World} {b k : Nat} {E E' : TypeId} {xs ys : List Value}
theorem Put.refl (h : Blk w b E xs) : Put w w b E xs := ⟨rfl, rfl, rfl, rfl, h, fun _ _ => rfl⟩
theorem Put.trans (h : Put w w' b E xs) (k : Put w' w'' b E ys) : Put w w'' b E ys :=
  ⟨k.os.trans h.os, k.tape.trans h.tape, k.output.trans h.output, k.size.trans h.size, k.here, fun i hi => (k.other i hi).trans (h.other i hi)⟩
theorem Put.drewN (h : Put w w' b E xs) (n : Nat) : Put w (w'.drewN n) b E xs := ⟨h.os, h.tape, h.output, h.size, h.here, h.other⟩
theorem Put.drew (h : Put w w' b E xs) : Put w w'.drew b E xs := ⟨h.os, h.tape, h.output, h.size, h.here, h.other⟩
theorem Put.set (h : Put w w' b E xs) (i : Nat) (v : Value) : Put w (w'.setCell ⟨b, i, none⟩ v) b E (xs.set i v) :=
  ⟨h.os, h.tape, h.output, by rw [World.size_setCell]; exact h.size, h.here.set i v, fun k hk => by rw [Below.heap_setCell _ _ _ _ hk]; exact h.other k hk⟩
theorem Put.blk (h : Put w w' b E xs) (hk : Blk w k E' ys) (hne : k ≠ b) : Blk w' k E' ys := hk.of_heap (h.other k hne)
theorem Put.cell_other (h : Put w w' b E xs) (hk : k ≠ b) (i : Nat) : w'.cell? ⟨k, i, none⟩ = w.cell? ⟨k, i, none⟩ := World.cell?_of_block (w := w) (h.other k hk)
theorem Put.below {B : Nat} (h : Put w w' b E xs) (hb : B ≤ b) : Below B w w' := ⟨h.os, h.tape, h.output, Nat.le_of_eq h.size.symm, fun k hk => h.other k (by omega)⟩
end

/-- The cells from o on are the words f 0 .. f (n - 1). -/
def Seg (w : World) (b o n : Nat) (f : Nat → Nat) : Prop := ∀ i, i < n → w.cell? ⟨b, o + i, none⟩ = some (.int .u64 (f i))
/-- The cells xs, from o on overwritten by the words f 0 .. f (n - 1). -/
def over (xs : List Value) (o n : Nat) (f : Nat → Nat) : List Value := xs.mapIdx fun j v => if o ≤ j ∧ j < o + n then .int .u64 (f (j - o)) else v
theorem over_length (xs : List Value) (o n : Nat) (f : Nat → Nat) : (over xs o n f).length = xs.length := by simp [over]
theorem over_get (xs : List Value) (o n : Nat) (f : Nat → Nat) (j : Nat) : (over xs o n f)[j]? = if o ≤ j ∧ j < o + n ∧ j < xs.length then some (.int .u64 (f (j - o))) else xs[j]? := by
  unfold over
  rw [List.getElem?_mapIdx]
  by_cases h : j < xs.length
  · rw [List.getElem?_eq_getElem h]
    simp only [Option.map_some]
    by_cases h2 : o ≤ j ∧ j < o + n
    · rw [if_pos h2, if_pos ⟨h2.1, h2.2, h⟩]
    · rw [if_neg h2, if_neg (fun h3 => h2 ⟨h3.1, h3.2.1⟩)]
  · rw [List.getElem?_eq_none (by omega), if_neg (by omega)]; rfl
theorem over_zero (xs : List Value) (o : Nat) (f : Nat → Nat) : over xs o 0 f = xs := by
  apply List.ext_getElem?
  intro j
  rw [over_get, if_neg (by omega)]
theorem over_succ (xs : List Value) (o n : Nat) (f : Nat → Nat) : (over xs o n f).set (o + n) (.int .u64 (f n)) = over xs o (n + 1) f := by
  apply List.ext_getElem?
  intro j
  rw [List.getElem?_set, over_get, over_get, over_length]
  by_cases h : o + n = j
  · subst h
    simp only [if_true]
    by_cases h2 : o + n < xs.length
    · rw [if_pos h2, if_pos (by omega)]; congr; omega
    · rw [if_neg h2, if_neg (by omega), List.getElem?_eq_none (by omega)]
  · rw [if_neg h]
    by_cases h2 : o ≤ j ∧ j < o + n ∧ j < xs.length
    · rw [if_pos h2, if_pos (by omega)]
    · rw [if_neg h2, if_neg (by omega)]
theorem over_congr {xs : List Value} {o n : Nat} {f g : Nat → Nat} (h : ∀ i, i < n → f i = g i) : over xs o n f = over xs o n g := by
  apply List.ext_getElem?
  intro j
  rw [over_get, over_get]
  by_cases h2 : o ≤ j ∧ j < o + n ∧ j < xs.length
  · rw [if_pos h2, if_pos h2, h (j - o) (by omega)]
  · rw [if_neg h2, if_neg h2]
theorem over_over (xs : List Value) (o n m : Nat) (f g : Nat → Nat) : over (over xs o n f) (o + n) m g = over xs o (n + m) (fun i => if i < n then f i else g (i - n)) := by
  apply List.ext_getElem?
  intro j
  simp only [over_get, over_length]
  by_cases h : o + n ≤ j ∧ j < o + n + m ∧ j < xs.length
  · rw [if_pos h, if_pos (by omega), if_neg (by omega)]
    rw [show j - o - n = j - (o + n) by omega]
  · rw [if_neg h]
    by_cases h2 : o ≤ j ∧ j < o + n ∧ j < xs.length
    · rw [if_pos h2, if_pos (by omega), if_pos (by omega)]
    · rw [if_neg h2, if_neg (by omega)]
section
variable {w w' : World} {b o n : Nat} {E : TypeId} {xs : List Value} {f g : Nat → Nat}
theorem Seg.at (h : Seg w b o n f) {i : Nat} (hi : i < n) : w.cell? ⟨b, o + i, none⟩ = some (.int .u64 (f i)) := h i hi
theorem Seg.mono (h : Seg w b o n f) {m : Nat} (hm : m ≤ n) : Seg w b o m f := fun i hi => h i (by omega)
theorem Seg.tail (h : Seg w b o n f) (d : Nat) : Seg w b (o + d) (n - d) (fun i => f (d + i)) := fun i hi => by rw [Nat.add_assoc]; exact h (d + i) (by omega)
theorem Seg.congr (h : Seg w b o n f) (hg : ∀ i, i < n → f i = g i) : Seg w b o n g := fun i hi => by rw [h i hi, hg i hi]
theorem Seg.of_heap (h : Seg w b o n f) (e : w'.heap[b]? = w.heap[b]?) : Seg w' b o n f := fun i hi => (World.cell?_of_block (w := w) (a := ⟨b, o + i, none⟩) e).trans (h i hi)
theorem Seg.of_over (h : Blk w b E (over xs o n f)) (hn : o + n ≤ xs.length) : Seg w b o n f := fun i hi => by
  rw [h.cell, over_get, if_pos (by omega)]; congr; omega
theorem Seg.blk (h : Seg w b o n f) (hb : Blk w b E xs) : ∀ i, i < n → xs[o + i]? = some (.int .u64 (f i)) := fun i hi => (hb.cell _).symm.trans (h i hi)
theorem Seg.inj (h : Seg w b o n f) (k : Seg w b o n g) : ∀ i, i < n → f i = g i := fun i hi => by
  have := (h i hi).symm.trans (k i hi)
  simp only [Option.some.injEq, Value.int.injEq, true_and] at this
  omega
/-- Words that lie in another block, or not ahead of the places written, still read as they did. -/
theorem Seg.past {bx ox i r : Nat} {X D : Nat → Nat} (h : Seg w bx ox n X) (hb : Blk w b E xs) (hp : Put w w' b E (over xs o i D)) (hne : bx = b → o ≤ ox) (hi : r < n) (hr : i ≤ r := by omega) :
    w'.cell? ⟨bx, ox + r, none⟩ = some (.int .u64 (X r)) := by
  by_cases e : bx = b
  · subst e
    rw [hp.here.cell, over_get, if_neg (by have := hne rfl; omega), ← hb.cell]
    exact h r hi
  · rw [hp.cell_other e]
    exact h r hi
end
/-- A contract that says 'w = w'', at a call in a region that only reads. -/
theorem q_same {P : Program} {f : FuncId} {args : Array Value} {w : World} {n : Nat} {v : Value}
    (h : Calls P f args (w.drewN n) fun e w' => e = .returned v ∧ w.drewN n = w') : Calls P f args (w.drewN n) fun e w'' => e = .returned v ∧ ∃ m, w'' = w.drewN m :=
  h.mono fun _ _ ⟨he, hm⟩ => ⟨he, n, hm.symm⟩
/-- The cells xs, the places o + lo .. o + hi - 1 overwritten by the words f lo .. f (hi - 1). -/
def ovr (xs : List Value) (o lo hi : Nat) (f : Nat → Nat) : List Value := xs.mapIdx fun j v => if o + lo ≤ j ∧ j < o + hi then .int .u64 (f (j - o)) else v
theorem ovr_length (xs : List Value) (o lo hi : Nat) (f : Nat → Nat) : (ovr xs o lo hi f).length = xs.length := by simp [ovr]
theorem ovr_get (xs : List Value) (o lo hi : Nat) (f : Nat → Nat) (j : Nat) : (ovr xs o lo hi f)[j]? = if o + lo ≤ j ∧ j < o + hi ∧ j < xs.length then some (.int .u64 (f (j - o))) else xs[j]? := by
  unfold ovr
  rw [List.getElem?_mapIdx]
  by_cases h : j < xs.length
  · rw [List.getElem?_eq_getElem h]
    simp only [Option.map_some]
    by_cases h2 : o + lo ≤ j ∧ j < o + hi
    · rw [if_pos h2, if_pos ⟨h2.1, h2.2, h⟩]
    · rw [if_neg h2, if_neg (fun h3 => h2 ⟨h3.1, h3.2.1⟩)]
  · rw [List.getElem?_eq_none (by omega), if_neg (by omega)]; rfl
theorem ovr_none (xs : List Value) (o n : Nat) (f : Nat → Nat) : ovr xs o n n f = xs := by
  apply List.ext_getElem?
  intro j
  rw [ovr_get, if_neg (by omega)]
theorem ovr_all (xs : List Value) (o n : Nat) (f : Nat → Nat) : ovr xs o 0 n f = over xs o n f := rfl
theorem ovr_down (xs : List Value) (o lo hi : Nat) (f : Nat → Nat) (h : lo < hi) : (ovr xs o (lo + 1) hi f).set (o + lo) (.int .u64 (f lo)) = ovr xs o lo hi f := by
  apply List.ext_getElem?
  intro j
  rw [List.getElem?_set, ovr_get, ovr_get, ovr_length]
  by_cases h1 : o + lo = j
  · subst h1
    simp only [if_true]
    by_cases h2 : o + lo < xs.length
    · rw [if_pos h2, if_pos (by omega)]; congr; omega
    · rw [if_neg h2, if_neg (by omega), List.getElem?_eq_none (by omega)]
  · rw [if_neg h1]
    by_cases h2 : o + lo ≤ j ∧ j < o + hi ∧ j < xs.length
    · rw [if_pos h2, if_pos (by omega)]
    · rw [if_neg h2, if_neg (by omega)]
/-- Words that lie in another block, or ahead of the places written, still read as they did. -/
theorem Seg.ahead {w w' : World} {b o n : Nat} {E : TypeId} {xs : List Value} {bx ox i lo hi : Nat} {X D : Nat → Nat} (h : Seg w bx ox n X) (hb : Blk w b E xs) (hp : Put w w' b E (ovr xs o lo hi D)) (hne : bx = b → ox ≤ o) (hi : i < n) (hlo : i < lo) :
    w'.cell? ⟨bx, ox + i, none⟩ = some (.int .u64 (X i)) := by
  by_cases e : bx = b
  · subst e
    rw [hp.here.cell, ovr_get, if_neg (by have := hne rfl; omega), ← hb.cell]
    exact h i hi
  · rw [hp.cell_other e]
    exact h i hi
theorem ret_int {k : IntKind} {a b : Int} (h : a = b) : Ending.returned (.int k a) = .returned (.int k b) := by rw [h]
theorem setRow_put {w : World} {b : Nat} {E : TypeId} {xs ys : List Value} (h : Blk w b E xs) : Put w (w.setRow b ys.toArray) b E ys :=
  ⟨rfl, rfl, rfl, by simp [World.setRow], setRow_heap w b _ _ _ _ h, fun k hk => setRow_other w b k _ hk⟩
theorem over_words (xs : List Value) (o m : Nat) (X : Nat → Nat) (h : o + m ≤ xs.length) : xs.take o ++ ((List.range m).map (fun i => Value.int .u64 (X i)) ++ xs.drop (o + m)) = over xs o m X := by
  apply List.ext_getElem?
  intro j
  rw [over_get]
  by_cases h1 : j < o
  · rw [List.getElem?_append_left (by simp; omega), List.getElem?_take_of_lt h1, if_neg (by omega)]
  · rw [List.getElem?_append_right (by simp; omega)]
    by_cases h2 : j < o + m
    · rw [List.getElem?_append_left (by simp; omega), if_pos (by omega), List.getElem?_map, List.length_take, Nat.min_eq_left (by omega), List.getElem?_range (by omega)]
      rfl
    · rw [List.getElem?_append_right (by simp; omega), if_neg (by omega), List.getElem?_drop]
      congr 1
      simp
      omega
/-- The built-in copy of words. -/
theorem run_copyP {P : Program} {w : World} {dT sT ty : TypeId} {elem : TypeId} (hu : P.underlying dT = some (.slice elem)) (hsz : (P.info? elem).map (·.size) = some 1)
    {dp sp : Option Addr} {dl dc sl sc b o m : Nat} {E : TypeId} {xs : List Value} {X : Nat → Nat} (hm : Nat.min sl dl = m)
    (hpos : 0 < m → dp = some ⟨b, o, none⟩ ∧ ∃ bx ox, sp = some ⟨bx, ox, none⟩ ∧ Seg w bx ox m X) (hz : Blk w b E xs) (hfit : o + m ≤ xs.length) :
    ∃ w', (Builtin.copy_ #[dT, sT] ty #[.slice dp dl dc, .slice sp sl sc]).run P w = .ok (goInt m) w' ∧ Put w w' b E (over xs o m X) := by
  by_cases h0 : m = 0
  · subst h0
    exact ⟨w, run_copy_none w dT sT ty elem dp sp dl dc sl sc hu hsz hm, by rw [over_zero]; exact Put.refl hz⟩
  · obtain ⟨rfl, bx, ox, rfl, hx⟩ := hpos (by omega)
    have hr := run_copy_row (P := P) w dT sT ty elem b o dl dc ⟨bx, ox, none⟩ sl sc xs.toArray E ((List.range m).map (fun i => Value.int .u64 (X i))) hu hsz hz (by simp; exact hm.symm)
      (by
        intro j v hj
        rw [List.getElem?_map] at hj
        by_cases hjm : j < m
        · rw [List.getElem?_range hjm] at hj
          simp only [Option.map_some, Option.some.injEq] at hj
          rw [← hj]
          have := hx j hjm
          unfold Addr.add
          split
          · rename_i h; subst h; simpa using this
          · exact this
        · rw [List.getElem?_eq_none (by simp; omega)] at hj; simp at hj)
      (by simpa using hfit) (by intro v hv; simp at hv; obtain ⟨i, _, rfl⟩ := hv; rfl)
    refine ⟨_, by simpa using hr, ?_⟩
    have e := over_words xs o m X hfit
    have := setRow_put (ys := over xs o m X) hz
    rw [← e] at this ⊢
    simpa using this
theorem wpList_copyP {P : Program} {w : World} {ops : Array Oper} {rest : List Oper} {oo : Oper} {a : Act} {Q : Exit → Act → World → Prop} (hgd : oo.guard = none) (d s : Operand) (dT sT : TypeId)
    (ho : oo.op = .call { callee := .builtin .copy, args := #[d, s], argTypes := #[dT, sT] }) (elem : TypeId) (hu : P.underlying dT = some (.slice elem)) (hsz : (P.info? elem).map (·.size) = some 1)
    (dp sp : Option Addr) (dl dc sl sc : Nat) (hd : a.eval d = .slice dp dl dc) (hs : a.eval s = .slice sp sl sc)
    (b o m : Nat) (E : TypeId) (xs : List Value) (X : Nat → Nat) (hm : Nat.min sl dl = m)
    (hpos : 0 < m → dp = some ⟨b, o, none⟩ ∧ ∃ bx ox, sp = some ⟨bx, ox, none⟩ ∧ Seg w bx ox m X) (hz : Blk w b E xs) (hfit : o + m ≤ xs.length)
    (h : ∀ w', Put w w' b E (over xs o m X) → wpList P ops Q rest (a.put oo.dst (goInt m)) w') : wpList P ops Q (oo :: rest) a w := by
  refine wpList_plain hgd fun K hK => ?_
  obtain ⟨w', hrun, hp⟩ := run_copyP (P := P) (w := w) (ty := oo.type) (sT := sT) (dc := dc) (sc := sc) hu hsz hm hpos hz hfit
  unfold Oper.wp
  simp [execOp, ho, resolve, invoke, builtin, hd, hs, hrun, Result.andThen]
  exact hK _ _ (h w' hp)
theorem step_copyP {P : Program} {ops : Array Oper} {oo : Oper} {a : Act} {w : World} {K : Act → World → Prop} {Q : Exit → Act → World → Prop} {EE : Prop} (hgd : oo.guard = none) (d s : Operand) (dT sT : TypeId)
    (ho : oo.op = .call { callee := .builtin .copy, args := #[d, s], argTypes := #[dT, sT] }) (elem : TypeId) (hu : P.underlying dT = some (.slice elem)) (hsz : (P.info? elem).map (·.size) = some 1)
    (dp sp : Option Addr) (dl dc sl sc : Nat) (hd : a.eval d = .slice dp dl dc) (hs : a.eval s = .slice sp sl sc)
    (b o m : Nat) (E : TypeId) (xs : List Value) (X : Nat → Nat) (hm : Nat.min sl dl = m)
    (hpos : 0 < m → dp = some ⟨b, o, none⟩ ∧ ∃ bx ox, sp = some ⟨bx, ox, none⟩ ∧ Seg w bx ox m X) (hz : Blk w b E xs) (hfit : o + m ≤ xs.length)
    (h : ∀ w', Put w w' b E (over xs o m X) → K (a.put oo.dst (goInt m)) w') :
    if Region.wanted oo (yielded ops a.tmps) = true then Oper.wp P oo a w K Q else EE := by
  have hw : Region.wanted oo (yielded ops a.tmps) = true := by simp [Region.wanted, hgd]
  rw [if_pos hw]
  obtain ⟨w', hrun, hp⟩ := run_copyP (P := P) (w := w) (ty := oo.type) (sT := sT) (dc := dc) (sc := sc) hu hsz hm hpos hz hfit
  unfold Oper.wp
  simp [execOp, ho, resolve, invoke, builtin, hd, hs, hrun, Result.andThen]
  exact h w' hp
/-- Block b holds cells, none frozen. -/
def HB (w : World) (b : Nat) : Prop := ∃ c t, w.heap[b]? = some (.cells c t (0, 0))
theorem Blk.hb {w : World} {b : Nat} {E : TypeId} {xs : List Value} (h : Blk w b E xs) : HB w b := ⟨_, _, h⟩
@[go_sem] theorem HB_drew (w : World) (b : Nat) : HB w.drew b = HB w b := rfl
@[go_sem] theorem HB_drewN (w : World) (n b : Nat) : HB (w.drewN n) b = HB w b := rfl
@[go_sem] theorem HB_setCell (w : World) (a : Addr) (v : Value) (b : Nat) : HB (w.setCell a v) b = HB w b := by
  unfold HB
  simp only [World.setCell, Array.getElem?_modify]
  by_cases h : a.block = b
  · simp only [h, if_true]
    apply propext
    constructor
    · rintro ⟨c, t, h1⟩
      cases h2 : w.heap[b]? with
      | none => simp [h2] at h1
      | some o => cases o <;> simp [h2] at h1; exact ⟨_, _, by rw [h1.2.2]⟩
    · rintro ⟨c, t, h1⟩
      exact ⟨_, t, by rw [h1]; rfl⟩
  · simp only [h, if_false]
@[go_sem] theorem HB_alloc (w : World) (o : Obj) (b : Nat) (h : HB w b) : HB (w.alloc o) b := by
  obtain ⟨c, t, h⟩ := h
  have hlt : b < w.heap.size := (Array.getElem?_eq_some_iff.1 h).1
  exact ⟨c, t, by show (w.heap.push o)[b]? = _; rw [Array.getElem?_push, if_neg (by omega)]; exact h⟩
theorem peq_other {P : Program} {tp te : TypeId} {j : TypeInfo} {a b : Addr} (hp : P.underlying tp = some (.pointer te)) (hte : P.info? te = some j) (hsz : j.size ≠ 0) (hne : a ≠ b) (w : World) (ha : HB w a.block) (hb : HB w b.block) :
    (binOp .eql tp (.pointer (some a)) (.pointer (some b))).run P w = .ok (.bool false) w := by
  obtain ⟨_, _, ha⟩ := ha
  obtain ⟨_, _, hb⟩ := hb
  exact run_eql_ptr_other w hp hte hsz hne ha hb
theorem pne_other {P : Program} {tp te : TypeId} {j : TypeInfo} {a b : Addr} (hp : P.underlying tp = some (.pointer te)) (hte : P.info? te = some j) (hsz : j.size ≠ 0) (hne : a ≠ b) (w : World) (ha : HB w a.block) (hb : HB w b.block) :
    (binOp .neq tp (.pointer (some a)) (.pointer (some b))).run P w = .ok (.bool true) w := by
  obtain ⟨_, _, ha⟩ := ha
  obtain ⟨_, _, hb⟩ := hb
  have h : ∀ d : Nat, (Op.equalIn (d + 1) tp (.pointer (some a)) (.pointer (some b))).run P w = .ok false w := fun d => by
    simp [Op.equalIn, run_underlying hp, sizeOf, typeInfo, hte, hsz, run_sameAddr_other w hne ha hb]
  simp only [binOp]
  simp [Op.equal, Op.maxDepth, h 9999]
theorem Seg.rest {w w' : World} {b' b m n : Nat} {E : TypeId} {xs : List Value} {X D : Nat → Nat} (h : Seg w b' 0 m X) (hb : Blk w b E xs) (hp : Put w w' b E (over xs 0 n D)) : Seg w' b' n (m - n) (fun i => X (n + i)) := fun i hi => by
  have := h.past hb hp (fun _ => Nat.le_refl 0) (r := n + i) (by omega) (by omega)
  rwa [Nat.zero_add] at this
/-- The built-in clear of words. -/
theorem run_clearP {P : Program} {w : World} {t e ty : TypeId} (ht : P.underlying t = some (.slice e)) (hv : ∀ w, (zeroValue e).run P w = .ok (.int .u64 0) w)
    {b o n c : Nat} {E : TypeId} {xs : List Value} (hn : 0 < n) (hz : Blk w b E xs) (hfit : o + n ≤ xs.length) :
    ∃ w', (Builtin.clear_ #[t] ty #[.slice (some ⟨b, o, none⟩) n c]).run P w = .ok (.tuple #[]) w' ∧ Put w w' b E (over xs o n (fun _ => 0)) := by
  have hzc : (Builtin.zeroCells (Value.int .u64 0).cells n).toList = (List.range n).map (fun _ => Value.int .u64 ((0 : Nat) : Int)) := by
    apply List.ext_getElem
    · simp [Builtin.zeroCells, Value.cells]
    · intro i h1 h2
      simp [Builtin.zeroCells, Value.cells, Nat.mod_one]
  have hst := run_storeCells_at P b o E ((List.range n).map (fun _ => Value.int .u64 ((0 : Nat) : Int))) 0 xs.toArray w hz (by simpa using hfit) (by intro v hv'; simp at hv'; obtain ⟨_, rfl⟩ := hv'; rfl)
  obtain ⟨m, rfl⟩ : ∃ m, n = m + 1 := ⟨n - 1, by omega⟩
  have e := over_words xs o (m + 1) (fun _ => 0) hfit
  have hp := setRow_put (ys := over xs o (m + 1) (fun _ => 0)) hz
  rw [← e] at hp ⊢
  refine ⟨_, ?_, hp⟩
  have hst' : (storeCells ⟨b, o, none⟩ (List.map (fun _ => Value.int .u64 0) (List.range (m + 1)))).run P w = _ := hst
  simp only [Builtin.clear_]
  simp [run_underlying ht, hv, hzc, hst']
theorem wpList_clearP {P : Program} {w : World} {ops : Array Oper} {rest : List Oper} {oo : Oper} {a : Act} {Q : Exit → Act → World → Prop} (hgd : oo.guard = none) (d : Operand) (dT : TypeId)
    (ho : oo.op = .call { callee := .builtin .clear, args := #[d], argTypes := #[dT] }) (elem : TypeId) (hu : P.underlying dT = some (.slice elem)) (hv : ∀ w, (zeroValue elem).run P w = .ok (.int .u64 0) w)
    (b o n c : Nat) (E : TypeId) (xs : List Value) (hd : a.eval d = .slice (some ⟨b, o, none⟩) n c) (hn : 0 < n) (hz : Blk w b E xs) (hfit : o + n ≤ xs.length)
    (h : ∀ w', Put w w' b E (over xs o n (fun _ => 0)) → wpList P ops Q rest (a.put oo.dst (.tuple #[])) w') : wpList P ops Q (oo :: rest) a w := by
  refine wpList_plain hgd fun K hK => ?_
  obtain ⟨w', hrun, hp⟩ := run_clearP (P := P) (w := w) (ty := oo.type) (c := c) hu hv hn hz hfit
  unfold Oper.wp
  simp [execOp, ho, resolve, invoke, builtin, hd, hrun, Result.andThen]
  exact hK _ _ (h w' hp)
theorem below_undrewN {w w' : World} {q : Nat} (h : Below (w.drewN q).heap.size (w.drewN q) w') : Below w.heap.size w w' := ⟨h.os, h.tape, h.output, h.size, h.block⟩
theorem below_undrew {w w' : World} (h : Below w.drew.heap.size w.drew w') : Below w.heap.size w w' := ⟨h.os, h.tape, h.output, h.size, h.block⟩
end Go.Proofs.YtdbjdpooggaonaaGreatDoor
end

section
namespace Go.Proofs.YtdbjdpooggaonaaGreatDoor
open Go.RowKit

/-! Pointers to words. -/
theorem wordInfo0 : (Tryz.prog.info? 146).map (fun i => (i.zero, i.size, i.bytes)) = some (some (.int .u64 0), 1, 8) := by kernel_rfl
theorem wordInfo : ∃ j, Tryz.prog.info? 146 = some j ∧ j.size ≠ 0 := by
  obtain ⟨j, hj, _, h, _⟩ := info_parts wordInfo0
  exact ⟨j, hj, by rw [h]; decide⟩
theorem weq_same (a : Addr) (w : World) : (binOp .eql 225 (.pointer (some a)) (.pointer (some a))).run Tryz.prog w = .ok (.bool true) w := by
  obtain ⟨j, hj, _⟩ := wordInfo
  exact run_eql_ptr_same w a Tryz.underlying225 hj
theorem wne_same (a : Addr) (w : World) : (binOp .neq 225 (.pointer (some a)) (.pointer (some a))).run Tryz.prog w = .ok (.bool false) w := by
  obtain ⟨j, hj, _⟩ := wordInfo
  exact Lib.run_neq_ptr_same w a Tryz.underlying225 hj
theorem weq_other {a b : Addr} (hne : a ≠ b) (w : World) (ha : HB w a.block) (hb : HB w b.block) : (binOp .eql 225 (.pointer (some a)) (.pointer (some b))).run Tryz.prog w = .ok (.bool false) w := by
  obtain ⟨j, hj, hs⟩ := wordInfo
  exact peq_other Tryz.underlying225 hj hs hne w ha hb
theorem wne_other {a b : Addr} (hne : a ≠ b) (w : World) (ha : HB w a.block) (hb : HB w b.block) : (binOp .neq 225 (.pointer (some a)) (.pointer (some b))).run Tryz.prog w = .ok (.bool true) w := by
  obtain ⟨j, hj, hs⟩ := wordInfo
  exact pne_other Tryz.underlying225 hj hs hne w ha hb
def addS (x y c : Nat) : Nat := (x + y + c) % BB
def addK (x y c : Nat) : Nat := (x + y + c) / BB
def subS (x y c : Nat) : Nat := (x + BB - y - c) % BB
def subK (x y c : Nat) : Nat := if x < y + c then 1 else 0
def mulS (x y : Nat) : Nat := x * y % BB
def mulK (x y : Nat) : Nat := x * y / BB

def add64Entry' : Array Value → Sem Value := fun args => do
  let (x, y, c) ← Extern.MathBitsCarry.three "Add64" args
  pure (Extern.MathBitsCarry.pair ((x + y + c) % Extern.MathBitsCarry.m64) ((x + y + c) / Extern.MathBitsCarry.m64))
def sub64Entry' : Array Value → Sem Value := fun args => do
  let (x, y, b) ← Extern.MathBitsCarry.three "Sub64" args
  pure (Extern.MathBitsCarry.pair ((x + Extern.MathBitsCarry.m64 - y - b) % Extern.MathBitsCarry.m64) (if x < y + b then 1 else 0))
theorem run_add64' (x y c : Nat) (hc : c ≤ 1) (w : World) :
    (add64Entry' #[.int .u64 x, .int .u64 y, .int .u64 c]).run Tryz.prog w = .ok (.tuple #[.int .u64 (addS x y c : Nat), .int .u64 (addK x y c : Nat)]) w := by
  have : c = 0 ∨ c = 1 := by omega
  rcases this with rfl | rfl <;> rfl
theorem run_sub64' (x y b : Nat) (hb : b ≤ 1) (w : World) :
    (sub64Entry' #[.int .u64 x, .int .u64 y, .int .u64 b]).run Tryz.prog w = .ok (.tuple #[.int .u64 (subS x y b : Nat), .int .u64 (subK x y b : Nat)]) w := by
  have : b = 0 ∨ b = 1 := by omega
  rcases this with rfl | rfl <;> rfl
theorem call_add64 (x y c : Nat) (hc : c ≤ 1) (w : World) :
    (callFunc 326 #[.int .u64 x, .int .u64 y, .int .u64 c]).run Tryz.prog w = .ok (.value (.tuple #[.int .u64 (addS x y c : Nat), .int .u64 (addK x y c : Nat)])) w := by
  rw [run_callFunc_extern Tryz.func326 (by kernel_rfl) (by kernel_rfl) (by kernel_rfl) (e := add64Entry') (by kernel_rfl), run_add64' x y c hc]
  rfl
theorem call_sub64 (x y b : Nat) (hb : b ≤ 1) (w : World) :
    (callFunc 328 #[.int .u64 x, .int .u64 y, .int .u64 b]).run Tryz.prog w = .ok (.value (.tuple #[.int .u64 (subS x y b : Nat), .int .u64 (subK x y b : Nat)])) w := by
  rw [run_callFunc_extern Tryz.func328 (by kernel_rfl) (by kernel_rfl) (by kernel_rfl) (e := sub64Entry') (by kernel_rfl), run_sub64' x y b hb]
  rfl
theorem Add_any (x y c : Nat) (hc : c ≤ 1) (w : World) :
    Calls Tryz.prog 290 #[.int .u64 x, .int .u64 y, .int .u64 c] w fun e w' => e = .returned (.tuple #[.int .u64 (addS x y c : Nat), .int .u64 (addK x y c : Nat)]) ∧ w = w' := by
  have hcall := call_add64 x y c hc
  go_enter Tryz.func290, Tryz.ntmps290
  go_wp2
  go_ret2
  exact ⟨rfl, rfl⟩
theorem Sub_any (x y c : Nat) (hc : c ≤ 1) (w : World) :
    Calls Tryz.prog 292 #[.int .u64 x, .int .u64 y, .int .u64 c] w fun e w' => e = .returned (.tuple #[.int .u64 (subS x y c : Nat), .int .u64 (subK x y c : Nat)]) ∧ w = w' := by
  have hcall := call_sub64 x y c hc
  go_enter Tryz.func292, Tryz.ntmps292
  go_wp2
  go_ret2
  exact ⟨rfl, rfl⟩
theorem Mul_any (x y : Nat) (hx : x < BB) (hy : y < BB) (w : World) :
    Calls Tryz.prog 308 #[.int .u64 x, .int .u64 y] w fun e w' => e = .returned (.tuple #[.int .u64 (mulK x y : Nat), .int .u64 (mulS x y : Nat)]) ∧ w = w' :=
  (Tryz.bits_Mul x y hx hy w).mono fun _ _ ⟨he, hw⟩ => ⟨he, hw.symm⟩
theorem Len_any (x : Nat) (hx : x < BB) (w : World) :
    Calls Tryz.prog 293 #[.int .u64 x] w fun e w' => e = .returned (.int .i64 (Lib.bitLen x : Nat)) ∧ w = w' :=
  (Tryz.bits_Len x w (by omega) (by unfold BB at hx; omega)).mono fun _ _ ⟨he, hw⟩ => ⟨by simpa using he, hw.symm⟩
theorem LeadingZeros_any (x : Nat) (hx : x < BB) (w : World) :
    Calls Tryz.prog 320 #[.int .u64 x] w fun e w' => e = .returned (.int .i64 (64 - (Lib.bitLen x : Int))) ∧ w = w' :=
  (Tryz.bits_LeadingZeros x w (by omega) (by unfold BB at hx; omega)).mono fun _ _ ⟨he, hw⟩ => ⟨by simpa using he, hw.symm⟩
theorem LeadingZeros64_any (x : Nat) (hx : x < BB) (w : World) :
    Calls Tryz.prog 363 #[.int .u64 x] w fun e w' => e = .returned (.int .i64 (64 - (Lib.bitLen x : Int))) ∧ w = w' :=
  (Tryz.bits_LeadingZeros64 x w (by omega) (by unfold BB at hx; omega)).mono fun _ _ ⟨he, hw⟩ => ⟨by simpa using he, hw.symm⟩
theorem mulWW_any (x y : Nat) (hx : x < BB) (hy : y < BB) (w : World) :
    Calls Tryz.prog 270 #[.int .u64 x, .int .u64 y] w fun e w' => e = .returned (.tuple #[.int .u64 (mulK x y : Nat), .int .u64 (mulS x y : Nat)]) ∧ w = w' := by
  go_enter Tryz.func270, Tryz.ntmps270
  go_wp2_with (go_at_call 308; refine (Mul_any _ _ hx hy _).mono ?_; rintro e w' ⟨rfl, rfl⟩)
  go_ret2
  exact ⟨rfl, rfl⟩
/-- x * y + c in two words. -/
def maS (x y c : Nat) : Nat := (x * y + c) % BB
def maK (x y c : Nat) : Nat := (x * y + c) / BB
theorem maS_eq (x y c : Nat) : addS (mulS x y) c 0 = maS x y c := by simp [addS, mulS, maS]
theorem maK_eq (x y c : Nat) : mulK x y + addK (mulS x y) c 0 = maK x y c := by
  unfold addK mulS mulK maK
  have h := Nat.div_add_mod (x * y) BB
  rw [show x * y + c = BB * (x * y / BB) + (x * y % BB + c) by omega, Nat.mul_add_div BB_pos]
  simp
theorem maK_lt {x y c : Nat} (hx : x < BB) (hy : y < BB) (hc : c < BB) : maK x y c < BB := mul_step hx hy hc
theorem mulS_lt (x y : Nat) : mulS x y < BB := Nat.mod_lt _ BB_pos
theorem mulAddWWW_any (x y c : Nat) (hx : x < BB) (hy : y < BB) (hc : c < BB) (w : World) :
    Calls Tryz.prog 352 #[.int .u64 x, .int .u64 y, .int .u64 c] w fun e w' => e = .returned (.tuple #[.int .u64 (maK x y c : Nat), .int .u64 (maS x y c : Nat)]) ∧ w = w' := by
  have h1 : ((mulK x y : Nat) : Int) + ((addK (mulS x y) c 0 : Nat) : Int) < 18446744073709551616 := by
    have := maK_lt hx hy hc
    rw [← maK_eq] at this
    unfold BB at this
    omega
  go_enter Tryz.func352, Tryz.ntmps352
  go_wp2_with (first | (go_at_call 308; refine (Mul_any _ _ hx hy _).mono ?_; rintro e w' ⟨rfl, rfl⟩) | (go_at_call 290; refine (Add_any _ _ 0 (by omega) _).mono ?_; rintro e w' ⟨rfl, rfl⟩))
  go_ret2
  exact ⟨by rw [← maK_eq, ← maS_eq]; rfl, rfl⟩
end Go.Proofs.YtdbjdpooggaonaaGreatDoor
end

section
namespace Go.Proofs.YtdbjdpooggaonaaGreatDoor
open Go.RowKit
set_option maxHeartbeats 400000 in
theorem addVV_g_any (bz oz cz bx ox cx by_ oy cy n : Nat) (E : TypeId) (xs : List Value) (X Y : Nat → Nat) (w : World) (hn : n < 1000)
    (hz : Blk w bz E xs) (hzn : oz + n ≤ xs.length) (hx : Seg w bx ox n X) (hy : Seg w by_ oy n Y) (hX : ∀ i, i < n → X i < BB) (hY : ∀ i, i < n → Y i < BB) (hxz : bx = bz → oz ≤ ox) (hyz : by_ = bz → oz ≤ oy) :
    Calls Tryz.prog 289 #[.slice (some ⟨bz, oz, none⟩) n cz, .slice (some ⟨bx, ox, none⟩) n cx, .slice (some ⟨by_, oy, none⟩) n cy] w fun e w' =>
      e = .returned (.int .u64 (addC X Y 0 n : Nat)) ∧ Put w w' bz E (over xs oz n (addD X Y 0)) := by
  replace hz := Hd.mk hz
  replace hx := Hd.mk hx
  replace hy := Hd.mk hy
  replace hxz := Hd.mk hxz
  replace hyz := Hd.mk hyz
  replace hX := Hd.mk hX
  replace hY := Hd.mk hY
  go_enter Tryz.func289, Tryz.ntmps289
  go_wp2
  go_loopw [6, 25] (fun c i wr => ∃ k : Nat, k ≤ n ∧ i = .int .i64 k ∧ c = .int .u64 (addC X Y 0 k : Nat) ∧ Put w wr bz E (over xs oz k (addD X Y 0))) (fun _ i _ => n - (intOf i).toNat)
  case atStart => exact ⟨0, Nat.zero_le _, rfl, rfl, by rw [over_zero]; exact Put.refl hz.out⟩
  case round =>
    obtain ⟨k, hk, rfl, rfl, hp⟩ := hrel
    by_cases hlt : k < n
    · have hp0 := Hd.mk hp
      have h1 := hx.out.past hz.out hp hxz.out hlt
      have h2 := hy.out.past hz.out hp hyz.out hlt
      have h3 : ∃ v, wr.cell? ⟨bz, oz + k, none⟩ = some v := ⟨_, by rw [hp.here.cell, List.getElem?_eq_getElem (by rw [over_length]; omega)]⟩
      obtain ⟨v3, h3⟩ := h3
      have h4 := hp.here.frozen (oz + k)
      clear hp
      have hc := addC_le (n := k) (fun i hi => hX.out i (by omega)) (fun i hi => hY.out i (by omega)) (Nat.zero_le 1)
      go_wp2
      go_quiet ((go_at_call 290; exact q_same (Add_any _ _ _ hc _)))
      go_wp2
      go_roundw
      case rel =>
        refine ⟨k + 1, hlt, by go_num, rfl, ?_⟩
        rw [← over_succ]
        exact (hp0.out.drewN nq).set _ _
      case measure => simp [intOf]; omega
    · obtain rfl : k = n := by omega
      replace hp := Hd.mk hp
      go_wp2
      go_ret
      exact ⟨rfl, hp.out⟩
set_option maxHeartbeats 400000 in
theorem subVV_g_any (bz oz cz bx ox cx by_ oy cy n : Nat) (E : TypeId) (xs : List Value) (X Y : Nat → Nat) (w : World) (hn : n < 1000)
    (hz : Blk w bz E xs) (hzn : oz + n ≤ xs.length) (hx : Seg w bx ox n X) (hy : Seg w by_ oy n Y) (hX : ∀ i, i < n → X i < BB) (hY : ∀ i, i < n → Y i < BB) (hxz : bx = bz → oz ≤ ox) (hyz : by_ = bz → oz ≤ oy) :
    Calls Tryz.prog 291 #[.slice (some ⟨bz, oz, none⟩) n cz, .slice (some ⟨bx, ox, none⟩) n cx, .slice (some ⟨by_, oy, none⟩) n cy] w fun e w' =>
      e = .returned (.int .u64 (subC X Y 0 n : Nat)) ∧ Put w w' bz E (over xs oz n (subD X Y 0)) := by
  replace hz := Hd.mk hz
  replace hx := Hd.mk hx
  replace hy := Hd.mk hy
  replace hxz := Hd.mk hxz
  replace hyz := Hd.mk hyz
  replace hX := Hd.mk hX
  replace hY := Hd.mk hY
  go_enter Tryz.func291, Tryz.ntmps291
  go_wp2
  go_loopw [6, 25] (fun c i wr => ∃ k : Nat, k ≤ n ∧ i = .int .i64 k ∧ c = .int .u64 (subC X Y 0 k : Nat) ∧ Put w wr bz E (over xs oz k (subD X Y 0))) (fun _ i _ => n - (intOf i).toNat)
  case atStart => exact ⟨0, Nat.zero_le _, rfl, rfl, by rw [over_zero]; exact Put.refl hz.out⟩
  case round =>
    obtain ⟨k, hk, rfl, rfl, hp⟩ := hrel
    by_cases hlt : k < n
    · have hp0 := Hd.mk hp
      have h1 := hx.out.past hz.out hp hxz.out hlt
      have h2 := hy.out.past hz.out hp hyz.out hlt
      have h3 : ∃ v, wr.cell? ⟨bz, oz + k, none⟩ = some v := ⟨_, by rw [hp.here.cell, List.getElem?_eq_getElem (by rw [over_length]; omega)]⟩
      obtain ⟨v3, h3⟩ := h3
      have h4 := hp.here.frozen (oz + k)
      clear hp
      have hc := subC_le (X := X) (Y := Y) (Nat.zero_le 1) k
      go_wp2
      go_quiet ((go_at_call 292; exact q_same (Sub_any _ _ _ hc _)))
      go_wp2
      go_roundw
      case rel =>
        refine ⟨k + 1, hlt, by go_num, rfl, ?_⟩
        rw [← over_succ]
        exact (hp0.out.drewN nq).set _ _
      case measure => simp [intOf]; omega
    · obtain rfl : k = n := by omega
      replace hp := Hd.mk hp
      go_wp2
      go_ret
      exact ⟨rfl, hp.out⟩
set_option maxHeartbeats 400000 in
theorem mulAddVWW_g_any (bz oz cz bx ox cx n y r : Nat) (E : TypeId) (xs : List Value) (X : Nat → Nat) (w : World) (hn : n < 1000) (hyB : y < BB) (hrB : r < BB)
    (hz : Blk w bz E xs) (hzn : oz + n ≤ xs.length) (hx : Seg w bx ox n X) (hX : ∀ i, i < n → X i < BB) (hxz : bx = bz → oz ≤ ox) :
    Calls Tryz.prog 333 #[.slice (some ⟨bz, oz, none⟩) n cz, .slice (some ⟨bx, ox, none⟩) n cx, .int .u64 y, .int .u64 r] w fun e w' =>
      e = .returned (.int .u64 (mulC X y r n : Nat)) ∧ Put w w' bz E (over xs oz n (mulD X y r)) := by
  replace hz := Hd.mk hz
  replace hx := Hd.mk hx
  replace hxz := Hd.mk hxz
  replace hX := Hd.mk hX
  go_enter Tryz.func333, Tryz.ntmps333
  go_wp2
  go_loopw [8, 19] (fun c i wr => ∃ k : Nat, k ≤ n ∧ i = .int .i64 k ∧ c = .int .u64 (mulC X y r k : Nat) ∧ Put w wr bz E (over xs oz k (mulD X y r))) (fun _ i _ => n - (intOf i).toNat)
  case atStart => exact ⟨0, Nat.zero_le _, rfl, rfl, by rw [over_zero]; exact Put.refl hz.out⟩
  case round =>
    obtain ⟨k, hk, rfl, rfl, hp⟩ := hrel
    by_cases hlt : k < n
    · have hp0 := Hd.mk hp
      have h1 := hx.out.past hz.out hp hxz.out hlt
      have h3 : ∃ v, wr.cell? ⟨bz, oz + k, none⟩ = some v := ⟨_, by rw [hp.here.cell, List.getElem?_eq_getElem (by rw [over_length]; omega)]⟩
      obtain ⟨v3, h3⟩ := h3
      have h4 := hp.here.frozen (oz + k)
      clear hp
      have hc := mulC_lt (n := k) (fun i hi => hX.out i (by omega)) hyB hrB
      have hXk := hX.out k hlt
      go_wp2_with (go_at_call 352; refine (mulAddWWW_any _ _ _ hXk hyB hc _).mono ?_; rintro e w' ⟨rfl, rfl⟩)
      go_roundw
      case rel =>
        refine ⟨k + 1, hlt, by go_num, rfl, ?_⟩
        rw [← over_succ]
        exact hp0.out.set _ _
      case measure => simp [intOf]; omega
    · obtain rfl : k = n := by omega
      replace hp := Hd.mk hp
      go_wp2
      go_ret
      exact ⟨rfl, hp.out⟩
theorem am_two {Z X y c : Nat} : addS (maS X y Z) c 0 = (Z + X * y + c) % BB ∧ maK X y Z + addK (maS X y Z) c 0 = (Z + X * y + c) / BB := by
  unfold addS addK maS maK
  have h := Nat.div_add_mod (X * y + Z) BB
  rw [show Z + X * y + c = BB * ((X * y + Z) / BB) + ((X * y + Z) % BB + c) by omega, Nat.mul_add_div BB_pos, Nat.mul_add_mod]
  simp
set_option maxHeartbeats 400000 in
theorem addMulVVWW_g_any (bz oz cz bx ox cx by_ oy cy n m a : Nat) (E : TypeId) (xs : List Value) (X Y : Nat → Nat) (w : World) (hn : n < 1000) (hmB : m < BB) (haB : a < BB)
    (hz : Blk w bz E xs) (hzn : oz + n ≤ xs.length) (hx : Seg w bx ox n X) (hy : Seg w by_ oy n Y) (hX : ∀ i, i < n → X i < BB) (hY : ∀ i, i < n → Y i < BB) (hxz : bx = bz → oz ≤ ox) (hyz : by_ = bz → oz ≤ oy) :
    Calls Tryz.prog 344 #[.slice (some ⟨bz, oz, none⟩) n cz, .slice (some ⟨bx, ox, none⟩) n cx, .slice (some ⟨by_, oy, none⟩) n cy, .int .u64 m, .int .u64 a] w fun e w' =>
      e = .returned (.int .u64 (amC X Y m a n : Nat)) ∧ Put w w' bz E (over xs oz n (amD X Y m a)) := by
  replace hz := Hd.mk hz
  replace hx := Hd.mk hx
  replace hy := Hd.mk hy
  replace hxz := Hd.mk hxz
  replace hyz := Hd.mk hyz
  replace hX := Hd.mk hX
  replace hY := Hd.mk hY
  go_enter Tryz.func344, Tryz.ntmps344
  go_wp2
  go_loopw [10, 32] (fun c i wr => ∃ k : Nat, k ≤ n ∧ i = .int .i64 k ∧ c = .int .u64 (amC X Y m a k : Nat) ∧ Put w wr bz E (over xs oz k (amD X Y m a))) (fun _ i _ => n - (intOf i).toNat)
  case atStart => exact ⟨0, Nat.zero_le _, rfl, rfl, by rw [over_zero]; exact Put.refl hz.out⟩
  case round =>
    obtain ⟨k, hk, rfl, rfl, hp⟩ := hrel
    by_cases hlt : k < n
    · have hp0 := Hd.mk hp
      have h1 := hx.out.past hz.out hp hxz.out hlt
      have h2 := hy.out.past hz.out hp hyz.out hlt
      have h3 : ∃ v, wr.cell? ⟨bz, oz + k, none⟩ = some v := ⟨_, by rw [hp.here.cell, List.getElem?_eq_getElem (by rw [over_length]; omega)]⟩
      obtain ⟨v3, h3⟩ := h3
      have h4 := hp.here.frozen (oz + k)
      clear hp
      have hc := amC_lt (n := k) (fun i hi => hX.out i (by omega)) (fun i hi => hY.out i (by omega)) hmB haB
      have hXk := hX.out k hlt
      have hYk := hY.out k hlt
      have hb : ((addK (maS (Y k) m (X k)) (amC X Y m a k) 0 : Nat) : Int) + ((maK (Y k) m (X k) : Nat) : Int) < 18446744073709551616 := by
        have h5 := am_step hXk hYk hmB hc
        rw [← am_two.2] at h5
        unfold BB at h5
        omega
      go_wp2
      go_quiet ((go_at_call 352; exact q_same (mulAddWWW_any _ _ _ hYk hmB hXk _)))
      go_wp2_with (go_at_call 290; refine (Add_any _ _ 0 (by omega) _).mono ?_; rintro e w' ⟨rfl, rfl⟩)
      go_roundw
      case rel =>
        refine ⟨k + 1, hlt, by go_num, ?_, ?_⟩
        · rw [show amC X Y m a (k + 1) = maK (Y k) m (X k) + addK (maS (Y k) m (X k)) (amC X Y m a k) 0 from am_two.2.symm]
          go_num
        · rw [← over_succ, show amD X Y m a k = addS (maS (Y k) m (X k)) (amC X Y m a k) 0 from am_two.1.symm]
          exact (hp0.out.drewN nq).set _ _
      case measure => simp [intOf]; omega
    · obtain rfl : k = n := by omega
      replace hp := Hd.mk hp
      go_wp2
      go_ret
      exact ⟨rfl, hp.out⟩
end Go.Proofs.YtdbjdpooggaonaaGreatDoor
end

section
namespace Go.Proofs.YtdbjdpooggaonaaGreatDoor
open Go.RowKit
theorem or_shl {x y s : Nat} (_hx : x < BB) (hy : y < BB) (hs : s ≤ 64) : Go.bits BinOp.or IntKind.u64 (IntKind.u64.wrap ((x : Int) * 2 ^ s)) ((y : Int) / 2 ^ (64 - s)) = ((x * 2 ^ s % BB + y / 2 ^ (64 - s) : Nat) : Int) := by
  have e1 : IntKind.u64.wrap ((x : Int) * 2 ^ s) = ((x * 2 ^ s % BB : Nat) : Int) := by
    show ((x : Int) * 2 ^ s) % 18446744073709551616 = _
    rw [Int.natCast_emod, Int.natCast_mul, Int.natCast_pow]; rfl
  have e2 : (y : Int) / 2 ^ (64 - s) = ((y / 2 ^ (64 - s) : Nat) : Int) := by
    rw [Int.natCast_ediv, Int.natCast_pow]; rfl
  have h := u64_or_nat (x * 2 ^ s % BB) (y / 2 ^ (64 - s)) (Nat.mod_lt _ (by decide)) (Nat.lt_of_le_of_lt (Nat.div_le_self _ _) hy)
  rw [e1, e2, h, shl_or hy hs]
theorem wrap_shl (x s : Nat) : IntKind.u64.wrap ((x : Int) * 2 ^ s) = ((x * 2 ^ s % BB : Nat) : Int) := by
  show ((x : Int) * 2 ^ s) % 18446744073709551616 = _
  rw [Int.natCast_emod, Int.natCast_mul, Int.natCast_pow]; rfl
theorem cast_shr (x s : Nat) : (x : Int) / 2 ^ s = ((x / 2 ^ s : Nat) : Int) := by rw [Int.natCast_ediv, Int.natCast_pow]; rfl
end Go.Proofs.YtdbjdpooggaonaaGreatDoor
end
