/- The logarithm of ten to the base of two, in floating point; how many digits are asked for. Texts of natural numbers. Texts of natural numbers: itoa. Numbers with a sign in memory: the state of many Ints at once. Conditions: those that each theorem states. -/
import Derived.WalkLawsBesides
import Derived.Test.YtdbjdpooggaonaaGreatDoorBase05
import Derived.Lib.SlBytesConst
set_option linter.all false

section
namespace Go.Proofs.YtdbjdpooggaonaaGreatDoor
open Go.RowKit
set_option maxRecDepth 100000
theorem call_bits10 (w : World) : (callFunc 367 #[.float .f64 4621819117588971520]).run Tryz.prog w = .ok (.value (.int .u64 4621819117588971520)) w := by
  rw [run_callFunc_extern Tryz.func367 (by kernel_rfl) (by kernel_rfl) (by kernel_rfl) (e := Extern.MathFloatBits.float64bits) (by kernel_rfl)]
  rfl
theorem call_from10 (w : World) : (callFunc 368 #[.int .u64 4621819117588971520]).run Tryz.prog w = .ok (.value (.float .f64 4621819117588971520)) w := by
  rw [run_callFunc_extern Tryz.func368 (by kernel_rfl) (by kernel_rfl) (by kernel_rfl) (e := Extern.MathFloatBits.float64frombits) (by kernel_rfl)]
  rfl
theorem call_from5 (w : World) : (callFunc 368 #[.int .u64 4603804719079489536]).run Tryz.prog w = .ok (.value (.float .f64 4603804719079489536)) w := by
  rw [run_callFunc_extern Tryz.func368 (by kernel_rfl) (by kernel_rfl) (by kernel_rfl) (e := Extern.MathFloatBits.float64frombits) (by kernel_rfl)]
  rfl
theorem archLog5 (w : World) : (Extern.MathLog.archLog #[.float .f64 4603804719079489536]).run Tryz.prog w = .ok (.float .f64 13825510489450817230) w := by kernel_rfl
theorem call_archLog5 (w : World) : (callFunc 350 #[.float .f64 4603804719079489536]).run Tryz.prog w = .ok (.value (.float .f64 13825510489450817230)) w := by
  rw [run_callFunc_extern Tryz.func350 (by kernel_rfl) (by kernel_rfl) (by kernel_rfl) (e := Extern.MathLog.archLog) (by kernel_rfl), archLog5]
  rfl
theorem Log5 (w : World) : Calls Tryz.prog 332 #[.float .f64 4603804719079489536] w fun e w' => e = .returned (.float .f64 13825510489450817230) ∧ w = w' := by
  have hc := call_archLog5
  go_enter Tryz.func332, Tryz.ntmps332
  go_wp2
  go_ret
  exact ⟨rfl, rfl⟩
theorem Abs10 (w : World) : Calls Tryz.prog 374 #[.float .f64 4621819117588971520] w fun e w' => e = .returned (.float .f64 4621819117588971520) ∧ w = w' := by
  have h1 := call_bits10
  have h2 := call_from10
  have h3 : Go.bits BinOp.andNot IntKind.u64 4621819117588971520 9223372036854775808 = 4621819117588971520 := by decide
  go_enter Tryz.func374, Tryz.ntmps374
  go_wp2
  go_ret
  exact ⟨rfl, rfl⟩

theorem IsNaN10 (w : World) : Calls Tryz.prog 365 #[.float .f64 4621819117588971520] w fun e w' => e = .returned (.bool false) ∧ w = w' := by
  go_enter Tryz.func365, Tryz.ntmps365
  go_wp2
  go_ret
  exact ⟨rfl, rfl⟩
theorem IsInf10 (w : World) : Calls Tryz.prog 364 #[.float .f64 4621819117588971520, .int .i64 0] w fun e w' => e = .returned (.bool false) ∧ w = w' := by
  go_enter Tryz.func364, Tryz.ntmps364
  go_wp2_with (go_at_call 374; refine (Abs10 _).mono ?_; rintro e w' ⟨rfl, rfl⟩)
  go_ret
  exact ⟨rfl, rfl⟩
theorem normalize10 (w : World) : Calls Tryz.prog 366 #[.float .f64 4621819117588971520] w fun e w' => e = .returned (.tuple #[.float .f64 4621819117588971520, .int .i64 0]) ∧ w = w' := by
  go_enter Tryz.func366, Tryz.ntmps366
  go_wp2_with (go_at_call 374; refine (Abs10 _).mono ?_; rintro e w' ⟨rfl, rfl⟩)
  go_ret2
  exact ⟨rfl, rfl⟩
theorem frexp10 (w : World) : Calls Tryz.prog 349 #[.float .f64 4621819117588971520] w fun e w' => e = .returned (.tuple #[.float .f64 4603804719079489536, .int .i64 4]) ∧ w = w' := by
  have h1 := call_bits10
  have h2 := call_from5
  have h3 : Go.bits BinOp.and IntKind.u64 1026 2047 = 1026 := by decide
  have h4 : Go.bits BinOp.andNot IntKind.u64 4621819117588971520 9218868437227405312 = 1125899906842624 := by decide
  have h5 : Go.bits BinOp.or IntKind.u64 1125899906842624 4602678819172646912 = 4603804719079489536 := by decide
  go_enter Tryz.func349, Tryz.ntmps349
  go_wp2_with (first | (go_at_call 364; refine (IsInf10 _).mono ?_; rintro e w' ⟨rfl, rfl⟩) | (go_at_call 365; refine (IsNaN10 _).mono ?_; rintro e w' ⟨rfl, rfl⟩) | (go_at_call 366; refine (normalize10 _).mono ?_; rintro e w' ⟨rfl, rfl⟩))
  go_ret2
  exact ⟨rfl, rfl⟩
theorem Frexp10 (w : World) : Calls Tryz.prog 331 #[.float .f64 4621819117588971520] w fun e w' => e = .returned (.tuple #[.float .f64 4603804719079489536, .int .i64 4]) ∧ w = w' := by
  go_enter Tryz.func331, Tryz.ntmps331
  go_wp2_with (go_at_call 349; refine (frexp10 _).mono ?_; rintro e w' ⟨rfl, rfl⟩)
  go_ret2
  exact ⟨rfl, rfl⟩
theorem log2_10 (w : World) : Calls Tryz.prog 295 #[.float .f64 4621819117588971520] w fun e w' => e = .returned (.float .f64 4614662735865160561) ∧ w = w' := by
  have hm : ∀ w, (binOp .mul 190 (.float .f64 13825510489450817230) (.float .f64 4609176140021203710)).run Tryz.prog w = .ok (.float .f64 13827654785158443579) w := fun w => by kernel_rfl
  have ha : ∀ w, (binOp .add 190 (.float .f64 13827654785158443579) (.float .f64 4616189618054758400)).run Tryz.prog w = .ok (.float .f64 4614662735865160561) w := fun w => by kernel_rfl
  have hf : floatOfInt FloatKind.f64 4 = 4616189618054758400 := by kernel_rfl
  go_enter Tryz.func295, Tryz.ntmps295
  go_wp2_with (first | (go_at_call 331; refine (Frexp10 _).mono ?_; rintro e w' ⟨rfl, rfl⟩) | (go_at_call 332; refine (Log5 _).mono ?_; rintro e w' ⟨rfl, rfl⟩))
  go_ret
  exact ⟨rfl, rfl⟩
theorem Log2_10 (w : World) : Calls Tryz.prog 257 #[.float .f64 4621819117588971520] w fun e w' => e = .returned (.float .f64 4614662735865160561) ∧ w = w' := by
  go_enter Tryz.func257, Tryz.ntmps257
  go_wp2_with (go_at_call 295; refine (log2_10 _).mono ?_; rintro e w' ⟨rfl, rfl⟩)
  go_ret
  exact ⟨rfl, rfl⟩
theorem float10 : floatOfInt FloatKind.f64 10 = 4621819117588971520 := by kernel_rfl
/-- How many digits are asked for. -/
def estF (b : Nat) : Option Int := (floatBits .quo .f64 (floatOfInt .f64 b) 4614662735865160561).bind fun c => floatToIntVal .f64 c .i64
theorem est_all : (List.range 600).all (fun b => estF b == some ((b * 30103 / 100000 : Nat) : Int)) = true := by kernel_rfl
theorem dig_all : (List.range 600).all (fun b => decide (2 ^ b ≤ 10 ^ (b * 30103 / 100000 + 1))) = true := by kernel_rfl
theorem est_at {b : Nat} (h : b < 600) : estF b = some ((b * 30103 / 100000 : Nat) : Int) := by
  have := List.all_eq_true.1 est_all b (List.mem_range.2 h)
  exact eq_of_beq this
theorem dig_at {b : Nat} (h : b < 600) : 2 ^ b ≤ 10 ^ (b * 30103 / 100000 + 1) := by
  have := List.all_eq_true.1 dig_all b (List.mem_range.2 h)
  exact of_decide_eq_true this
theorem est_run {b : Nat} (h : b < 600) : ∃ c, ∀ w, (binOp .quo 190 (.float .f64 (floatOfInt .f64 b)) (.float .f64 4614662735865160561)).run Tryz.prog w = .ok (.float .f64 c) w ∧ (convert 190 3 (.float .f64 c)).run Tryz.prog w = .ok (.int .i64 ((b * 30103 / 100000 : Nat) : Int)) w := by
  have he := est_at h
  unfold estF at he
  rw [Option.bind_eq_some_iff] at he
  obtain ⟨c, h1, h2⟩ := he
  exact ⟨c, fun w => ⟨run_float_arith (h := h1) .., run_convert_float_int (h := h2) (hs := by kernel_rfl) (hd := by kernel_rfl) ..⟩⟩
end Go.Proofs.YtdbjdpooggaonaaGreatDoor
end

section
namespace Go.Proofs.YtdbjdpooggaonaaGreatDoor
open Go.RowKit
set_option maxRecDepth 100000
theorem pow10_le {n : Nat} (h : n ≤ 18) : 10 ^ n ≤ 1000000000000000000 := Nat.pow_le_pow_right (n := 10) (by decide) h
theorem maxPow10 (w : World) : Calls Tryz.prog 259 #[.int .u64 10] w fun e w' => e = .returned (.tuple #[.int .u64 10000000000000000000, .int .i64 19]) ∧ w = w' := by
  go_enter Tryz.func259, Tryz.ntmps259
  go_wp2
  go_loopw [2, 3] (fun p n wr => ∃ k : Nat, 1 ≤ k ∧ k ≤ 19 ∧ p = .int .u64 ((10 ^ k : Nat) : Int) ∧ n = .int .i64 k ∧ w = wr) (fun _ n _ => 19 - (intOf n).toNat)
  case atStart => exact ⟨1, by omega, by omega, rfl, rfl, rfl⟩
  case round =>
    obtain ⟨k, h1, h2, rfl, rfl, rfl⟩ := hrel
    by_cases hk : k = 19
    · subst hk
      have hd : decide ((((10 ^ 19 : Nat) : Nat) : Int) ≤ 1844674407370955161) = false := by decide
      rw [show ((10 ^ 19 : Nat) : Int) = 10000000000000000000 from rfl] at *
      go_wp2
      go_ret2
      exact ⟨rfl, rfl⟩
    · have hp := pow10_le (n := k) (by omega)
      have e : 10 ^ (k + 1) = 10 ^ k * 10 := Nat.pow_succ 10 k
      generalize 10 ^ k = p at *
      have hd : decide ((p : Int) ≤ 1844674407370955161) = true := decide_eq_true (by omega)
      have hw : IntKind.u64.wrap ((p : Int) * 10) = ((p * 10 : Nat) : Int) := by rw [IntWalk.u64_in _ (by omega)]; omega
      replace e := Hd.mk e
      go_wp2
      go_roundw
      case rel => exact ⟨k + 1, by omega, by omega, by rw [e.out]; rfl, by go_num, trivial⟩
      case measure => simp [intOf]; omega
theorem divisors_any (stk b nd bb : Value) (m : Nat) (w : World) (hg : Gl w) (hm : m ≤ 8) :
    Calls Tryz.prog 260 #[stk, .int .i64 m, b, nd, bb] w fun e w' => e = .returned (.slice none 0 0) ∧ w = w' := by
  have hl := hg.leaf
  replace hg := Hd.mk hg
  go_enter Tryz.func260, Tryz.ntmps260
  go_wp2
  go_ret
  exact ⟨rfl, rfl⟩

/-- A row whose cells from lo on are f's. -/
def gen (xs : List Value) (lo : Nat) (f : Nat → Value) : List Value := xs.mapIdx fun j v => if lo ≤ j then f j else v
theorem gen_length (xs : List Value) (lo : Nat) (f : Nat → Value) : (gen xs lo f).length = xs.length := by simp [gen]
theorem gen_get (xs : List Value) (lo : Nat) (f : Nat → Value) (j : Nat) : (gen xs lo f)[j]? = if lo ≤ j ∧ j < xs.length then some (f j) else xs[j]? := by
  unfold gen
  rw [List.getElem?_mapIdx]
  by_cases hj : j < xs.length
  · rw [List.getElem?_eq_getElem hj]
    by_cases h : lo ≤ j <;> simp [h, hj]
  · rw [List.getElem?_eq_none (by omega), if_neg (by omega)]; rfl
theorem gen_none (xs : List Value) (lo : Nat) (f : Nat → Value) (h : xs.length ≤ lo) : gen xs lo f = xs := by
  apply List.ext_getElem?
  intro j
  rw [gen_get, if_neg (by omega)]
theorem gen_down (xs : List Value) (i : Nat) (f : Nat → Value) (h : i < xs.length) : (gen xs (i + 1) f).set i (f i) = gen xs i f := by
  apply List.ext_getElem?
  intro j
  rw [List.getElem?_set, gen_get, gen_get, gen_length]
  by_cases e : i = j
  · subst e; rw [if_pos rfl, if_pos h, if_pos ⟨Nat.le_refl _, h⟩]
  · rw [if_neg e]
    by_cases h1 : i + 1 ≤ j ∧ j < xs.length
    · rw [if_pos h1, if_pos (by omega)]
    · rw [if_neg h1, if_neg (by omega)]
/-- The digit at place p of n of m's text. -/
def dgt (m n p : Nat) : Nat := m / 10 ^ (n - 1 - p) % 10
def dgv (m n p : Nat) : Value := .int .u8 ((48 + dgt m n p : Nat) : Int)
theorem dgt_in {m n i j : Nat} (hj : j < 19) (hi : j < i) (hn : i ≤ n) : (m / 10 ^ (n - i) % 10 ^ 19 / 10 ^ j) % 10 = dgt m n (i - j - 1) := by
  unfold dgt
  rw [show n - 1 - (i - j - 1) = n - i + j by omega, Nat.pow_add, ← Nat.div_div_eq_div_mul]
  generalize m / 10 ^ (n - i) = a
  obtain ⟨r, hr⟩ : ∃ r, 19 = j + 1 + r := ⟨18 - j, by omega⟩
  rw [hr, Nat.pow_add, Nat.pow_succ, Nat.mul_assoc, Nat.mod_mul_right_div_self, Nat.mod_mul_right_mod]
theorem dgt_zero {m n i p : Nat} (h : m / 10 ^ (n - i) = 0) (hp : p < i) (hn : i ≤ n) : dgt m n p = 0 := by
  unfold dgt
  have h1 : m < 10 ^ (n - i) := (Nat.div_eq_zero_iff_lt (Nat.pow_pos (by decide))).1 h
  have h2 : 10 ^ (n - i) ≤ 10 ^ (n - 1 - p) := Nat.pow_le_pow_right (by decide) (by omega)
  rw [Nat.div_eq_of_lt (by omega)]
theorem div_more {m n i k : Nat} (hk : k ≤ i) (hi : i ≤ n) (h19 : k = 19 ∨ (k = i ∧ m < 10 ^ n ∧ k ≤ 19)) : m / 10 ^ (n - i) / 10 ^ 19 = m / 10 ^ (n - (i - k)) := by
  rw [Nat.div_div_eq_div_mul, ← Nat.pow_add]
  rcases h19 with rfl | ⟨rfl, h1, h2⟩
  · rw [show n - i + 19 = n - (i - 19) by omega]
  · rw [Nat.div_eq_of_lt, Nat.div_eq_of_lt]
    · rw [show n - (k - k) = n by omega]; exact h1
    · exact Nat.lt_of_lt_of_le h1 (Nat.pow_le_pow_right (by decide) (by omega))
/-- Blocks of P are as they were. -/
structure Keep (P : Nat → Prop) (w w' : World) : Prop where
  os : w'.os = w.os
  tape : w'.tape = w.tape
  output : w'.output = w.output
  size : w.heap.size ≤ w'.heap.size
  block : ∀ k, P k → k < w.heap.size → w'.heap[k]? = w.heap[k]?
theorem Keep.refl (P : Nat → Prop) (w : World) : Keep P w w := ⟨rfl, rfl, rfl, Nat.le_refl _, fun _ _ _ => rfl⟩
theorem Keep.chg {P : Nat → Prop} {w w' w'' : World} {o : Option Nat} (h : Keep P w w') (hc : Chg w' w'' o) (ho : ∀ K, o = some K → P K → w.heap.size ≤ K) : Keep P w w'' :=
  ⟨hc.os.trans h.os, hc.tape.trans h.tape, hc.output.trans h.output, Nat.le_trans h.size hc.size, fun k hp hk => (hc.block k (Nat.lt_of_lt_of_le hk h.size) (fun e => by have := ho k e hp; omega)).trans (h.block k hp hk)⟩
theorem Keep.put {P : Nat → Prop} {w w' w'' : World} {S : Nat} {E : TypeId} {ys : List Value} (h : Keep P w w') (hp : Put w' w'' S E ys) (hS : ¬ P S) : Keep P w w'' :=
  ⟨hp.os.trans h.os, hp.tape.trans h.tape, hp.output.trans h.output, by rw [hp.size]; exact h.size, fun k hk hl => (hp.other k (fun e => hS (e ▸ hk))).trans (h.block k hk hl)⟩
set_option maxHeartbeats 1000000 in
theorem convertWords_any (stk nil : Value) (q : Value) (m n S : Nat) (P : Nat → Prop) (oq : Option Nat) (xs : List Value) (w : World) (hq : NatS w q m oq) (hm : m < 10 ^ n) (hn : n < 1000) (hn0 : 0 < n) (hwm : wlen m < 800)
    (hS : Blk w S 5 xs) (hlen : n = xs.length) (hSB : ¬ P S) (hoq : ∀ K, oq = some K → (P K → w.heap.size ≤ K) ∧ K ≠ S) :
    Calls Tryz.prog 261 #[q, stk, .slice (some ⟨S, 0, none⟩) n n, .int .u64 10, .int .i64 19, .int .u64 10000000000000000000, .slice none 0 0] w fun e w' =>
      e = .returned (.tuple #[]) ∧ Keep P w w' ∧ Blk w' S 5 (gen xs 0 (dgv m n)) := by
  replace hm := Hd.mk hm
  replace hlen := Hd.mk hlen
  replace hS := Hd.mk hS
  replace hq := Hd.mk hq
  replace hoq := Hd.mk hoq
  go_enter Tryz.func261, Tryz.ntmps261
  go_wp2
  go_loopw [0, 19] (fun v i wr => ∃ (k : Nat) (o : Option Nat), k ≤ n ∧ i = .int .i64 k ∧ Hd (NatS wr v (m / 10 ^ (n - k)) o) ∧ Hd (∀ K, o = some K → (P K → w.heap.size ≤ K) ∧ K ≠ S) ∧ Hd (Keep P w wr) ∧ Hd (Blk wr S 5 (gen xs k (dgv m n)))) (fun v i _ => (intOf i).toNat)
  case atStart => exact ⟨n, oq, Nat.le_refl _, rfl, ⟨by rw [Nat.sub_self, Nat.pow_zero, Nat.div_one]; exact hq.out⟩, hoq, ⟨Keep.refl _ _⟩, ⟨by rw [gen_none _ _ _ (by rw [hlen.out]; exact Nat.le_refl _)]; exact hS.out⟩⟩
  case round =>
    obtain ⟨k, o, hk, rfl, hv, ho, hbel, hblk⟩ := hrel
    by_cases h0 : m / 10 ^ (n - k) = 0
    · obtain ⟨A, ca, rfl, hla, hca, hra, hsa⟩ := hv.out.open
      have h0' := Hd.mk h0
      rw [h0, wlen_zero] at hla hv hsa ⊢
      replace hsa := Hd.mk hsa
      replace hra := Hd.mk hra
      replace h0 := Hd.mk h0
      go_wp2
      go_loopw [19] (fun i w2 => ∃ j : Nat, j ≤ k ∧ i = .int .i64 j ∧ Hd (Put wr w2 S 5 (gen xs j (dgv m n)))) (fun i _ => (intOf i).toNat)
      case atStart => exact ⟨k, Nat.le_refl _, rfl, ⟨Put.refl hblk.out⟩⟩
      case round =>
        obtain ⟨j, hj, rfl, hp⟩ := hrel
        by_cases hj0 : j = 0
        · subst hj0
          go_wp2
          go_end0
          exact ⟨rfl, hbel.out.put hp.out hSB, hp.out.here⟩
        · obtain ⟨p, rfl⟩ : ∃ p, j = p + 1 := ⟨j - 1, by omega⟩
          have h3 : ∃ v, wr.cell? ⟨S, p, none⟩ = some v := ⟨_, by rw [hp.out.here.cell, List.getElem?_eq_getElem (by rw [gen_length, ← hlen.out]; omega)]⟩
          obtain ⟨v3, h3⟩ := h3
          have h4 := hp.out.here.frozen p
          have hpn : p < n := by omega
          have hz := dgt_zero h0'.out (by omega : p < k) hk
          replace hz := Hd.mk hz
          go_wp2
          go_roundw
          case rel => exact ⟨p, by omega, by go_num, ⟨by
            rw [← gen_down xs p _ (by rw [← hlen.out]; omega), show dgv m n p = .int .u8 48 by unfold dgv; rw [hz.out]; rfl]
            exact hp.out.set p _⟩⟩
          case measure => simp [intOf]
    · have hk0 : 0 < k := by
        rcases Nat.eq_zero_or_pos k with rfl | h
        · exact absurd (by rw [Nat.sub_zero]; exact Nat.div_eq_of_lt hm.out) h0
        · exact h
      have hdv := Hd.mk (divW_any _ _ (m / 10 ^ (n - k)) 10000000000000000000 o o wr hv.out.recv hv.out (Nat.lt_of_le_of_lt (wlen_mono (Nat.div_le_self _ _)) hwm) (by decide) (by decide))
      have hq0 : wlen (m / 10 ^ (n - k)) ≠ 0 := fun h => h0 (wlen_eq_zero.1 h)
      have hdg : ∀ j, j < 19 → j < k → (m / 10 ^ (n - k) % 10000000000000000000 / 10 ^ j) % 10 = dgt m n (k - j - 1) := fun j h1 h2 => dgt_in h1 h2 hk
      have hmore : ∀ j, j ≤ k → (j = 19 ∨ (j = k ∧ j ≤ 19)) → m / 10 ^ (n - k) / 10000000000000000000 = m / 10 ^ (n - (k - j)) := fun j h1 h2 => div_more h1 hk (h2.imp id fun h => ⟨h.1, hm.out, h.2⟩)
      have hR0B : m / 10 ^ (n - k) % 10000000000000000000 < 10000000000000000000 := Nat.mod_lt _ (by decide)
      generalize m / 10 ^ (n - k) % 10000000000000000000 = R0 at hdv hdg hR0B
      generalize m / 10 ^ (n - k) = Q at *
      obtain ⟨A, ca, rfl, hla, hca, hra, hsa⟩ := hv.out.open
      replace hsa := Hd.mk hsa
      replace hra := Hd.mk hra
      replace h0 := Hd.mk h0
      replace hdg := Hd.mk hdg
      replace hmore := Hd.mk hmore
      go_wp2_with fail
      refine hdv.out.mono ?_
      rintro e w2 ⟨v2, rfl, hr2⟩
      have hSlt : S < wr.heap.size := hblk.out.lt
      obtain ⟨o2, hv2, hc2, ho2⟩ := hr2
      have hblk2 : Blk w2 S 5 (gen xs k (dgv m n)) := hc2.blk hblk.out (fun e => (ho.out S e).2 rfl)
      have hbel2 : Keep P w w2 := hbel.out.chg hc2 (fun K h => (ho.out K h).1)
      have ho2' : ∀ K, o2 = some K → (P K → w.heap.size ≤ K) ∧ K ≠ S := fun K e => by
        rcases ho2 with rfl | ⟨K', rfl, h⟩
        · exact ho.out K e
        · cases e; exact ⟨fun _ => Nat.le_trans hbel.out.size h, by omega⟩
      replace hv2 := Hd.mk hv2
      replace hc2 := Hd.mk hc2
      replace ho2 := Hd.mk ho2
      replace ho2' := Hd.mk ho2'
      replace hblk2 := Hd.mk hblk2
      replace hbel2 := Hd.mk hbel2
      go_wp2
      go_loopw [19, 20, 21] (fun i r j w3 => ∃ jn : Nat, jn ≤ 19 ∧ jn ≤ k ∧ i = .int .i64 ((k - jn : Nat) : Int) ∧ r = .int .u64 ((R0 / 10 ^ jn : Nat) : Int) ∧ j = .int .i64 jn ∧ Hd (Put w2 w3 S 5 (gen xs (k - jn) (dgv m n)))) (fun i _ _ _ => (intOf i).toNat)
      case atStart => exact ⟨0, by omega, by omega, by simp, by simp, rfl, ⟨Put.refl hblk2.out⟩⟩
      case round =>
        obtain ⟨jn, hj1, hj2, rfl, rfl, rfl, hp⟩ := hrel
        by_cases hend : jn = 19 ∨ jn = k
        · have hQ2 := hmore.out jn hj2 (hend.imp id fun h => ⟨h, hj1⟩)
          replace hQ2 := Hd.mk hQ2
          by_cases h19 : jn = 19
          · have ht : decide ((jn : Int) < 19) = false := decide_eq_false (by omega)
            go_wp2
            go_roundw
            case rel => exact ⟨k - jn, o2, by omega, rfl, ⟨by rw [← hQ2.out]; exact hv2.out.of_heap fun K e => hp.out.other K (ho2'.out K e).2⟩, ho2', ⟨hbel2.out.put hp.out hSB⟩, ⟨hp.out.here⟩⟩
            case measure => simp [intOf]; omega
          · have ht : decide ((jn : Int) < 19) = true := decide_eq_true (by omega)
            have ht2 : decide (0 < ((k - jn : Nat) : Int)) = false := decide_eq_false (by omega)
            go_wp2
            go_roundw
            case rel => exact ⟨k - jn, o2, by omega, rfl, ⟨by rw [← hQ2.out]; exact hv2.out.of_heap fun K e => hp.out.other K (ho2'.out K e).2⟩, ho2', ⟨hbel2.out.put hp.out hSB⟩, ⟨hp.out.here⟩⟩
            case measure => simp [intOf]; omega
        · obtain ⟨p, hp1⟩ : ∃ p, k - jn = p + 1 := ⟨k - jn - 1, by omega⟩
          have ht : decide ((jn : Int) < 19) = true := decide_eq_true (by omega)
          have hd := hdg.out jn (by omega) (by omega)
          rw [show k - jn - 1 = p by omega] at hd
          rw [hp1] at hp
          rw [hp1]
          have hRs : R0 / 10 ^ jn < 10000000000000000000 := Nat.lt_of_le_of_lt (Nat.div_le_self _ _) hR0B
          have hRn : R0 / 10 ^ (jn + 1) = R0 / 10 ^ jn / 10 := by rw [Nat.pow_succ, Nat.div_div_eq_div_mul]
          generalize R0 / 10 ^ jn = R at *
          generalize hR10 : R0 / 10 ^ (jn + 1) = R10 at *
          have e1 : (R : Int) / 10 = ((R10 : Nat) : Int) := by omega
          have e2 : IntKind.u64.wrap ((R10 : Int) * 10) = (R10 : Int) * 10 := IntWalk.u64_in _ (by omega)
          have e3 : IntKind.u64.wrap ((R : Int) - (R10 : Int) * 10) = ((dgt m n p : Nat) : Int) := by rw [IntWalk.u64_in _ (by omega)]; omega
          have e4 : IntKind.u8.wrap ((dgt m n p : Nat) : Int) = ((dgt m n p : Nat) : Int) := IntWalk.u8_in _ (by omega)
          have e5 : IntKind.u8.wrap (48 + ((dgt m n p : Nat) : Int)) = ((48 + dgt m n p : Nat) : Int) := by rw [IntWalk.u8_in _ (by omega)]; omega
          have h3 : ∃ v, wr.cell? ⟨S, p, none⟩ = some v := ⟨_, by rw [hp.out.here.cell, List.getElem?_eq_getElem (by rw [gen_length, ← hlen.out]; omega)]⟩
          obtain ⟨v3, h3⟩ := h3
          have h4 := hp.out.here.frozen p
          have hpn : p < n := by omega
          replace hRn := Hd.mk hRn
          replace hd := Hd.mk hd
          replace hR10 := Hd.mk hR10
          go_wp2
          go_roundw
          case rel => exact ⟨jn + 1, by omega, by omega, by rw [show k - (jn + 1) = p by omega], by rw [hR10.out], rfl, ⟨by
            rw [show k - (jn + 1) = p by omega, ← gen_down xs p _ (by rw [← hlen.out]; omega)]
            exact hp.out.set p (dgv m n p)⟩⟩
          case measure => simp [intOf]
end Go.Proofs.YtdbjdpooggaonaaGreatDoor
end

section
namespace Go.Proofs.YtdbjdpooggaonaaGreatDoor
open Go.RowKit
set_option maxRecDepth 100000
theorem byteInfo0 : (Tryz.prog.info? 5).map (fun i => (i.zero, i.size, i.bytes)) = some (some (.int .u8 0), 1, 1) := by kernel_rfl
theorem run_mkb (n : Nat) (hc : n ≤ 4000000) (w : World) :
    (Instr.makeSlice 22 (.int .i64 n) (.int .i64 n)).run Tryz.prog w = .ok (.slice (some ⟨w.heap.size, 0, none⟩) n n) (w.alloc (.cells (madeCells #[.int .u8 0] n) 5)) := by
  obtain ⟨j, hj, hz, hs, hb⟩ := info_parts byteInfo0
  have := run_makeSlice (w := w) 22 5 j (.int .u8 0) Tryz.underlying22 hj hz .i64 .i64 n n (by omega) (by omega) (by rw [hs]; omega) (by rw [hb]; omega) (by omega)
  rw [hs] at this
  simpa [Value.cells] using this
theorem lt_nbl {a : Nat} (_h : a ≠ 0) : a < 2 ^ nbl a := by
  have h0 : wlen a ≠ 0 := fun h => _h (wlen_eq_zero.1 h)
  obtain ⟨m, hm⟩ : ∃ m, wlen a = m + 1 := ⟨wlen a - 1, by omega⟩
  unfold nbl
  rw [if_neg _h, hm, Nat.add_sub_cancel]
  have htop := dig_top hm
  have hlt := lt_wlen a
  rw [hm] at hlt
  obtain ⟨i1, i2, i3, i4⟩ := bitLen_spec (dig_lt a m) htop
  have e : BB ^ m = 2 ^ (64 * m) := by rw [show BB = 2 ^ 64 from rfl, ← Nat.pow_mul]
  have hd : dig a m = a / BB ^ m := by
    unfold dig
    rw [Nat.mod_eq_of_lt]
    rw [Nat.div_lt_iff_lt_mul (Nat.pow_pos BB_pos), ← Nat.pow_succ']; exact hlt
  rw [hd] at i2
  rw [hd, Nat.pow_add, ← e]
  rw [Nat.mul_comm]
  exact (Nat.div_lt_iff_lt_mul (Nat.pow_pos BB_pos)).1 i2
theorem nbl_le {a : Nat} (h : wlen a ≤ 8) : nbl a ≤ 512 := by
  unfold nbl
  split
  · omega
  · have := bitLen_le _ (dig_lt a (wlen a - 1)); omega
/-- The digits of a number that is not 0. -/
def dlen (a : Nat) : Nat := if h : a < 10 then 1 else dlen (a / 10) + 1
theorem dlen_pos (a : Nat) : 0 < dlen a := by rw [dlen]; split <;> omega
theorem lt_dlen (a : Nat) : a < 10 ^ dlen a := by
  induction a using Nat.strongRecOn with
  | ind a ih =>
    rw [dlen]
    split
    · simpa
    · have := ih (a / 10) (by omega)
      rw [Nat.pow_succ]; omega
theorem dlen_le {a : Nat} (h : a ≠ 0) : 10 ^ (dlen a - 1) ≤ a := by
  induction a using Nat.strongRecOn with
  | ind a ih =>
    rw [dlen]
    split
    · simp; omega
    · have h1 := ih (a / 10) (by omega) (by omega)
      have h2 := dlen_pos (a / 10)
      obtain ⟨k, hk⟩ : ∃ k, dlen (a / 10) = k + 1 := ⟨dlen (a / 10) - 1, by omega⟩
      rw [hk] at h1 ⊢
      simp only [Nat.add_sub_cancel] at h1 ⊢
      rw [Nat.pow_succ]; omega
theorem dlen_le_of {a n : Nat} (h : a < 10 ^ n) (h0 : a ≠ 0) : dlen a ≤ n := by
  have h1 := dlen_le h0
  have h2 := dlen_pos a
  have : dlen a - 1 < n := (Nat.pow_lt_pow_iff_right (by decide : 1 < 10)).1 (Nat.lt_of_le_of_lt h1 h)
  omega
theorem dgt_lead {a n p : Nat} (hp : p < n - dlen a) : dgt a n p = 0 := by
  unfold dgt
  rw [Nat.div_eq_of_lt (Nat.lt_of_lt_of_le (lt_dlen a) (Nat.pow_le_pow_right (by decide) (by omega)))]
theorem dgt_first {a n : Nat} (h0 : a ≠ 0) (hn : dlen a ≤ n) : dgt a n (n - dlen a) ≠ 0 := by
  unfold dgt
  have h2 := dlen_pos a
  rw [show n - 1 - (n - dlen a) = dlen a - 1 by omega]
  have h1 := dlen_le h0
  have h3 := lt_dlen a
  obtain ⟨k, hk⟩ : ∃ k, dlen a = k + 1 := ⟨dlen a - 1, by omega⟩
  rw [hk] at h1 h3 ⊢
  simp only [Nat.add_sub_cancel] at h1 ⊢
  rw [Nat.pow_succ] at h3
  have h4 : 1 ≤ a / 10 ^ k := (Nat.le_div_iff_mul_le (Nat.pow_pos (by decide))).2 (by omega)
  have h5 : a / 10 ^ k < 10 := (Nat.div_lt_iff_lt_mul (Nat.pow_pos (by decide))).2 (by omega)
  omega
theorem dgt_lt (m n p : Nat) : dgt m n p < 10 := Nat.mod_lt _ (by decide)

/-- How many cells the text's row has. -/
def askN (a : Nat) (neg : Bool) : Nat := nbl a * 30103 / 100000 + 1 + (if neg then 1 else 0)
theorem and_neg10 : Go.bits BinOp.and IntKind.u64 10 18446744073709551606 = 2 := by decide
set_option maxHeartbeats 2000000 in
theorem itoa_pos (x : Value) (a : Nat) (neg : Bool) (ox : Option Nat) (w : World) (hx : NatS w x a ox) (ha : wlen a ≤ 8) (h0 : a ≠ 0) (hg : Gl w) :
    Calls Tryz.prog 229 #[x, .bool neg, .int .i64 10] w fun e w' => ∃ S n i ys, e = .returned (.slice (some ⟨S, i, none⟩) (n - i) (n - i)) ∧ Chg w w' none ∧ w.heap.size ≤ S ∧ n = ys.length ∧ n < 1000 ∧ Blk w' S 5 ys ∧
      i + dlen a + (if neg then 1 else 0) = n ∧ (neg = true → ys[i]? = some (.int .u8 45)) ∧ ∀ j, j < dlen a → ys[i + (if neg then 1 else 0) + j]? = some (dgv a (dlen a) j) := by
  have hbl := Hd.mk fun w' (hb : Below w.heap.size w w') => nbitLen_any x a ox w' (hx.below hb) (by omega)
  have hset := Hd.mk fun w' (hb : Below w.heap.size w w') => set_any (.slice none 0 0) x a none ox w' (RecvS.nil _) (hx.below hb) (by omega)
  have hnb := nbl_le ha
  have hlt := lt_nbl h0
  obtain ⟨c, hc⟩ := est_run (b := nbl a) (by omega)
  have hdg := dig_at (b := nbl a) (by omega)
  have hf10 := float10
  have hN : askN a neg = nbl a * 30103 / 100000 + 1 + (if neg then 1 else 0) := rfl
  have hmk := run_mkb (askN a neg) (by rw [hN]; split <;> omega)
  have hmp := maxPow10
  have hL2 := Log2_10
  have hand := and_neg10
  have hdl : dlen a ≤ nbl a * 30103 / 100000 + 1 := dlen_le_of (Nat.lt_of_lt_of_le hlt hdg) h0
  obtain ⟨A, ca, rfl, hla, hca, hra, hsa⟩ := hx.open
  have hwl : ((wlen a : Int) == 0) = false := by
    have : wlen a ≠ 0 := fun h => h0 (wlen_eq_zero.1 h)
    simp; omega
  generalize hE : nbl a * 30103 / 100000 = E at *
  have hcv := fun w => (hc w).2
  have hqu := fun w => (hc w).1
  replace hlt := Hd.mk hlt
  replace hdg := Hd.mk hdg
  replace hE := Hd.mk hE
  replace hx := Hd.mk hx
  replace hra := Hd.mk hra
  replace hsa := Hd.mk hsa
  replace hg := Hd.mk hg
  replace hc := Hd.mk hc
  replace hmp := Hd.mk hmp
  replace hL2 := Hd.mk hL2
  replace hdl := Hd.mk hdl
  have hEB : E ≤ 154 := by have := hE.out; omega
  have hw1 : IntKind.i64.wrap ((E : Int) + 1) = (E : Int) + 1 := IntWalk.i64_in _ (by omega)
  have hw2 : IntKind.i64.wrap ((E : Int) + 1 + 1) = (E : Int) + 1 + 1 := IntWalk.i64_in _ (by omega)
  cases neg
  · replace hN : askN a false = E + 1 := hN
    rw [hN, show ((E + 1 : Nat) : Int) = (E : Int) + 1 by omega] at hmk
    replace hN := Hd.mk hN
    go_enter_defers Tryz.func229, Tryz.ntmps229
    go_wp2_with fail
    refine (hbl.out _ (Below.refl _ _)).mono ?_
    rintro e w' ⟨rfl, rfl⟩
    go_wp2_with fail
    refine (hL2.out _).mono ?_
    rintro e w' ⟨rfl, rfl⟩
    go_wp2_with fail
    have hsz : (w.alloc (.cells (madeCells #[.int .u8 0] (E + 1)) 5)).heap.size = w.heap.size + 1 := Array.size_push _
    refine (getStack_any _).mono ?_
    rintro e w2 ⟨rfl, hw2'⟩
    rw [hsz]
    have hbw : Below w.heap.size w w2 := by
      subst hw2'
      exact ((Below.refl _ _).alloc (Nat.le_refl _) _).alloc (by rw [hsz]; omega) _
    have hT : w2.cell? ⟨w.heap.size + 1, 0, none⟩ = some (.pointer none) := by
      subst hw2'
      have := (Blk.new (w.alloc (.cells (madeCells #[.int .u8 0] (E + 1)) 5)) #[.pointer none] 220).cell 0
      rw [hsz] at this
      simpa using this
    have hSb : Blk w2 w.heap.size 5 (madeCells #[.int .u8 0] (E + 1)).toList := by
      subst hw2'
      exact (Blk.new w (madeCells #[.int .u8 0] (E + 1)) 5).alloc _
    have hsz2 : w2.heap.size = w.heap.size + 2 := by subst hw2'; exact (Array.size_push _).trans (by rw [hsz])
    have hxl : (madeCells #[.int .u8 0] (E + 1)).toList.length = E + 1 := by simp [made_size]
    generalize (madeCells #[.int .u8 0] (E + 1)).toList = xs at *
    replace hw2' := Hd.mk hw2'
    have hdv := Hd.mk fun stk => divisors_any stk (.int .u64 10) (.int .i64 19) (.int .u64 10000000000000000000) (wlen a) w2 (hg.out.below hbw) ha
    replace hset := Hd.mk (hset.out w2 hbw)
    replace hbw := Hd.mk hbw
    replace hSb := Hd.mk hSb
    replace hsz := Hd.mk hsz
    replace hsz2 := Hd.mk hsz2
    go_wp2_with fail
    refine (hmp.out _).mono ?_
    rintro e w' ⟨rfl, rfl⟩
    go_wp2_with fail
    refine (hdv.out _).mono ?_
    rintro e w' ⟨rfl, rfl⟩
    go_wp2_with fail
    refine hset.out.mono ?_
    rintro e w3 ⟨v3, rfl, o3, hv3, hc3, ho3⟩
    have hcw := Hd.mk fun stk => convertWords_any stk .nilIface v3 a (E + 1) w.heap.size (fun k => k ≠ w.heap.size ∧ k < w2.heap.size) o3 xs w3 hv3 (Nat.lt_of_lt_of_le hlt.out hdg.out) (by omega) (by omega) (by omega) (hc3.blk hSb.out (by simp)) hxl.symm (fun h => h.1 rfl) (fun K e => by
      rcases ho3 with rfl | ⟨K', rfl, h⟩
      · cases e
      · cases e; exact ⟨fun hp => by omega, by have := hsz2.out; omega⟩)
    replace hv3 := Hd.mk hv3
    replace hc3 := Hd.mk hc3
    replace ho3 := Hd.mk ho3
    go_wp2_with fail
    refine (hcw.out _).mono ?_
    rintro e w4 ⟨rfl, hkeep, hblk⟩
    replace hkeep := Hd.mk hkeep
    replace hblk := Hd.mk hblk
    have hT4 : w4.cell? ⟨w.heap.size + 1, 0, none⟩ = some (.pointer none) := by
      have h1 : w4.heap[w.heap.size + 1]? = w2.heap[w.heap.size + 1]? := (hkeep.out.block _ ⟨by omega, by rw [hsz2.out]; omega⟩ (by have := hc3.out.size; rw [hsz2.out] at this; omega)).trans (hc3.out.block _ (by rw [hsz2.out]; omega) (by simp))
      exact (World.cell?_of_block (w := w2) (a := ⟨w.heap.size + 1, 0, none⟩) h1).trans hT
    replace hT := Hd.mk hT
    go_wp2
    go_loopw [7] (fun i wr => ∃ p : Nat, p + dlen a ≤ E + 1 ∧ i = .int .i64 p ∧ wr = w4) (fun i _ => E + 1 - (intOf i).toNat)
    case atStart => exact ⟨0, by have := hdl.out; omega, rfl, rfl⟩
    case round =>
      obtain ⟨p, hp, rfl, rfl⟩ := hrel
      have hpE : p < E + 1 := by have := dlen_pos a; omega
      have g1 : wr.cell? ⟨w.heap.size, p, none⟩ = some (.int .u8 ((48 + dgt a (E + 1) p : Nat) : Int)) := by
        rw [hblk.out.cell, gen_get, if_pos ⟨Nat.zero_le _, by omega⟩]; rfl
      by_cases hlast : p + dlen a = E + 1
      · have hne := dgt_first (n := E + 1) h0 (by omega)
        rw [show E + 1 - dlen a = p by omega] at hne
        have hd : (((48 + dgt a (E + 1) p : Nat) : Int) == 48) = false := by simp; omega
        generalize 48 + dgt a (E + 1) p = D at *
        replace hne := Hd.mk hne
        have hchg : Chg w wr none := ⟨hkeep.out.os.trans (hc3.out.os.trans hbw.out.os), hkeep.out.tape.trans (hc3.out.tape.trans hbw.out.tape), hkeep.out.output.trans (hc3.out.output.trans hbw.out.output), Nat.le_trans hbw.out.size (Nat.le_trans hc3.out.size hkeep.out.size), fun k hk _ => (hkeep.out.block k ⟨by omega, by rw [hsz2.out]; omega⟩ (Nat.lt_of_lt_of_le hk (Nat.le_trans hbw.out.size hc3.out.size))).trans ((hc3.out.block k (Nat.lt_of_lt_of_le hk hbw.out.size) (by simp)).trans (hbw.out.block k hk))⟩
        replace hchg := Hd.mk hchg
        go_wp2
        refine leaves_cons (f := 247) (args := #[.pointer (some ⟨w.heap.size + 1, 0, none⟩)]) (by simp) (by rfl) ?_
        refine (free_deferred _ _ _ hT4).mono ?_
        rintro e u w' ⟨rfl, rfl, rfl⟩
        refine ⟨_, results_tmp rfl _ _ _, w.heap.size, E + 1, p, rfl, hchg.out, Nat.le_refl _, gen xs 0 (dgv a (E + 1)), by rw [gen_length, hxl], by omega, hblk.out, by simpa using hlast, fun j hj => ?_⟩
        rw [gen_get, if_pos ⟨Nat.zero_le _, by omega⟩]
        unfold dgv dgt
        rw [show E + 1 - 1 - (p + j) = dlen a - 1 - j by omega]
      · have hz := dgt_lead (a := a) (n := E + 1) (p := p) (by omega)
        rw [hz] at g1
        replace hz := Hd.mk hz
        go_wp2
        refine ⟨⟨p + 1, by omega, rfl, trivial⟩, ?_⟩
        simp [intOf]; omega
  · replace hN : askN a true = E + 2 := hN
    rw [hN, show ((E + 2 : Nat) : Int) = (E : Int) + 1 + 1 by omega] at hmk
    replace hN := Hd.mk hN
    go_enter_defers Tryz.func229, Tryz.ntmps229
    go_wp2_with fail
    refine (hbl.out _ (Below.refl _ _)).mono ?_
    rintro e w' ⟨rfl, rfl⟩
    go_wp2_with fail
    refine (hL2.out _).mono ?_
    rintro e w' ⟨rfl, rfl⟩
    go_wp2_with fail
    have hsz : (w.alloc (.cells (madeCells #[.int .u8 0] (E + 2)) 5)).heap.size = w.heap.size + 1 := Array.size_push _
    refine (getStack_any _).mono ?_
    rintro e w2 ⟨rfl, hw2'⟩
    rw [hsz]
    have hbw : Below w.heap.size w w2 := by
      subst hw2'
      exact ((Below.refl _ _).alloc (Nat.le_refl _) _).alloc (by rw [hsz]; omega) _
    have hT : w2.cell? ⟨w.heap.size + 1, 0, none⟩ = some (.pointer none) := by
      subst hw2'
      have := (Blk.new (w.alloc (.cells (madeCells #[.int .u8 0] (E + 2)) 5)) #[.pointer none] 220).cell 0
      rw [hsz] at this
      simpa using this
    have hSb : Blk w2 w.heap.size 5 (madeCells #[.int .u8 0] (E + 2)).toList := by
      subst hw2'
      exact (Blk.new w (madeCells #[.int .u8 0] (E + 2)) 5).alloc _
    have hsz2 : w2.heap.size = w.heap.size + 2 := by subst hw2'; exact (Array.size_push _).trans (by rw [hsz])
    have hxl : (madeCells #[.int .u8 0] (E + 2)).toList.length = E + 2 := by simp [made_size]
    generalize (madeCells #[.int .u8 0] (E + 2)).toList = xs at *
    replace hw2' := Hd.mk hw2'
    have hdv := Hd.mk fun stk => divisors_any stk (.int .u64 10) (.int .i64 19) (.int .u64 10000000000000000000) (wlen a) w2 (hg.out.below hbw) ha
    replace hset := Hd.mk (hset.out w2 hbw)
    replace hbw := Hd.mk hbw
    replace hSb := Hd.mk hSb
    replace hsz := Hd.mk hsz
    replace hsz2 := Hd.mk hsz2
    go_wp2_with fail
    refine (hmp.out _).mono ?_
    rintro e w' ⟨rfl, rfl⟩
    go_wp2_with fail
    refine (hdv.out _).mono ?_
    rintro e w' ⟨rfl, rfl⟩
    go_wp2_with fail
    refine hset.out.mono ?_
    rintro e w3 ⟨v3, rfl, o3, hv3, hc3, ho3⟩
    have hcw := Hd.mk fun stk => convertWords_any stk .nilIface v3 a (E + 2) w.heap.size (fun k => k ≠ w.heap.size ∧ k < w2.heap.size) o3 xs w3 hv3 (Nat.lt_of_lt_of_le hlt.out (Nat.le_trans hdg.out (Nat.pow_le_pow_right (by decide) (by omega)))) (by omega) (by omega) (by omega) (hc3.blk hSb.out (by simp)) hxl.symm (fun h => h.1 rfl) (fun K e => by
      rcases ho3 with rfl | ⟨K', rfl, h⟩
      · cases e
      · cases e; exact ⟨fun hp => by omega, by have := hsz2.out; omega⟩)
    replace hv3 := Hd.mk hv3
    replace hc3 := Hd.mk hc3
    replace ho3 := Hd.mk ho3
    go_wp2_with fail
    refine (hcw.out _).mono ?_
    rintro e w4 ⟨rfl, hkeep, hblk⟩
    replace hkeep := Hd.mk hkeep
    replace hblk := Hd.mk hblk
    have hT4 : w4.cell? ⟨w.heap.size + 1, 0, none⟩ = some (.pointer none) := by
      have h1 : w4.heap[w.heap.size + 1]? = w2.heap[w.heap.size + 1]? := (hkeep.out.block _ ⟨by omega, by rw [hsz2.out]; omega⟩ (by have := hc3.out.size; rw [hsz2.out] at this; omega)).trans (hc3.out.block _ (by rw [hsz2.out]; omega) (by simp))
      exact (World.cell?_of_block (w := w2) (a := ⟨w.heap.size + 1, 0, none⟩) h1).trans hT
    replace hT := Hd.mk hT
    go_wp2
    go_loopw [7] (fun i wr => ∃ p : Nat, p + dlen a ≤ E + 2 ∧ i = .int .i64 p ∧ wr = w4) (fun i _ => E + 2 - (intOf i).toNat)
    case atStart => exact ⟨0, by have := hdl.out; omega, rfl, rfl⟩
    case round =>
      obtain ⟨p, hp, rfl, rfl⟩ := hrel
      have hpE : p < E + 2 := by have := dlen_pos a; omega
      have g1 : wr.cell? ⟨w.heap.size, p, none⟩ = some (.int .u8 ((48 + dgt a (E + 2) p : Nat) : Int)) := by
        rw [hblk.out.cell, gen_get, if_pos ⟨Nat.zero_le _, by omega⟩]; rfl
      by_cases hlast : p + dlen a = E + 2
      · have hne := dgt_first (n := E + 2) h0 (by omega)
        rw [show E + 2 - dlen a = p by omega] at hne
        have hd : (((48 + dgt a (E + 2) p : Nat) : Int) == 48) = false := by simp; omega
        generalize 48 + dgt a (E + 2) p = D at *
        replace hne := Hd.mk hne
        have hchg : Chg w wr none := ⟨hkeep.out.os.trans (hc3.out.os.trans hbw.out.os), hkeep.out.tape.trans (hc3.out.tape.trans hbw.out.tape), hkeep.out.output.trans (hc3.out.output.trans hbw.out.output), Nat.le_trans hbw.out.size (Nat.le_trans hc3.out.size hkeep.out.size), fun k hk _ => (hkeep.out.block k ⟨by omega, by rw [hsz2.out]; omega⟩ (Nat.lt_of_lt_of_le hk (Nat.le_trans hbw.out.size hc3.out.size))).trans ((hc3.out.block k (Nat.lt_of_lt_of_le hk hbw.out.size) (by simp)).trans (hbw.out.block k hk))⟩
        replace hchg := Hd.mk hchg
        obtain ⟨k, rfl⟩ : ∃ k, p = k + 1 := ⟨p - 1, by have := hdl.out; omega⟩
        have h3 : ∃ v, wr.cell? ⟨w.heap.size, k, none⟩ = some v := ⟨_, by rw [hblk.out.cell, List.getElem?_eq_getElem (by rw [gen_length, hxl]; omega)]⟩
        obtain ⟨v3', h3⟩ := h3
        have h4 := hblk.out.frozen k
        have hp9 := (Put.refl hblk.out).set k (.int .u8 45)
        have hT5 : (wr.setCell ⟨w.heap.size, k, none⟩ (.int .u8 45)).cell? ⟨w.heap.size + 1, 0, none⟩ = some (.pointer none) := (hp9.cell_other (by omega) 0).trans hT4
        replace hp9 := Hd.mk hp9
        go_wp2
        refine leaves_cons (f := 247) (args := #[.pointer (some ⟨w.heap.size + 1, 0, none⟩)]) (by simp) (by rfl) ?_
        refine (free_deferred _ _ _ hT5).mono ?_
        rintro e u w' ⟨rfl, rfl, rfl⟩
        refine ⟨_, results_tmp rfl _ _ _, w.heap.size, E + 2, k, rfl, hchg.out.put hp9.out (.inr (Nat.le_refl _)), Nat.le_refl _, _, by rw [List.length_set, gen_length, hxl], by omega, hp9.out.here, by simp; omega, ?_, fun j hj => ?_⟩
        · first | (intro _; rw [List.getElem?_set, if_pos rfl, if_pos (by rw [gen_length, hxl]; omega)]) | (rw [List.getElem?_set, if_pos rfl, if_pos (by rw [gen_length, hxl]; omega)])
        · rw [List.getElem?_set_ne (by omega), gen_get, if_pos ⟨Nat.zero_le _, by omega⟩]
          unfold dgv dgt
          rw [show E + 2 - 1 - (k + 1 + j) = dlen a - 1 - j by omega]
      · have hz := dgt_lead (a := a) (n := E + 2) (p := p) (by omega)
        rw [hz] at g1
        replace hz := Hd.mk hz
        go_wp2
        refine ⟨⟨p + 1, by omega, rfl, trivial⟩, ?_⟩
        simp [intOf]; omega


/-- A text of bytes lies in a block. -/
def TxtAt (w : World) (S i : Nat) (t : List Nat) : Prop := ∀ j c, t[j]? = some c → w.cell? ⟨S, i + j, none⟩ = some (.int .u8 (c : Nat))
/-- The text of a number. -/
def dtxt (neg : Bool) (a : Nat) : List Nat := (if neg then [45] else []) ++ (List.range (dlen a)).map fun j => 48 + dgt a (dlen a) j
theorem itoa_zero (x : Value) (neg : Bool) (ox : Option Nat) (w : World) (hx : NatS w x 0 ox) :
    Calls Tryz.prog 229 #[x, .bool neg, .int .i64 10] w fun e w' => ∃ S i l, e = .returned (.slice (some ⟨S, i, none⟩) l l) ∧ Chg w w' none ∧ w.heap.size ≤ S ∧ l = (dtxt false 0).length ∧ TxtAt w' S i (dtxt false 0) := by
  obtain ⟨A, ca, rfl, hla, hca, hra, hsa⟩ := hx.open
  rw [wlen_zero] at *
  replace hsa := Hd.mk hsa
  replace hra := Hd.mk hra
  replace hx := Hd.mk hx
  have hd : dtxt false 0 = [48] := by
    have : dlen 0 = 1 := by rw [dlen]; rfl
    unfold dtxt; rw [this]; rfl
  rw [hd]
  replace hd := Hd.mk hd
  have hcv := Lib.run_convert_bytes_const (P := Tryz.prog) w 22 5 #[.int .u8 48] 1 1 Tryz.underlying22 (by kernel_rfl)
  go_enter_defers Tryz.func229, Tryz.ntmps229
  go_wp2
  refine ⟨_, results_tmp rfl _ _ _, w.heap.size, 0, 1, rfl, Chg.of_below ((Below.refl _ _).alloc (Nat.le_refl _) _) none, Nat.le_refl _, rfl, fun j c hj => ?_⟩
  obtain rfl : j = 0 := by
    rcases j with _ | j
    · rfl
    · simp at hj
  obtain rfl : 48 = c := by simpa using hj
  have h : (w.alloc (.cells #[.int .u8 48] 5 (1, 2))).heap[w.heap.size]? = some (.cells #[.int .u8 48] 5 (1, 2)) := Array.getElem?_push_size
  show ((w.alloc (.cells #[.int .u8 48] 5 (1, 2))).cell? ⟨w.heap.size, 0, none⟩) = _
  unfold World.cell?
  rw [h]
  rfl

theorem dtxt_get (neg : Bool) (a j : Nat) : (dtxt neg a)[j]? = if neg = true ∧ j = 0 then some 45 else (if j - (if neg then 1 else 0) < dlen a then some (48 + dgt a (dlen a) (j - (if neg then 1 else 0))) else none) := by
  unfold dtxt
  cases neg
  · simp [List.getElem?_range']
    split <;> simp_all [List.getElem?_eq_none]
  · rcases j with _ | j
    · simp
    · simp
      split <;> simp_all [List.getElem?_eq_none]
theorem dtxt_length (neg : Bool) (a : Nat) : (dtxt neg a).length = dlen a + (if neg then 1 else 0) := by
  unfold dtxt; cases neg <;> simp
theorem itoa_any (x : Value) (a : Nat) (neg : Bool) (ox : Option Nat) (w : World) (hx : NatS w x a ox) (ha : wlen a ≤ 8) (hg : Gl w) :
    Calls Tryz.prog 229 #[x, .bool neg, .int .i64 10] w fun e w' => ∃ S i l, e = .returned (.slice (some ⟨S, i, none⟩) l l) ∧ Chg w w' none ∧ w.heap.size ≤ S ∧ l = (dtxt (neg && a != 0) a).length ∧ TxtAt w' S i (dtxt (neg && a != 0) a) := by
  by_cases h0 : a = 0
  · subst h0
    rw [show (neg && (0 : Nat) != 0) = false by simp]
    exact itoa_zero x neg ox w hx
  · rw [show (neg && a != 0) = neg by simp [h0]]
    refine (itoa_pos x a neg ox w hx ha h0 hg).mono ?_
    rintro e w' ⟨S, n, i, ys, rfl, hc, hS, hn, hn2, hb, hsum, hneg, hd⟩
    refine ⟨S, i, n - i, rfl, hc, hS, by rw [dtxt_length]; omega, fun j c hj => ?_⟩
    rw [hb.cell]
    rw [dtxt_get] at hj
    by_cases h1 : neg = true ∧ j = 0
    · rw [if_pos h1] at hj
      obtain ⟨h1, rfl⟩ := h1
      obtain rfl : 45 = c := by simpa using hj
      exact hneg h1
    · rw [if_neg h1] at hj
      by_cases h2 : j - (if neg = true then 1 else 0) < dlen a
      · rw [if_pos h2] at hj
        obtain rfl : 48 + dgt a (dlen a) (j - (if neg = true then 1 else 0)) = c := Option.some.inj hj
        have h3 := hd _ h2
        have h4 : i + (if neg = true then 1 else 0) + (j - (if neg = true then 1 else 0)) = i + j := by
          cases neg
          · simp
          · simp at h1 ⊢; omega
        rw [h4] at h3
        exact h3
      · rw [if_neg h2] at hj; cases hj
end Go.Proofs.YtdbjdpooggaonaaGreatDoor
end

section
namespace Go.Proofs.YtdbjdpooggaonaaGreatDoor
open Go.RowKit

/-- An Int at block B: the number z, its words in block o. -/
def IntAt (w : World) (B : Nat) (z : Int) (o : Option Nat) : Prop :=
  ∃ v, Blk w B 106 [.bool (decide (z < 0)), v] ∧ NatS w v z.natAbs o
/-- The Ints S, each with words of its own, none of them in a block of P. -/
structure St (P : Nat → Prop) (w : World) (S : Nat → Option Int) (own : Nat → Option Nat) : Prop where
  gl : Gl w
  pg : ∀ k, k < 16 → P k
  pl : ∀ k, P k → k < w.heap.size
  at_ : ∀ B z, S B = some z → IntAt w B z (own B)
  np : ∀ B z, S B = some z → ¬ P B
  no : ∀ B z K, S B = some z → own B = some K → ¬ P K ∧ S K = none
  ap : ∀ B B' z z' K, S B = some z → S B' = some z' → own B = some K → own B' = some K → B = B'
def Ints (P : Nat → Prop) (w : World) (S : Nat → Option Int) : Prop := ∃ own, St P w S own
def upd (S : Nat → Option Int) (B : Nat) (z : Int) : Nat → Option Int := fun k => if k = B then some z else S k
section
variable {P Q : Nat → Prop} {w w' w'' w1 : World} {S S' : Nat → Option Int} {own : Nat → Option Nat} {B B' B1 B2 K m : Nat} {z z' z0 z1 z2 : Int} {v v1 v2 : Value} {o o' o1 o2 : Option Nat}
theorem upd_same : upd S B z B = some z := by simp [upd]
theorem upd_ne (h : K ≠ B) : upd S B z K = S K := by simp [upd, h]
theorem Keep.trans (h : Keep P w w') (k : Keep P w' w'') : Keep P w w'' :=
  ⟨k.os.trans h.os, k.tape.trans h.tape, k.output.trans h.output, Nat.le_trans h.size k.size, fun i hp hi => (k.block i hp (Nat.lt_of_lt_of_le hi h.size)).trans (h.block i hp hi)⟩
theorem Keep.sub (h : Keep Q w w') (hs : ∀ k, P k → Q k) : Keep P w w' := ⟨h.os, h.tape, h.output, h.size, fun k hp hk => h.block k (hs k hp) hk⟩
theorem Keep.of_below (h : Below w.heap.size w w') : Keep P w w' := ⟨h.os, h.tape, h.output, h.size, fun k _ hk => h.block k hk⟩
theorem Keep.below (h : Keep P w w') (hP : ∀ k, k < w.heap.size → P k) : Below w.heap.size w w' := ⟨h.os, h.tape, h.output, h.size, fun k hk => h.block k (hP k hk) hk⟩
theorem Keep.drewN (w : World) (n : Nat) : Keep P w (w.drewN n) := ⟨rfl, rfl, rfl, Nat.le_refl _, fun _ _ _ => rfl⟩
theorem Keep.blk {E : TypeId} {xs : List Value} (h : Keep P w w') (hb : Blk w K E xs) (hP : P K) : Blk w' K E xs := hb.of_heap (h.block K hP hb.lt)
theorem IntAt.lt (h : IntAt w B z o) : B < w.heap.size := by obtain ⟨v, h, _⟩ := h; exact h.lt
theorem IntAt.own_lt (h : IntAt w B z o) (ho : o = some K) : K < w.heap.size := by obtain ⟨v, _, h⟩ := h; exact h.lt ho
theorem IntAt.of_heap (h : IntAt w B z o) (e1 : w'.heap[B]? = w.heap[B]?) (e2 : ∀ K, o = some K → w'.heap[K]? = w.heap[K]?) : IntAt w' B z o := by
  obtain ⟨v, h1, h2⟩ := h
  exact ⟨v, h1.of_heap e1, h2.of_heap e2⟩
theorem St.below (h : St P w S own) (hb : Below w.heap.size w w') (hg : ∀ k, k < 16 → Q k) (hQ : ∀ k, Q k → P k ∨ (w.heap.size ≤ k ∧ k < w'.heap.size)) : St Q w' S own where
  gl := h.gl.below hb
  pg := hg
  pl k hk := by
    rcases hQ k hk with h1 | h1
    · exact Nat.lt_of_lt_of_le (h.pl k h1) hb.size
    · exact h1.2
  at_ B z hB := (h.at_ B z hB).of_heap (hb.block B (h.at_ B z hB).lt) fun K hK => hb.block K ((h.at_ B z hB).own_lt hK)
  np B z hB hq := by
    rcases hQ B hq with h1 | h1
    · exact h.np B z hB h1
    · have := (h.at_ B z hB).lt; omega
  no B z K hB hK := ⟨fun hq => by
    rcases hQ K hq with h1 | h1
    · exact (h.no B z K hB hK).1 h1
    · have := (h.at_ B z hB).own_lt hK; omega, (h.no B z K hB hK).2⟩
  ap := h.ap
/-- New blocks, some of them to be kept from now on. -/
theorem Ints.more (h : Ints P w S) (hb : Below w.heap.size w w') (hg : ∀ k, k < 16 → Q k) (hQ : ∀ k, Q k → P k ∨ (w.heap.size ≤ k ∧ k < w'.heap.size)) : Ints Q w' S := by
  obtain ⟨own, h⟩ := h
  exact ⟨own, h.below hb hg hQ⟩
theorem Ints.below (h : Ints P w S) (hb : Below w.heap.size w w') : Ints P w' S := by
  obtain ⟨own, h⟩ := h
  exact ⟨own, h.below hb h.pg fun k hk => .inl hk⟩
theorem Ints.drewN (h : Ints P w S) (n : Nat) : Ints P (w.drewN n) S := h.below ⟨rfl, rfl, rfl, Nat.le_refl _, fun _ _ => rfl⟩
theorem Ints.less (h : Ints P w S) (hg : ∀ k, k < 16 → Q k) (hQ : ∀ k, Q k → P k) : Ints Q w S := h.more (Below.refl _ _) hg fun k hk => .inl (hQ k hk)
theorem Ints.sub (h : Ints P w S) (hS : ∀ k z, S' k = some z → S k = some z) : Ints P w S' := by
  obtain ⟨own, h⟩ := h
  refine ⟨own, ⟨h.gl, h.pg, h.pl, fun B z hB => h.at_ B z (hS B z hB), fun B z hB => h.np B z (hS B z hB), fun B z K hB hK => ⟨(h.no B z K (hS B z hB) hK).1, ?_⟩, fun B B' z z' K h1 h2 => h.ap B B' z z' K (hS B z h1) (hS B' z' h2)⟩⟩
  cases e : S' K with
  | none => rfl
  | some y => have := hS K y e; rw [(h.no B z K (hS B z hB) hK).2] at this; cases this
theorem Ints.gl (h : Ints P w S) : Gl w := by obtain ⟨own, h⟩ := h; exact h.gl
theorem Ints.pg (h : Ints P w S) : ∀ k, k < 16 → P k := by obtain ⟨own, h⟩ := h; exact h.pg
theorem Ints.pl (h : Ints P w S) : ∀ k, P k → k < w.heap.size := by obtain ⟨own, h⟩ := h; exact h.pl
theorem Ints.np (h : Ints P w S) (hB : S B = some z) : ¬ P B := by obtain ⟨own, h⟩ := h; exact h.np B z hB
theorem Ints.lt (h : Ints P w S) (hB : S B = some z) : B < w.heap.size := by obtain ⟨own, h⟩ := h; exact (h.at_ B z hB).lt
theorem Ints.fresh (h : Ints P w S) (hK : w.heap.size ≤ K) : S K = none := by
  cases e : S K with
  | none => rfl
  | some y => have := h.lt e; omega
theorem Ints.ne (_h : Ints P w S) (hB : S B = some z) (hK : S K = none) : B ≠ K := fun e => by rw [e, hK] at hB; cases hB
/-- One Int turned. -/
theorem St.write (h : St P w S own) (hB : S B = some z0) (hr : NatR w w1 (own B) m v) (hp : Put w1 w' B 106 [.bool (decide (z' < 0)), v]) (hm : m = z'.natAbs) : Keep P w w' ∧ Ints P w' (upd S B z') := by
  obtain ⟨o', hn, hc, ho⟩ := hr
  subst hm
  have hlt := (h.at_ B z0 hB).lt
  have hoP : ∀ K, o' = some K → ¬ P K ∧ S K = none := fun K hK => by
    rcases ho with rfl | ⟨K', rfl, hk⟩
    · exact h.no B z0 K hB hK
    · obtain rfl : K' = K := Option.some.inj hK
      refine ⟨fun hp => by have := h.pl K' hp; omega, ?_⟩
      cases e : S K' with
      | none => rfl
      | some y => have := (h.at_ K' y e).lt; omega
  have hoB : o' ≠ some B := fun e => by have := (hoP B e).2; rw [hB] at this; cases this
  have hblk : ∀ k, k < w.heap.size → k ≠ B → own B ≠ some k → w'.heap[k]? = w.heap[k]? := fun k hk h1 h2 => (hp.other k h1).trans (hc.block k hk h2)
  refine ⟨⟨hp.os.trans hc.os, hp.tape.trans hc.tape, hp.output.trans hc.output, by rw [hp.size]; exact hc.size, fun k hk hl => hblk k hl (fun e => h.np B z0 hB (by rw [← e]; exact hk)) (fun e => (h.no B z0 k hB e).1 hk)⟩, fun k => if k = B then o' else own k, ?_⟩
  have key : ∀ k y, upd S B z' k = some y → (k = B ∧ y = z') ∨ (k ≠ B ∧ S k = some y) := fun k y hk => by
    unfold upd at hk
    by_cases e : k = B
    · rw [if_pos e] at hk; cases hk; exact .inl ⟨e, rfl⟩
    · rw [if_neg e] at hk; exact .inr ⟨e, hk⟩
  refine ⟨?_, h.pg, fun k hk => by rw [hp.size]; exact Nat.lt_of_lt_of_le (h.pl k hk) hc.size, ?_, ?_, ?_, ?_⟩
  · have key : ∀ g x, g < 16 → w.cell? ⟨g, 0, none⟩ = some x → w'.cell? ⟨g, 0, none⟩ = some x := fun g x hg hx => by
      rw [← hx]
      exact World.cell?_of_block (w := w) (hblk g (World.block_lt_of_cell? w _ hx) (fun e => h.np B z0 hB (e ▸ h.pg g hg)) (fun e => (h.no B z0 g hB e).1 (h.pg g hg)))
    exact h.gl.of_cells key
  · intro k y hk
    rcases key k y hk with ⟨rfl, rfl⟩ | ⟨h1, h2⟩
    · simp only [if_true]
      exact ⟨v, hp.here, hn.of_heap fun K hK => hp.other K (fun e => hoB (e ▸ hK))⟩
    · simp only [h1, if_false]
      exact (h.at_ k y h2).of_heap (hblk k (h.at_ k y h2).lt h1 (fun e => by have := (h.no B z0 k hB e).2; rw [h2] at this; cases this)) fun K hK =>
        hblk K ((h.at_ k y h2).own_lt hK) (fun e => by have := (h.no k y K h2 hK).2; rw [e, hB] at this; cases this) (fun e => h1 (h.ap k B y z0 K h2 hB hK e))
  · intro k y hk
    rcases key k y hk with ⟨rfl, rfl⟩ | ⟨h1, h2⟩
    · exact h.np k z0 hB
    · exact h.np k y h2
  · intro k y K hk
    rcases key k y hk with ⟨rfl, rfl⟩ | ⟨h1, h2⟩
    · simp only [if_true]
      intro hK
      exact ⟨(hoP K hK).1, by rw [upd_ne (fun e => hoB (by rw [hK, e]))]; exact (hoP K hK).2⟩
    · simp only [h1, if_false]
      intro hK
      exact ⟨(h.no k y K h2 hK).1, by rw [upd_ne (fun e => by have := (h.no k y K h2 hK).2; rw [e, hB] at this; cases this)]; exact (h.no k y K h2 hK).2⟩
  · intro k k' y y' K hk hk'
    rcases key k y hk with ⟨rfl, rfl⟩ | ⟨h1, h2⟩ <;> rcases key k' y' hk' with ⟨rfl, rfl⟩ | ⟨h3, h4⟩
    · intros; rfl
    · simp only [if_true, h3, if_false]
      intro hK hK'
      rcases ho with rfl | ⟨K', rfl, hk⟩
      · exact absurd (h.ap k k' z0 y' K hB h4 hK hK').symm h3
      · cases hK
        have := (h.at_ k' y' h4).own_lt hK'; omega
    · simp only [if_true, h1, if_false]
      intro hK hK'
      rcases ho with rfl | ⟨K', rfl, hk⟩
      · exact absurd (h.ap k' k z0 y K hB h2 hK' hK).symm h1
      · cases hK'
        have := (h.at_ k y h2).own_lt hK; omega
    · simp only [h1, h3, if_false]
      exact h.ap k k' y y' K h2 h4
/-- What a division leaves: a quotient and a rest, in their old rows or in new ones. -/
structure DivR (w w' : World) (oz o2 : Option Nat) (q r : Nat) (vq vr : Value) (oq orr : Option Nat) : Prop where
  hq : NatS w' vq q oq
  hr : NatS w' vr r orr
  os : w'.os = w.os
  tape : w'.tape = w.tape
  output : w'.output = w.output
  size : w.heap.size ≤ w'.heap.size
  block : ∀ k, k < w.heap.size → oz ≠ some k → o2 ≠ some k → w'.heap[k]? = w.heap[k]?
  fq : oq = oz ∨ ∃ K, oq = some K ∧ w.heap.size ≤ K
  fr : orr = o2 ∨ ∃ K, orr = some K ∧ w.heap.size ≤ K
  ne : ∀ K, oq = some K → orr ≠ some K
/-- A new Int. -/
theorem St.fresh (h : St P w S own) (hb : Below w.heap.size w w') (hB : w.heap.size ≤ B) (hi : IntAt w' B z o) (ho : ∀ K, o = some K → w.heap.size ≤ K ∧ K ≠ B) : Keep P w w' ∧ Ints P w' (upd S B z) := by
  have h' := h.below hb h.pg fun k hk => .inl hk
  refine ⟨.of_below hb, fun k => if k = B then o else own k, ?_⟩
  have hold : ∀ k y, S k = some y → k < w.heap.size := fun k y hk => (h.at_ k y hk).lt
  have key : ∀ k y, upd S B z k = some y → (k = B ∧ y = z) ∨ (k ≠ B ∧ S k = some y) := fun k y hk => by
    unfold upd at hk
    by_cases e : k = B
    · rw [if_pos e] at hk; cases hk; exact .inl ⟨e, rfl⟩
    · rw [if_neg e] at hk; exact .inr ⟨e, hk⟩
  refine ⟨h'.gl, h'.pg, h'.pl, ?_, ?_, ?_, ?_⟩
  · intro k y hk
    rcases key k y hk with ⟨rfl, rfl⟩ | ⟨h1, h2⟩
    · simp only [if_true]; exact hi
    · simp only [h1, if_false]; exact h'.at_ k y h2
  · intro k y hk
    rcases key k y hk with ⟨rfl, rfl⟩ | ⟨h1, h2⟩
    · intro hp; have := h.pl k hp; omega
    · exact h'.np k y h2
  · intro k y K hk
    rcases key k y hk with ⟨rfl, rfl⟩ | ⟨h1, h2⟩
    · simp only [if_true]
      intro hK
      obtain ⟨h3, h4⟩ := ho K hK
      refine ⟨fun hp => by have := h.pl K hp; omega, ?_⟩
      rw [upd_ne h4]
      cases e : S K with
      | none => rfl
      | some y => have := hold K y e; omega
    · simp only [h1, if_false]
      intro hK
      refine ⟨(h'.no k y K h2 hK).1, ?_⟩
      have := (h.at_ k y h2).own_lt hK
      rw [upd_ne (by omega)]
      exact (h'.no k y K h2 hK).2
  · intro k k' y y' K hk hk'
    rcases key k y hk with ⟨rfl, rfl⟩ | ⟨h1, h2⟩ <;> rcases key k' y' hk' with ⟨rfl, rfl⟩ | ⟨h3, h4⟩
    · intros; rfl
    · simp only [if_true, h3, if_false]
      intro hK hK'
      have := (h.at_ k' y' h4).own_lt hK'
      have := (ho K hK).1; omega
    · simp only [if_true, h1, if_false]
      intro hK hK'
      have := (h.at_ k y h2).own_lt hK
      have := (ho K hK').1; omega
    · simp only [h1, h3, if_false]
      exact h.ap k k' y y' K h2 h4
/-- Two Ints turned by a division. -/
theorem St.write2 (h : St P w S own) (hB1 : S B1 = some z0) (hB2 : S B2 = some z1) (hne : B1 ≠ B2) {a b : Nat} {oq orr : Option Nat} (hd : DivR w w1 (own B1) (own B2) a b v1 v2 oq orr)
    (hb1 : Blk w' B1 106 [.bool (decide (z < 0)), v1]) (hb2 : Blk w' B2 106 [.bool (decide (z' < 0)), v2]) (hos : w'.os = w1.os) (htape : w'.tape = w1.tape) (hout : w'.output = w1.output) (hsz : w'.heap.size = w1.heap.size)
    (hoth : ∀ k, k ≠ B1 → k ≠ B2 → w'.heap[k]? = w1.heap[k]?) (ha : a = z.natAbs) (hb : b = z'.natAbs) : Keep P w w' ∧ Ints P w' (upd (upd S B1 z) B2 z') := by
  subst ha hb
  have hfree : ∀ K, w.heap.size ≤ K → ¬ P K ∧ S K = none := fun K hk => by
    refine ⟨fun hp => by have := h.pl K hp; omega, ?_⟩
    cases e : S K with
    | none => rfl
    | some y => have := (h.at_ K y e).lt; omega
  have hqP : ∀ K, oq = some K → ¬ P K ∧ S K = none := fun K hK => by
    rcases hd.fq with e | ⟨K', e, hk⟩
    · exact h.no B1 z0 K hB1 (e ▸ hK)
    · rw [e] at hK; obtain rfl : K' = K := Option.some.inj hK; exact hfree K' hk
  have hrP : ∀ K, orr = some K → ¬ P K ∧ S K = none := fun K hK => by
    rcases hd.fr with e | ⟨K', e, hk⟩
    · exact h.no B2 z1 K hB2 (e ▸ hK)
    · rw [e] at hK; obtain rfl : K' = K := Option.some.inj hK; exact hfree K' hk
  have hn1 : ∀ K, S K = none → K ≠ B1 ∧ K ≠ B2 := fun K hK => ⟨fun e => (by rw [e, hB1] at hK; cases hK), fun e => (by rw [e, hB2] at hK; cases hK)⟩
  have hblk : ∀ k, k < w.heap.size → k ≠ B1 → k ≠ B2 → own B1 ≠ some k → own B2 ≠ some k → w'.heap[k]? = w.heap[k]? := fun k hk h1 h2 h3 h4 => (hoth k h1 h2).trans (hd.block k hk h3 h4)
  refine ⟨⟨hos.trans hd.os, htape.trans hd.tape, hout.trans hd.output, by rw [hsz]; exact hd.size, fun k hk hl => hblk k hl (fun e => h.np B1 z0 hB1 (e ▸ hk)) (fun e => h.np B2 z1 hB2 (e ▸ hk)) (fun e => (h.no B1 z0 k hB1 e).1 hk) (fun e => (h.no B2 z1 k hB2 e).1 hk)⟩, fun k => if k = B1 then oq else if k = B2 then orr else own k, ?_⟩
  have key : ∀ k y, upd (upd S B1 z) B2 z' k = some y → (k = B1 ∧ y = z) ∨ (k = B2 ∧ k ≠ B1 ∧ y = z') ∨ (k ≠ B1 ∧ k ≠ B2 ∧ S k = some y) := fun k y hk => by
    unfold upd at hk
    by_cases e2 : k = B2
    · rw [if_pos e2] at hk; cases hk; exact .inr (.inl ⟨e2, fun e => hne (e.symm.trans e2), rfl⟩)
    · rw [if_neg e2] at hk
      by_cases e1 : k = B1
      · rw [if_pos e1] at hk; cases hk; exact .inl ⟨e1, rfl⟩
      · rw [if_neg e1] at hk; exact .inr (.inr ⟨e1, e2, hk⟩)
  have hun : ∀ K, S K = none → upd (upd S B1 z) B2 z' K = none := fun K hK => by rw [upd_ne (hn1 K hK).2, upd_ne (hn1 K hK).1, hK]
  refine ⟨?_, h.pg, fun k hk => by rw [hsz]; exact Nat.lt_of_lt_of_le (h.pl k hk) hd.size, ?_, ?_, ?_, ?_⟩
  · have key : ∀ g x, g < 16 → w.cell? ⟨g, 0, none⟩ = some x → w'.cell? ⟨g, 0, none⟩ = some x := fun g x hg hx => by
      rw [← hx]
      have hk := h.pg g hg
      exact World.cell?_of_block (w := w) (hblk g (World.block_lt_of_cell? w _ hx) (fun e => h.np B1 z0 hB1 (e ▸ hk)) (fun e => h.np B2 z1 hB2 (e ▸ hk)) (fun e => (h.no B1 z0 g hB1 e).1 hk) (fun e => (h.no B2 z1 g hB2 e).1 hk))
    exact h.gl.of_cells key
  · intro k y hk
    rcases key k y hk with ⟨rfl, rfl⟩ | ⟨rfl, h1, rfl⟩ | ⟨h1, h2, h3⟩
    · simp only [if_true]
      exact ⟨v1, hb1, hd.hq.of_heap fun K hK => hoth K (hn1 K (hqP K hK).2).1 (hn1 K (hqP K hK).2).2⟩
    · simp only [h1, if_true, if_false]
      exact ⟨v2, hb2, hd.hr.of_heap fun K hK => hoth K (hn1 K (hrP K hK).2).1 (hn1 K (hrP K hK).2).2⟩
    · simp only [h1, h2, if_false]
      have hkn : S k ≠ none := by rw [h3]; exact fun e => by cases e
      exact (h.at_ k y h3).of_heap (hblk k (h.at_ k y h3).lt h1 h2 (fun e => hkn (h.no B1 z0 k hB1 e).2) (fun e => hkn (h.no B2 z1 k hB2 e).2)) fun K hK =>
        hblk K ((h.at_ k y h3).own_lt hK) (hn1 K (h.no k y K h3 hK).2).1 (hn1 K (h.no k y K h3 hK).2).2 (fun e => h1 (h.ap k B1 y z0 K h3 hB1 hK e)) (fun e => h2 (h.ap k B2 y z1 K h3 hB2 hK e))
  · intro k y hk
    rcases key k y hk with ⟨rfl, rfl⟩ | ⟨rfl, h1, rfl⟩ | ⟨h1, h2, h3⟩
    · exact h.np k z0 hB1
    · exact h.np k z1 hB2
    · exact h.np k y h3
  · intro k y K hk
    rcases key k y hk with ⟨rfl, rfl⟩ | ⟨rfl, h1, rfl⟩ | ⟨h1, h2, h3⟩
    · simp only [if_true]
      exact fun hK => ⟨(hqP K hK).1, hun K (hqP K hK).2⟩
    · simp only [h1, if_true, if_false]
      exact fun hK => ⟨(hrP K hK).1, hun K (hrP K hK).2⟩
    · simp only [h1, h2, if_false]
      exact fun hK => ⟨(h.no k y K h3 hK).1, hun K (h.no k y K h3 hK).2⟩
  · have hq' : ∀ k y K, S k = some y → k ≠ B1 → own k = some K → oq ≠ some K := fun k y K h1 h2 h3 e => by
      rcases hd.fq with e1 | ⟨K', e1, hk⟩
      · exact h2 (h.ap k B1 y z0 K h1 hB1 h3 (e1 ▸ e))
      · rw [e1] at e; cases e
        have := (h.at_ k y h1).own_lt h3; omega
    have hr' : ∀ k y K, S k = some y → k ≠ B2 → own k = some K → orr ≠ some K := fun k y K h1 h2 h3 e => by
      rcases hd.fr with e1 | ⟨K', e1, hk⟩
      · exact h2 (h.ap k B2 y z1 K h1 hB2 h3 (e1 ▸ e))
      · rw [e1] at e; cases e
        have := (h.at_ k y h1).own_lt h3; omega
    intro k k' y y' K hk hk'
    rcases key k y hk with ⟨rfl, rfl⟩ | ⟨rfl, h1, rfl⟩ | ⟨h1, h2, h3⟩ <;> rcases key k' y' hk' with ⟨rfl, rfl⟩ | ⟨rfl, h4, rfl⟩ | ⟨h4, h5, h6⟩
    · intros; rfl
    · simp only [h4, if_true, if_false]
      exact fun e1 e2 => absurd e2 (hd.ne K e1)
    · simp only [h4, h5, if_true, if_false]
      exact fun e1 e2 => absurd e1 (hq' k' y' K h6 h4 e2)
    · simp only [h1, if_true, if_false]
      exact fun e1 e2 => absurd e1 (hd.ne K e2)
    · intros; rfl
    · simp only [h1, h4, h5, if_true, if_false]
      exact fun e1 e2 => absurd e1 (hr' k' y' K h6 h5 e2)
    · simp only [h1, h2, if_true, if_false]
      exact fun e1 e2 => absurd e2 (hq' k y K h3 h1 e1)
    · simp only [h1, h2, h4, if_true, if_false]
      exact fun e1 e2 => absurd e2 (hr' k y K h3 h2 e1)
    · simp only [h1, h2, h4, h5, if_false]
      exact h.ap k k' y y' K h3 h6
end
end Go.Proofs.YtdbjdpooggaonaaGreatDoor
end
