/- The length in bits, and a bit. The logarithm of ten to the base of two, in floating point; how many digits are asked for. Texts of natural numbers. Texts of natural numbers: itoa. Conditions: those that each theorem states. -/
import Derived.Test.YtpabbnogfflgpaaGreatDoorBase05
import Derived.WalkLawsBesides
import Derived.Lib.SlBytesConst
set_option linter.all false

section
namespace Go.Proofs.YtpabbnogfflgpaaGreatDoor
open Go.RowKit
set_option maxRecDepth 100000
theorem bitLen_uniq {x n : Nat} (hx : x < BB) (h0 : x ≠ 0) (h1 : 2 ^ (n - 1) ≤ x) (h2 : x < 2 ^ n) : Lib.bitLen x = n := by
  obtain ⟨i1, i2, i3, i4⟩ := bitLen_spec hx h0
  have j1 : Lib.bitLen x - 1 < n := (Nat.pow_lt_pow_iff_right (by decide : 1 < 2)).1 (Nat.lt_of_le_of_lt i1 h2)
  have j2 : n - 1 < Lib.bitLen x := (Nat.pow_lt_pow_iff_right (by decide : 1 < 2)).1 (Nat.lt_of_le_of_lt h1 i2)
  omega
theorem or_half {t d : Nat} (h : t < BB) : Go.bits BinOp.or IntKind.u64 (t : Int) ((t / d : Nat) : Int) = ((t ||| t / d : Nat) : Int) := u64_or_nat t _ h (Nat.lt_of_le_of_lt (Nat.div_le_self _ _) h)
theorem or_keep {t d n : Nat} (h : t < 2 ^ n) : t ≤ t ||| t / d ∧ t ||| t / d < 2 ^ n := ⟨Nat.left_le_or, Nat.or_lt_two_pow h (Nat.lt_of_le_of_lt (Nat.div_le_self _ _) h)⟩
/-- The length in bits. -/
def nbl (a : Nat) : Nat := if a = 0 then 0 else 64 * (wlen a - 1) + Lib.bitLen (dig a (wlen a - 1))
set_option maxHeartbeats 400000 in
theorem nbitLen_any (x : Value) (a : Nat) (ox : Option Nat) (w : World) (hx : NatS w x a ox) (ha : wlen a < 800) :
    Calls Tryz.prog 247 #[x] w fun e w' => e = .returned (.int .i64 (nbl a : Nat)) ∧ w = w' := by
  obtain ⟨A, ca, rfl, hla, hca, hra, hsa⟩ := hx.open
  by_cases h0 : wlen a = 0
  · have ha0 : a = 0 := wlen_eq_zero.1 h0
    have hn : nbl a = 0 := by unfold nbl; rw [if_pos ha0]
    replace hsa := Hd.mk hsa
    replace hra := Hd.mk hra
    replace hx := Hd.mk hx
    rw [hn, h0]
    go_enter Tryz.func247, Tryz.ntmps247
    go_wp2
    go_ret
    exact ⟨rfl, rfl⟩
  · obtain ⟨KA, rfl, hoa, sa⟩ := hsa (by omega)
    obtain ⟨m, hm⟩ : ∃ m, wlen a = m + 1 := ⟨wlen a - 1, by omega⟩
    have g1 := sa m (by omega)
    simp only [Nat.zero_add] at g1
    have hne : a ≠ 0 := fun h => h0 (wlen_eq_zero.2 h)
    have hn : nbl a = 64 * m + Lib.bitLen (dig a m) := by unfold nbl; rw [if_neg hne, hm]; rfl
    have htop : dig a m ≠ 0 := dig_top hm
    have ht0 := dig_lt a m
    generalize dig a m = t0 at *
    obtain ⟨i1, i2, i3, i4⟩ := bitLen_spec ht0 htop
    have hBB : ∀ {t}, t < 2 ^ Lib.bitLen t0 → t < BB := fun h => Nat.lt_of_lt_of_le h (Nat.pow_le_pow_right (by decide) i4)
    have e1 := or_half (d := 2) ht0
    obtain ⟨l1, u1⟩ := or_keep (d := 2) i2
    generalize t0 ||| t0 / 2 = t1 at *
    have e2 := or_half (d := 4) (hBB u1)
    obtain ⟨l2, u2⟩ := or_keep (d := 4) u1
    generalize t1 ||| t1 / 4 = t2 at *
    have e3 := or_half (d := 16) (hBB u2)
    obtain ⟨l3, u3⟩ := or_keep (d := 16) u2
    generalize t2 ||| t2 / 16 = t3 at *
    have e4 := or_half (d := 256) (hBB u3)
    obtain ⟨l4, u4⟩ := or_keep (d := 256) u3
    generalize t3 ||| t3 / 256 = t4 at *
    have e5 := or_half (d := 65536) (hBB u4)
    obtain ⟨l5, u5⟩ := or_keep (d := 65536) u4
    generalize t4 ||| t4 / 65536 = t5 at *
    have e6 := or_half (d := 65536 * 65536) (hBB u5)
    obtain ⟨l6, u6⟩ := or_keep (d := 65536 * 65536) u5
    rw [← Nat.div_div_eq_div_mul] at e6 l6 u6
    generalize t5 ||| t5 / 65536 / 65536 = t6 at *
    have hlen : Lib.bitLen t6 = Lib.bitLen t0 := bitLen_uniq (hBB u6) (by omega) (by omega) u6
    have hL := Hd.mk fun w => Len_any t6 (hBB u6) w
    rw [hlen] at hL
    rw [Int.natCast_ediv] at e1 e2 e3 e4 e5 e6
    rw [Int.natCast_ediv] at e6
    have f1 : Go.bits BinOp.or IntKind.u64 (t0 : Int) ((t0 : Int) / 2) = ((t1 : Nat) : Int) := e1
    have f2 : Go.bits BinOp.or IntKind.u64 (t1 : Int) ((t1 : Int) / 4) = ((t2 : Nat) : Int) := e2
    have f3 : Go.bits BinOp.or IntKind.u64 (t2 : Int) ((t2 : Int) / 16) = ((t3 : Nat) : Int) := e3
    have f4 : Go.bits BinOp.or IntKind.u64 (t3 : Int) ((t3 : Int) / 256) = ((t4 : Nat) : Int) := e4
    have f5 : Go.bits BinOp.or IntKind.u64 (t4 : Int) ((t4 : Int) / 65536) = ((t5 : Nat) : Int) := e5
    have f6 : Go.bits BinOp.or IntKind.u64 (t5 : Int) ((t5 : Int) / 65536 / 65536) = ((t6 : Nat) : Int) := e6
    clear e1 e2 e3 e4 e5 e6
    rw [hn, hm]
    rw [hm] at ha
    replace hlen := Hd.mk hlen
    replace hBB := Hd.mk (@hBB)
    replace sa := Hd.mk sa
    replace hsa := Hd.mk hsa
    replace hra := Hd.mk hra
    replace hx := Hd.mk hx
    replace hoa := Hd.mk hoa
    replace hm := Hd.mk hm
    replace hn := Hd.mk hn
    have hw : IntKind.i64.wrap ((m : Int) * 64) = (m : Int) * 64 := IntWalk.i64_in _ (by omega)
    generalize Lib.bitLen t0 = L at *
    have hw2 : IntKind.i64.wrap ((m : Int) * 64 + L) = ((64 * m + L : Nat) : Int) := by rw [IntWalk.i64_in _ (by omega)]; omega
    clear i1 i2 i3 u1 u2 u3 u4 u5 u6 l1 l2 l3 l4 l5 l6
    go_enter Tryz.func247, Tryz.ntmps247
    go_wp2_with fail
    refine (hL.out _).mono ?_
    rintro e w' ⟨rfl, rfl⟩
    go_wp2
    go_ret
    exact ⟨rfl, rfl⟩

theorem bit_lo {a i : Nat} (h : wlen a ≤ i / 64) : a / 2 ^ i % 2 = 0 := by
  have h1 : a < BB ^ (i / 64) := (wlen_le_iff _ a).1 h
  have h2 : BB ^ (i / 64) ≤ 2 ^ i := by
    rw [show BB = 2 ^ 64 from rfl, ← Nat.pow_mul]
    exact Nat.pow_le_pow_right (by decide) (by omega)
  rw [Nat.div_eq_of_lt (by omega)]
theorem bit_hi (a i : Nat) : dig a (i / 64) / 2 ^ (i % 64) % 2 = a / 2 ^ i % 2 := by
  unfold dig
  have h1 : 2 ^ i = BB ^ (i / 64) * 2 ^ (i % 64) := by
    rw [show BB = 2 ^ 64 from rfl, ← Nat.pow_mul, ← Nat.pow_add, Nat.div_add_mod]
  rw [h1, ← Nat.div_div_eq_div_mul]
  generalize a / BB ^ (i / 64) = t
  obtain ⟨r, hr⟩ : ∃ r, 64 = i % 64 + 1 + r := ⟨64 - (i % 64) - 1, by omega⟩
  generalize i % 64 = k at *
  have h2 : BB = 2 ^ k * (2 * 2 ^ r) := by rw [show BB = 2 ^ 64 from rfl, hr, Nat.pow_add, Nat.pow_succ, Nat.mul_assoc]
  rw [h2, Nat.mod_mul_right_div_self, Nat.mod_mul_right_mod]
theorem and_one {v : Nat} (h : v < BB) : Go.bits BinOp.and IntKind.u64 (v : Int) 1 = ((v % 2 : Nat) : Int) := by
  have : Go.bits BinOp.and IntKind.u64 (v : Int) ((1 : Nat) : Int) = ((v &&& 1 : Nat) : Int) := u64_and_nat v _ h (by decide)
  rw [show ((1 : Nat) : Int) = 1 from rfl] at this
  rw [this, Nat.and_one_is_mod]
set_option maxHeartbeats 400000 in
theorem nbit_any (x : Value) (a i : Nat) (ox : Option Nat) (w : World) (hx : NatS w x a ox) (ha : wlen a < 800) (hi : i < 100000) :
    Calls Tryz.prog 225 #[x, .int .u64 i] w fun e w' => e = .returned (.int .u64 (a / 2 ^ i % 2 : Nat)) ∧ w = w' := by
  obtain ⟨A, ca, rfl, hla, hca, hra, hsa⟩ := hx.open
  have e1 : IntKind.u64.wrap ((i : Int) / 64) = ((i / 64 : Nat) : Int) := u64_nat (i / 64) (by unfold BB; omega)
  have e2 : (i : Int) % 64 = ((i % 64 : Nat) : Int) := by omega
  have hlo := @bit_lo a i
  have hhi := bit_hi a i
  generalize a / 2 ^ i % 2 = B at *
  generalize hj : i / 64 = j at *
  have hr : i % 64 < 64 := by omega
  generalize hk : i % 64 = k at *
  replace hk := Hd.mk hk
  have hjb : j < 100000 := by omega
  replace hj := Hd.mk hj
  by_cases h0 : wlen a ≤ j
  · have hd : decide ((wlen a : Int) ≤ (j : Int)) = true := decide_eq_true (by omega)
    have hB := Hd.mk (hlo h0)
    replace hhi := Hd.mk hhi
    replace hlo := Hd.mk hlo
    replace hx := Hd.mk hx
    replace hra := Hd.mk hra
    replace hsa := Hd.mk hsa
    go_enter Tryz.func225, Tryz.ntmps225
    go_wp2
    go_ret
    exact ⟨by rw [hB.out]; rfl, rfl⟩
  · have hd : decide ((wlen a : Int) ≤ (j : Int)) = false := decide_eq_false (by omega)
    obtain ⟨KA, rfl, hoa, sa⟩ := hsa (by omega)
    have g1 := sa j (by omega)
    simp only [Nat.zero_add] at g1
    have hdl := dig_lt a j
    generalize dig a j = t at *
    have e3 : (t : Int) / 2 ^ k = ((t / 2 ^ k : Nat) : Int) := cast_shr t k
    have e4 := and_one (v := t / 2 ^ k) (Nat.lt_of_le_of_lt (Nat.div_le_self _ _) hdl)
    rw [hhi] at e4
    generalize t / 2 ^ k = u at *
    replace hhi := Hd.mk hhi
    replace hlo := Hd.mk hlo
    replace hx := Hd.mk hx
    replace hra := Hd.mk hra
    replace hsa := Hd.mk hsa
    replace sa := Hd.mk sa
    replace hoa := Hd.mk hoa
    go_enter Tryz.func225, Tryz.ntmps225
    go_wp2
    go_ret
    exact ⟨rfl, rfl⟩
end Go.Proofs.YtpabbnogfflgpaaGreatDoor
end

section
namespace Go.Proofs.YtpabbnogfflgpaaGreatDoor
open Go.RowKit
set_option maxRecDepth 100000
theorem call_bits10 (w : World) : (callFunc 345 #[.float .f64 4621819117588971520]).run Tryz.prog w = .ok (.value (.int .u64 4621819117588971520)) w := by
  rw [run_callFunc_extern Tryz.func345 (by kernel_rfl) (by kernel_rfl) (by kernel_rfl) (e := Extern.MathFloatBits.float64bits) (by kernel_rfl)]
  rfl
theorem call_from10 (w : World) : (callFunc 346 #[.int .u64 4621819117588971520]).run Tryz.prog w = .ok (.value (.float .f64 4621819117588971520)) w := by
  rw [run_callFunc_extern Tryz.func346 (by kernel_rfl) (by kernel_rfl) (by kernel_rfl) (e := Extern.MathFloatBits.float64frombits) (by kernel_rfl)]
  rfl
theorem call_from5 (w : World) : (callFunc 346 #[.int .u64 4603804719079489536]).run Tryz.prog w = .ok (.value (.float .f64 4603804719079489536)) w := by
  rw [run_callFunc_extern Tryz.func346 (by kernel_rfl) (by kernel_rfl) (by kernel_rfl) (e := Extern.MathFloatBits.float64frombits) (by kernel_rfl)]
  rfl
theorem archLog5 (w : World) : (Extern.MathLog.archLog #[.float .f64 4603804719079489536]).run Tryz.prog w = .ok (.float .f64 13825510489450817230) w := by kernel_rfl
theorem call_archLog5 (w : World) : (callFunc 336 #[.float .f64 4603804719079489536]).run Tryz.prog w = .ok (.value (.float .f64 13825510489450817230)) w := by
  rw [run_callFunc_extern Tryz.func336 (by kernel_rfl) (by kernel_rfl) (by kernel_rfl) (e := Extern.MathLog.archLog) (by kernel_rfl), archLog5]
  rfl
theorem Log5 (w : World) : Calls Tryz.prog 322 #[.float .f64 4603804719079489536] w fun e w' => e = .returned (.float .f64 13825510489450817230) ∧ w = w' := by
  have hc := call_archLog5
  go_enter Tryz.func322, Tryz.ntmps322
  go_wp2
  go_ret
  exact ⟨rfl, rfl⟩
theorem Abs10 (w : World) : Calls Tryz.prog 349 #[.float .f64 4621819117588971520] w fun e w' => e = .returned (.float .f64 4621819117588971520) ∧ w = w' := by
  have h1 := call_bits10
  have h2 := call_from10
  have h3 : Go.bits BinOp.andNot IntKind.u64 4621819117588971520 9223372036854775808 = 4621819117588971520 := by decide
  go_enter Tryz.func349, Tryz.ntmps349
  go_wp2
  go_ret
  exact ⟨rfl, rfl⟩

theorem IsNaN10 (w : World) : Calls Tryz.prog 343 #[.float .f64 4621819117588971520] w fun e w' => e = .returned (.bool false) ∧ w = w' := by
  go_enter Tryz.func343, Tryz.ntmps343
  go_wp2
  go_ret
  exact ⟨rfl, rfl⟩
theorem IsInf10 (w : World) : Calls Tryz.prog 342 #[.float .f64 4621819117588971520, .int .i64 0] w fun e w' => e = .returned (.bool false) ∧ w = w' := by
  go_enter Tryz.func342, Tryz.ntmps342
  go_wp2_with (go_at_call 349; refine (Abs10 _).mono ?_; rintro e w' ⟨rfl, rfl⟩)
  go_ret
  exact ⟨rfl, rfl⟩
theorem normalize10 (w : World) : Calls Tryz.prog 344 #[.float .f64 4621819117588971520] w fun e w' => e = .returned (.tuple #[.float .f64 4621819117588971520, .int .i64 0]) ∧ w = w' := by
  go_enter Tryz.func344, Tryz.ntmps344
  go_wp2_with (go_at_call 349; refine (Abs10 _).mono ?_; rintro e w' ⟨rfl, rfl⟩)
  go_ret2
  exact ⟨rfl, rfl⟩
theorem frexp10 (w : World) : Calls Tryz.prog 335 #[.float .f64 4621819117588971520] w fun e w' => e = .returned (.tuple #[.float .f64 4603804719079489536, .int .i64 4]) ∧ w = w' := by
  have h1 := call_bits10
  have h2 := call_from5
  have h3 : Go.bits BinOp.and IntKind.u64 1026 2047 = 1026 := by decide
  have h4 : Go.bits BinOp.andNot IntKind.u64 4621819117588971520 9218868437227405312 = 1125899906842624 := by decide
  have h5 : Go.bits BinOp.or IntKind.u64 1125899906842624 4602678819172646912 = 4603804719079489536 := by decide
  go_enter Tryz.func335, Tryz.ntmps335
  go_wp2_with (first | (go_at_call 342; refine (IsInf10 _).mono ?_; rintro e w' ⟨rfl, rfl⟩) | (go_at_call 343; refine (IsNaN10 _).mono ?_; rintro e w' ⟨rfl, rfl⟩) | (go_at_call 344; refine (normalize10 _).mono ?_; rintro e w' ⟨rfl, rfl⟩))
  go_ret2
  exact ⟨rfl, rfl⟩
theorem Frexp10 (w : World) : Calls Tryz.prog 321 #[.float .f64 4621819117588971520] w fun e w' => e = .returned (.tuple #[.float .f64 4603804719079489536, .int .i64 4]) ∧ w = w' := by
  go_enter Tryz.func321, Tryz.ntmps321
  go_wp2_with (go_at_call 335; refine (frexp10 _).mono ?_; rintro e w' ⟨rfl, rfl⟩)
  go_ret2
  exact ⟨rfl, rfl⟩
theorem log2_10 (w : World) : Calls Tryz.prog 290 #[.float .f64 4621819117588971520] w fun e w' => e = .returned (.float .f64 4614662735865160561) ∧ w = w' := by
  have hm : ∀ w, (binOp .mul 215 (.float .f64 13825510489450817230) (.float .f64 4609176140021203710)).run Tryz.prog w = .ok (.float .f64 13827654785158443579) w := fun w => by kernel_rfl
  have ha : ∀ w, (binOp .add 215 (.float .f64 13827654785158443579) (.float .f64 4616189618054758400)).run Tryz.prog w = .ok (.float .f64 4614662735865160561) w := fun w => by kernel_rfl
  have hf : floatOfInt FloatKind.f64 4 = 4616189618054758400 := by kernel_rfl
  go_enter Tryz.func290, Tryz.ntmps290
  go_wp2_with (first | (go_at_call 321; refine (Frexp10 _).mono ?_; rintro e w' ⟨rfl, rfl⟩) | (go_at_call 322; refine (Log5 _).mono ?_; rintro e w' ⟨rfl, rfl⟩))
  go_ret
  exact ⟨rfl, rfl⟩
theorem Log2_10 (w : World) : Calls Tryz.prog 252 #[.float .f64 4621819117588971520] w fun e w' => e = .returned (.float .f64 4614662735865160561) ∧ w = w' := by
  go_enter Tryz.func252, Tryz.ntmps252
  go_wp2_with (go_at_call 290; refine (log2_10 _).mono ?_; rintro e w' ⟨rfl, rfl⟩)
  go_ret
  exact ⟨rfl, rfl⟩
theorem float10 : floatOfInt FloatKind.f64 10 = 4621819117588971520 := by kernel_rfl
/-- How many digits are asked for. -/
def estF (b : Nat) : Option Int := (floatBits .quo .f64 (floatOfInt .f64 b) 4614662735865160561).bind fun c => floatToIntVal .f64 c .i64
theorem est_all : (List.range 600).all (fun b => estF b == some ((b * 30103 / 100000 : Nat) : Int)) = true := by kernel_rfl
theorem dig_all : (List.range 600).all (fun b => decide (2 ^ b ≤ 10 ^ (b * 30103 / 100000 + 1))) = true := by kernel_rfl
theorem est_at {b : Nat} (h : b < 600) : estF b = some ((b * 30103 / 100000 : Nat) : Int) := by
  have := List.all_eq_true.1 est_all b (List.mem_range.2 h)
  exact eq_of_beq this
theorem dig_at {b : Nat} (h : b < 600) : 2 ^ b ≤ 10 ^ (b * 30103 / 100000 + 1) := by
  have := List.all_eq_true.1 dig_all b (List.mem_range.2 h)
  exact of_decide_eq_true this
theorem est_run {b : Nat} (h : b < 600) : ∃ c, ∀ w, (binOp .quo 215 (.float .f64 (floatOfInt .f64 b)) (.float .f64 4614662735865160561)).run Tryz.prog w = .ok (.float .f64 c) w ∧ (convert 215 3 (.float .f64 c)).run Tryz.prog w = .ok (.int .i64 ((b * 30103 / 100000 : Nat) : Int)) w := by
  have he := est_at h
  unfold estF at he
  rw [Option.bind_eq_some_iff] at he
  obtain ⟨c, h1, h2⟩ := he
  exact ⟨c, fun w => ⟨run_float_arith (h := h1) .., run_convert_float_int (h := h2) (hs := by kernel_rfl) (hd := by kernel_rfl) ..⟩⟩
end Go.Proofs.YtpabbnogfflgpaaGreatDoor
end

section
namespace Go.Proofs.YtpabbnogfflgpaaGreatDoor
open Go.RowKit
set_option maxRecDepth 100000
theorem pow10_le {n : Nat} (h : n ≤ 18) : 10 ^ n ≤ 1000000000000000000 := Nat.pow_le_pow_right (n := 10) (by decide) h
theorem maxPow10 (w : World) : Calls Tryz.prog 254 #[.int .u64 10] w fun e w' => e = .returned (.tuple #[.int .u64 10000000000000000000, .int .i64 19]) ∧ w = w' := by
  go_enter Tryz.func254, Tryz.ntmps254
  go_wp2
  go_loopw [2, 3] (fun p n wr => ∃ k : Nat, 1 ≤ k ∧ k ≤ 19 ∧ p = .int .u64 ((10 ^ k : Nat) : Int) ∧ n = .int .i64 k ∧ w = wr) (fun _ n _ => 19 - (intOf n).toNat)
  case atStart => exact ⟨1, by omega, by omega, rfl, rfl, rfl⟩
  case round =>
    obtain ⟨k, h1, h2, rfl, rfl, rfl⟩ := hrel
    by_cases hk : k = 19
    · subst hk
      have hd : decide ((((10 ^ 19 : Nat) : Nat) : Int) ≤ 1844674407370955161) = false := by decide
      rw [show ((10 ^ 19 : Nat) : Int) = 10000000000000000000 from rfl] at *
      go_wp2
      go_ret2
      exact ⟨rfl, rfl⟩
    · have hp := pow10_le (n := k) (by omega)
      have e : 10 ^ (k + 1) = 10 ^ k * 10 := Nat.pow_succ 10 k
      generalize 10 ^ k = p at *
      have hd : decide ((p : Int) ≤ 1844674407370955161) = true := decide_eq_true (by omega)
      have hw : IntKind.u64.wrap ((p : Int) * 10) = ((p * 10 : Nat) : Int) := by rw [IntWalk.u64_in _ (by omega)]; omega
      replace e := Hd.mk e
      go_wp2
      go_roundw
      case rel => exact ⟨k + 1, by omega, by omega, by rw [e.out]; rfl, by go_num, trivial⟩
      case measure => simp [intOf]; omega
theorem divisors_any (stk b nd bb : Value) (m : Nat) (w : World) (hg : Gl w) (hm : m ≤ 8) :
    Calls Tryz.prog 255 #[stk, .int .i64 m, b, nd, bb] w fun e w' => e = .returned (.slice none 0 0) ∧ w = w' := by
  have hl := hg.leaf
  replace hg := Hd.mk hg
  go_enter Tryz.func255, Tryz.ntmps255
  go_wp2
  go_ret
  exact ⟨rfl, rfl⟩

/-- A row whose cells from lo on are f's. -/
def gen (xs : List Value) (lo : Nat) (f : Nat → Value) : List Value := xs.mapIdx fun j v => if lo ≤ j then f j else v
theorem gen_length (xs : List Value) (lo : Nat) (f : Nat → Value) : (gen xs lo f).length = xs.length := by simp [gen]
theorem gen_get (xs : List Value) (lo : Nat) (f : Nat → Value) (j : Nat) : (gen xs lo f)[j]? = if lo ≤ j ∧ j < xs.length then some (f j) else xs[j]? := by
  unfold gen
  rw [List.getElem?_mapIdx]
  by_cases hj : j < xs.length
  · rw [List.getElem?_eq_getElem hj]
    by_cases h : lo ≤ j <;> simp [h, hj]
  · rw [List.getElem?_eq_none (by omega), if_neg (by omega)]; rfl
theorem gen_none (xs : List Value) (lo : Nat) (f : Nat → Value) (h : xs.length ≤ lo) : gen xs lo f = xs := by
  apply List.ext_getElem?
  intro j
  rw [gen_get, if_neg (by omega)]
theorem gen_down (xs : List Value) (i : Nat) (f : Nat → Value) (h : i < xs.length) : (gen xs (i + 1) f).set i (f i) = gen xs i f := by
  apply List.ext_getElem?
  intro j
  rw [List.getElem?_set, gen_get, gen_get, gen_length]
  by_cases e : i = j
  · subst e; rw [if_pos rfl, if_pos h, if_pos ⟨Nat.le_refl _, h⟩]
  · rw [if_neg e]
    by_cases h1 : i + 1 ≤ j ∧ j < xs.length
    · rw [if_pos h1, if_pos (by omega)]
    · rw [if_neg h1, if_neg (by omega)]
/-- The digit at place p of n of m's text. -/
def dgt (m n p : Nat) : Nat := m / 10 ^ (n - 1 - p) % 10
def dgv (m n p : Nat) : Value := .int .u8 ((48 + dgt m n p : Nat) : Int)
theorem dgt_in {m n i j : Nat} (hj : j < 19) (hi : j < i) (hn : i ≤ n) : (m / 10 ^ (n - i) % 10 ^ 19 / 10 ^ j) % 10 = dgt m n (i - j - 1) := by
  unfold dgt
  rw [show n - 1 - (i - j - 1) = n - i + j by omega, Nat.pow_add, ← Nat.div_div_eq_div_mul]
  generalize m / 10 ^ (n - i) = a
  obtain ⟨r, hr⟩ : ∃ r, 19 = j + 1 + r := ⟨18 - j, by omega⟩
  rw [hr, Nat.pow_add, Nat.pow_succ, Nat.mul_assoc, Nat.mod_mul_right_div_self, Nat.mod_mul_right_mod]
theorem dgt_zero {m n i p : Nat} (h : m / 10 ^ (n - i) = 0) (hp : p < i) (hn : i ≤ n) : dgt m n p = 0 := by
  unfold dgt
  have h1 : m < 10 ^ (n - i) := (Nat.div_eq_zero_iff_lt (Nat.pow_pos (by decide))).1 h
  have h2 : 10 ^ (n - i) ≤ 10 ^ (n - 1 - p) := Nat.pow_le_pow_right (by decide) (by omega)
  rw [Nat.div_eq_of_lt (by omega)]
theorem div_more {m n i k : Nat} (hk : k ≤ i) (hi : i ≤ n) (h19 : k = 19 ∨ (k = i ∧ m < 10 ^ n ∧ k ≤ 19)) : m / 10 ^ (n - i) / 10 ^ 19 = m / 10 ^ (n - (i - k)) := by
  rw [Nat.div_div_eq_div_mul, ← Nat.pow_add]
  rcases h19 with rfl | ⟨rfl, h1, h2⟩
  · rw [show n - i + 19 = n - (i - 19) by omega]
  · rw [Nat.div_eq_of_lt, Nat.div_eq_of_lt]
    · rw [show n - (k - k) = n by omega]; exact h1
    · exact Nat.lt_of_lt_of_le h1 (Nat.pow_le_pow_right (by decide) (by omega))
/-- Blocks of P are as they were. -/
structure Keep (P : Nat → Prop) (w w' : World) : Prop where
  os : w'.os = w.os
  tape : w'.tape = w.tape
  output : w'.output = w.output
  size : w.heap.size ≤ w'.heap.size
  block : ∀ k, P k → k < w.heap.size → w'.heap[k]? = w.heap[k]?
theorem Keep.refl (P : Nat → Prop) (w : World) : Keep P w w := ⟨rfl, rfl, rfl, Nat.le_refl _, fun _ _ _ => rfl⟩
theorem Keep.chg {P : Nat → Prop} {w w' w'' : World} {o : Option Nat} (h : Keep P w w') (hc : Chg w' w'' o) (ho : ∀ K, o = some K → P K → w.heap.size ≤ K) : Keep P w w'' :=
  ⟨hc.os.trans h.os, hc.tape.trans h.tape, hc.output.trans h.output, Nat.le_trans h.size hc.size, fun k hp hk => (hc.block k (Nat.lt_of_lt_of_le hk h.size) (fun e => by have := ho k e hp; omega)).trans (h.block k hp hk)⟩
theorem Keep.put {P : Nat → Prop} {w w' w'' : World} {S : Nat} {E : TypeId} {ys : List Value} (h : Keep P w w') (hp : Put w' w'' S E ys) (hS : ¬ P S) : Keep P w w'' :=
  ⟨hp.os.trans h.os, hp.tape.trans h.tape, hp.output.trans h.output, by rw [hp.size]; exact h.size, fun k hk hl => (hp.other k (fun e => hS (e ▸ hk))).trans (h.block k hk hl)⟩
set_option maxHeartbeats 1000000 in
theorem convertWords_any (stk nil : Value) (q : Value) (m n S : Nat) (P : Nat → Prop) (oq : Option Nat) (xs : List Value) (w : World) (hq : NatS w q m oq) (hm : m < 10 ^ n) (hn : n < 1000) (hn0 : 0 < n) (hwm : wlen m < 800)
    (hS : Blk w S 5 xs) (hlen : n = xs.length) (hSB : ¬ P S) (hoq : ∀ K, oq = some K → (P K → w.heap.size ≤ K) ∧ K ≠ S) :
    Calls Tryz.prog 256 #[q, stk, .slice (some ⟨S, 0, none⟩) n n, .int .u64 10, .int .i64 19, .int .u64 10000000000000000000, .slice none 0 0] w fun e w' =>
      e = .returned (.tuple #[]) ∧ Keep P w w' ∧ Blk w' S 5 (gen xs 0 (dgv m n)) := by
  replace hm := Hd.mk hm
  replace hlen := Hd.mk hlen
  replace hS := Hd.mk hS
  replace hq := Hd.mk hq
  replace hoq := Hd.mk hoq
  go_enter Tryz.func256, Tryz.ntmps256
  go_wp2
  go_loopw [0, 19] (fun v i wr => ∃ (k : Nat) (o : Option Nat), k ≤ n ∧ i = .int .i64 k ∧ Hd (NatS wr v (m / 10 ^ (n - k)) o) ∧ Hd (∀ K, o = some K → (P K → w.heap.size ≤ K) ∧ K ≠ S) ∧ Hd (Keep P w wr) ∧ Hd (Blk wr S 5 (gen xs k (dgv m n)))) (fun v i _ => (intOf i).toNat)
  case atStart => exact ⟨n, oq, Nat.le_refl _, rfl, ⟨by rw [Nat.sub_self, Nat.pow_zero, Nat.div_one]; exact hq.out⟩, hoq, ⟨Keep.refl _ _⟩, ⟨by rw [gen_none _ _ _ (by rw [hlen.out]; exact Nat.le_refl _)]; exact hS.out⟩⟩
  case round =>
    obtain ⟨k, o, hk, rfl, hv, ho, hbel, hblk⟩ := hrel
    by_cases h0 : m / 10 ^ (n - k) = 0
    · obtain ⟨A, ca, rfl, hla, hca, hra, hsa⟩ := hv.out.open
      have h0' := Hd.mk h0
      rw [h0, wlen_zero] at hla hv hsa ⊢
      replace hsa := Hd.mk hsa
      replace hra := Hd.mk hra
      replace h0 := Hd.mk h0
      go_wp2
      go_loopw [19] (fun i w2 => ∃ j : Nat, j ≤ k ∧ i = .int .i64 j ∧ Hd (Put wr w2 S 5 (gen xs j (dgv m n)))) (fun i _ => (intOf i).toNat)
      case atStart => exact ⟨k, Nat.le_refl _, rfl, ⟨Put.refl hblk.out⟩⟩
      case round =>
        obtain ⟨j, hj, rfl, hp⟩ := hrel
        by_cases hj0 : j = 0
        · subst hj0
          go_wp2
          go_end0
          exact ⟨rfl, hbel.out.put hp.out hSB, hp.out.here⟩
        · obtain ⟨p, rfl⟩ : ∃ p, j = p + 1 := ⟨j - 1, by omega⟩
          have h3 : ∃ v, wr.cell? ⟨S, p, none⟩ = some v := ⟨_, by rw [hp.out.here.cell, List.getElem?_eq_getElem (by rw [gen_length, ← hlen.out]; omega)]⟩
          obtain ⟨v3, h3⟩ := h3
          have h4 := hp.out.here.frozen p
          have hpn : p < n := by omega
          have hz := dgt_zero h0'.out (by omega : p < k) hk
          replace hz := Hd.mk hz
          go_wp2
          go_roundw
          case rel => exact ⟨p, by omega, by go_num, ⟨by
            rw [← gen_down xs p _ (by rw [← hlen.out]; omega), show dgv m n p = .int .u8 48 by unfold dgv; rw [hz.out]; rfl]
            exact hp.out.set p _⟩⟩
          case measure => simp [intOf]
    · have hk0 : 0 < k := by
        rcases Nat.eq_zero_or_pos k with rfl | h
        · exact absurd (by rw [Nat.sub_zero]; exact Nat.div_eq_of_lt hm.out) h0
        · exact h
      have hdv := Hd.mk (divW_any _ _ (m / 10 ^ (n - k)) 10000000000000000000 o o wr hv.out.recv hv.out (Nat.lt_of_le_of_lt (wlen_mono (Nat.div_le_self _ _)) hwm) (by decide) (by decide))
      have hq0 : wlen (m / 10 ^ (n - k)) ≠ 0 := fun h => h0 (wlen_eq_zero.1 h)
      have hdg : ∀ j, j < 19 → j < k → (m / 10 ^ (n - k) % 10000000000000000000 / 10 ^ j) % 10 = dgt m n (k - j - 1) := fun j h1 h2 => dgt_in h1 h2 hk
      have hmore : ∀ j, j ≤ k → (j = 19 ∨ (j = k ∧ j ≤ 19)) → m / 10 ^ (n - k) / 10000000000000000000 = m / 10 ^ (n - (k - j)) := fun j h1 h2 => div_more h1 hk (h2.imp id fun h => ⟨h.1, hm.out, h.2⟩)
      have hR0B : m / 10 ^ (n - k) % 10000000000000000000 < 10000000000000000000 := Nat.mod_lt _ (by decide)
      generalize m / 10 ^ (n - k) % 10000000000000000000 = R0 at hdv hdg hR0B
      generalize m / 10 ^ (n - k) = Q at *
      obtain ⟨A, ca, rfl, hla, hca, hra, hsa⟩ := hv.out.open
      replace hsa := Hd.mk hsa
      replace hra := Hd.mk hra
      replace h0 := Hd.mk h0
      replace hdg := Hd.mk hdg
      replace hmore := Hd.mk hmore
      go_wp2_with fail
      refine hdv.out.mono ?_
      rintro e w2 ⟨v2, rfl, hr2⟩
      have hSlt : S < wr.heap.size := hblk.out.lt
      obtain ⟨o2, hv2, hc2, ho2⟩ := hr2
      have hblk2 : Blk w2 S 5 (gen xs k (dgv m n)) := hc2.blk hblk.out (fun e => (ho.out S e).2 rfl)
      have hbel2 : Keep P w w2 := hbel.out.chg hc2 (fun K h => (ho.out K h).1)
      have ho2' : ∀ K, o2 = some K → (P K → w.heap.size ≤ K) ∧ K ≠ S := fun K e => by
        rcases ho2 with rfl | ⟨K', rfl, h⟩
        · exact ho.out K e
        · cases e; exact ⟨fun _ => Nat.le_trans hbel.out.size h, by omega⟩
      replace hv2 := Hd.mk hv2
      replace hc2 := Hd.mk hc2
      replace ho2 := Hd.mk ho2
      replace ho2' := Hd.mk ho2'
      replace hblk2 := Hd.mk hblk2
      replace hbel2 := Hd.mk hbel2
      go_wp2
      go_loopw [19, 20, 21] (fun i r j w3 => ∃ jn : Nat, jn ≤ 19 ∧ jn ≤ k ∧ i = .int .i64 ((k - jn : Nat) : Int) ∧ r = .int .u64 ((R0 / 10 ^ jn : Nat) : Int) ∧ j = .int .i64 jn ∧ Hd (Put w2 w3 S 5 (gen xs (k - jn) (dgv m n)))) (fun i _ _ _ => (intOf i).toNat)
      case atStart => exact ⟨0, by omega, by omega, by simp, by simp, rfl, ⟨Put.refl hblk2.out⟩⟩
      case round =>
        obtain ⟨jn, hj1, hj2, rfl, rfl, rfl, hp⟩ := hrel
        by_cases hend : jn = 19 ∨ jn = k
        · have hQ2 := hmore.out jn hj2 (hend.imp id fun h => ⟨h, hj1⟩)
          replace hQ2 := Hd.mk hQ2
          by_cases h19 : jn = 19
          · have ht : decide ((jn : Int) < 19) = false := decide_eq_false (by omega)
            go_wp2
            go_roundw
            case rel => exact ⟨k - jn, o2, by omega, rfl, ⟨by rw [← hQ2.out]; exact hv2.out.of_heap fun K e => hp.out.other K (ho2'.out K e).2⟩, ho2', ⟨hbel2.out.put hp.out hSB⟩, ⟨hp.out.here⟩⟩
            case measure => simp [intOf]; omega
          · have ht : decide ((jn : Int) < 19) = true := decide_eq_true (by omega)
            have ht2 : decide (0 < ((k - jn : Nat) : Int)) = false := decide_eq_false (by omega)
            go_wp2
            go_roundw
            case rel => exact ⟨k - jn, o2, by omega, rfl, ⟨by rw [← hQ2.out]; exact hv2.out.of_heap fun K e => hp.out.other K (ho2'.out K e).2⟩, ho2', ⟨hbel2.out.put hp.out hSB⟩, ⟨hp.out.here⟩⟩
            case measure => simp [intOf]; omega
        · obtain ⟨p, hp1⟩ : ∃ p, k - jn = p + 1 := ⟨k - jn - 1, by omega⟩
          have ht : decide ((jn : Int) < 19) = true := decide_eq_true (by omega)
          have hd := hdg.out jn (by omega) (by omega)
          rw [show k - jn - 1 = p by omega] at hd
          rw [hp1] at hp
          rw [hp1]
          have hRs : R0 / 10 ^ jn < 10000000000000000000 := Nat.lt_of_le_of_lt (Nat.div_le_self _ _) hR0B
          have hRn : R0 / 10 ^ (jn + 1) = R0 / 10 ^ jn / 10 := by rw [Nat.pow_succ, Nat.div_div_eq_div_mul]
          generalize R0 / 10 ^ jn = R at *
          generalize hR10 : R0 / 10 ^ (jn + 1) = R10 at *
          have e1 : (R : Int) / 10 = ((R10 : Nat) : Int) := by omega
          have e2 : IntKind.u64.wrap ((R10 : Int) * 10) = (R10 : Int) * 10 := IntWalk.u64_in _ (by omega)
          have e3 : IntKind.u64.wrap ((R : Int) - (R10 : Int) * 10) = ((dgt m n p : Nat) : Int) := by rw [IntWalk.u64_in _ (by omega)]; omega
          have e4 : IntKind.u8.wrap ((dgt m n p : Nat) : Int) = ((dgt m n p : Nat) : Int) := IntWalk.u8_in _ (by omega)
          have e5 : IntKind.u8.wrap (48 + ((dgt m n p : Nat) : Int)) = ((48 + dgt m n p : Nat) : Int) := by rw [IntWalk.u8_in _ (by omega)]; omega
          have h3 : ∃ v, wr.cell? ⟨S, p, none⟩ = some v := ⟨_, by rw [hp.out.here.cell, List.getElem?_eq_getElem (by rw [gen_length, ← hlen.out]; omega)]⟩
          obtain ⟨v3, h3⟩ := h3
          have h4 := hp.out.here.frozen p
          have hpn : p < n := by omega
          replace hRn := Hd.mk hRn
          replace hd := Hd.mk hd
          replace hR10 := Hd.mk hR10
          go_wp2
          go_roundw
          case rel => exact ⟨jn + 1, by omega, by omega, by rw [show k - (jn + 1) = p by omega], by rw [hR10.out], rfl, ⟨by
            rw [show k - (jn + 1) = p by omega, ← gen_down xs p _ (by rw [← hlen.out]; omega)]
            exact hp.out.set p (dgv m n p)⟩⟩
          case measure => simp [intOf]
end Go.Proofs.YtpabbnogfflgpaaGreatDoor
end

section
namespace Go.Proofs.YtpabbnogfflgpaaGreatDoor
open Go.RowKit
set_option maxRecDepth 100000
theorem byteInfo0 : (Tryz.prog.info? 5).map (fun i => (i.zero, i.size, i.bytes)) = some (some (.int .u8 0), 1, 1) := by kernel_rfl
theorem run_mkb (n : Nat) (hc : n ≤ 4000000) (w : World) :
    (Instr.makeSlice 22 (.int .i64 n) (.int .i64 n)).run Tryz.prog w = .ok (.slice (some ⟨w.heap.size, 0, none⟩) n n) (w.alloc (.cells (madeCells #[.int .u8 0] n) 5)) := by
  obtain ⟨j, hj, hz, hs, hb⟩ := info_parts byteInfo0
  have := run_makeSlice (w := w) 22 5 j (.int .u8 0) Tryz.underlying22 hj hz .i64 .i64 n n (by omega) (by omega) (by rw [hs]; omega) (by rw [hb]; omega) (by omega)
  rw [hs] at this
  simpa [Value.cells] using this
theorem lt_nbl {a : Nat} (_h : a ≠ 0) : a < 2 ^ nbl a := by
  have h0 : wlen a ≠ 0 := fun h => _h (wlen_eq_zero.1 h)
  obtain ⟨m, hm⟩ : ∃ m, wlen a = m + 1 := ⟨wlen a - 1, by omega⟩
  unfold nbl
  rw [if_neg _h, hm, Nat.add_sub_cancel]
  have htop := dig_top hm
  have hlt := lt_wlen a
  rw [hm] at hlt
  obtain ⟨i1, i2, i3, i4⟩ := bitLen_spec (dig_lt a m) htop
  have e : BB ^ m = 2 ^ (64 * m) := by rw [show BB = 2 ^ 64 from rfl, ← Nat.pow_mul]
  have hd : dig a m = a / BB ^ m := by
    unfold dig
    rw [Nat.mod_eq_of_lt]
    rw [Nat.div_lt_iff_lt_mul (Nat.pow_pos BB_pos), ← Nat.pow_succ']; exact hlt
  rw [hd] at i2
  rw [hd, Nat.pow_add, ← e]
  rw [Nat.mul_comm]
  exact (Nat.div_lt_iff_lt_mul (Nat.pow_pos BB_pos)).1 i2
theorem nbl_le {a : Nat} (h : wlen a ≤ 8) : nbl a ≤ 512 := by
  unfold nbl
  split
  · omega
  · have := bitLen_le _ (dig_lt a (wlen a - 1)); omega
/-- The digits of a number that is not 0. -/
def dlen (a : Nat) : Nat := if h : a < 10 then 1 else dlen (a / 10) + 1
theorem dlen_pos (a : Nat) : 0 < dlen a := by rw [dlen]; split <;> omega
theorem lt_dlen (a : Nat) : a < 10 ^ dlen a := by
  induction a using Nat.strongRecOn with
  | ind a ih =>
    rw [dlen]
    split
    · simpa
    · have := ih (a / 10) (by omega)
      rw [Nat.pow_succ]; omega
theorem dlen_le {a : Nat} (h : a ≠ 0) : 10 ^ (dlen a - 1) ≤ a := by
  induction a using Nat.strongRecOn with
  | ind a ih =>
    rw [dlen]
    split
    · simp; omega
    · have h1 := ih (a / 10) (by omega) (by omega)
      have h2 := dlen_pos (a / 10)
      obtain ⟨k, hk⟩ : ∃ k, dlen (a / 10) = k + 1 := ⟨dlen (a / 10) - 1, by omega⟩
      rw [hk] at h1 ⊢
      simp only [Nat.add_sub_cancel] at h1 ⊢
      rw [Nat.pow_succ]; omega
theorem dlen_le_of {a n : Nat} (h : a < 10 ^ n) (h0 : a ≠ 0) : dlen a ≤ n := by
  have h1 := dlen_le h0
  have h2 := dlen_pos a
  have : dlen a - 1 < n := (Nat.pow_lt_pow_iff_right (by decide : 1 < 10)).1 (Nat.lt_of_le_of_lt h1 h)
  omega
theorem dgt_lead {a n p : Nat} (hp : p < n - dlen a) : dgt a n p = 0 := by
  unfold dgt
  rw [Nat.div_eq_of_lt (Nat.lt_of_lt_of_le (lt_dlen a) (Nat.pow_le_pow_right (by decide) (by omega)))]
theorem dgt_first {a n : Nat} (h0 : a ≠ 0) (hn : dlen a ≤ n) : dgt a n (n - dlen a) ≠ 0 := by
  unfold dgt
  have h2 := dlen_pos a
  rw [show n - 1 - (n - dlen a) = dlen a - 1 by omega]
  have h1 := dlen_le h0
  have h3 := lt_dlen a
  obtain ⟨k, hk⟩ : ∃ k, dlen a = k + 1 := ⟨dlen a - 1, by omega⟩
  rw [hk] at h1 h3 ⊢
  simp only [Nat.add_sub_cancel] at h1 ⊢
  rw [Nat.pow_succ] at h3
  have h4 : 1 ≤ a / 10 ^ k := (Nat.le_div_iff_mul_le (Nat.pow_pos (by decide))).2 (by omega)
  have h5 : a / 10 ^ k < 10 := (Nat.div_lt_iff_lt_mul (Nat.pow_pos (by decide))).2 (by omega)
  omega
theorem dgt_lt (m n p : Nat) : dgt m n p < 10 := Nat.mod_lt _ (by decide)

/-- How many cells the text's row has. -/
def askN (a : Nat) (neg : Bool) : Nat := nbl a * 30103 / 100000 + 1 + (if neg then 1 else 0)
theorem and_neg10 : Go.bits BinOp.and IntKind.u64 10 18446744073709551606 = 2 := by decide
set_option maxHeartbeats 2000000 in
theorem itoa_pos (x : Value) (a : Nat) (neg : Bool) (ox : Option Nat) (w : World) (hx : NatS w x a ox) (ha : wlen a ≤ 8) (h0 : a ≠ 0) (hg : Gl w) :
    Calls Tryz.prog 214 #[x, .bool neg, .int .i64 10] w fun e w' => ∃ S n i ys, e = .returned (.slice (some ⟨S, i, none⟩) (n - i) (n - i)) ∧ Chg w w' none ∧ w.heap.size ≤ S ∧ n = ys.length ∧ n < 1000 ∧ Blk w' S 5 ys ∧
      i + dlen a + (if neg then 1 else 0) = n ∧ (neg = true → ys[i]? = some (.int .u8 45)) ∧ ∀ j, j < dlen a → ys[i + (if neg then 1 else 0) + j]? = some (dgv a (dlen a) j) := by
  have hbl := Hd.mk fun w' (hb : Below w.heap.size w w') => nbitLen_any x a ox w' (hx.below hb) (by omega)
  have hset := Hd.mk fun w' (hb : Below w.heap.size w w') => set_any (.slice none 0 0) x a none ox w' (RecvS.nil _) (hx.below hb) (by omega)
  have hnb := nbl_le ha
  have hlt := lt_nbl h0
  obtain ⟨c, hc⟩ := est_run (b := nbl a) (by omega)
  have hdg := dig_at (b := nbl a) (by omega)
  have hf10 := float10
  have hN : askN a neg = nbl a * 30103 / 100000 + 1 + (if neg then 1 else 0) := rfl
  have hmk := run_mkb (askN a neg) (by rw [hN]; split <;> omega)
  have hmp := maxPow10
  have hL2 := Log2_10
  have hand := and_neg10
  have hdl : dlen a ≤ nbl a * 30103 / 100000 + 1 := dlen_le_of (Nat.lt_of_lt_of_le hlt hdg) h0
  obtain ⟨A, ca, rfl, hla, hca, hra, hsa⟩ := hx.open
  have hwl : ((wlen a : Int) == 0) = false := by
    have : wlen a ≠ 0 := fun h => h0 (wlen_eq_zero.1 h)
    simp; omega
  generalize hE : nbl a * 30103 / 100000 = E at *
  have hcv := fun w => (hc w).2
  have hqu := fun w => (hc w).1
  replace hlt := Hd.mk hlt
  replace hdg := Hd.mk hdg
  replace hE := Hd.mk hE
  replace hx := Hd.mk hx
  replace hra := Hd.mk hra
  replace hsa := Hd.mk hsa
  replace hg := Hd.mk hg
  replace hc := Hd.mk hc
  replace hmp := Hd.mk hmp
  replace hL2 := Hd.mk hL2
  replace hdl := Hd.mk hdl
  have hEB : E ≤ 154 := by have := hE.out; omega
  have hw1 : IntKind.i64.wrap ((E : Int) + 1) = (E : Int) + 1 := IntWalk.i64_in _ (by omega)
  have hw2 : IntKind.i64.wrap ((E : Int) + 1 + 1) = (E : Int) + 1 + 1 := IntWalk.i64_in _ (by omega)
  cases neg
  · replace hN : askN a false = E + 1 := hN
    rw [hN, show ((E + 1 : Nat) : Int) = (E : Int) + 1 by omega] at hmk
    replace hN := Hd.mk hN
    go_enter_defers Tryz.func214, Tryz.ntmps214
    go_wp2_with fail
    refine (hbl.out _ (Below.refl _ _)).mono ?_
    rintro e w' ⟨rfl, rfl⟩
    go_wp2_with fail
    refine (hL2.out _).mono ?_
    rintro e w' ⟨rfl, rfl⟩
    go_wp2_with fail
    have hsz : (w.alloc (.cells (madeCells #[.int .u8 0] (E + 1)) 5)).heap.size = w.heap.size + 1 := Array.size_push _
    refine (getStack_any _).mono ?_
    rintro e w2 ⟨rfl, hw2'⟩
    rw [hsz]
    have hbw : Below w.heap.size w w2 := by
      subst hw2'
      exact ((Below.refl _ _).alloc (Nat.le_refl _) _).alloc (by rw [hsz]; omega) _
    have hT : w2.cell? ⟨w.heap.size + 1, 0, none⟩ = some (.pointer none) := by
      subst hw2'
      have := (Blk.new (w.alloc (.cells (madeCells #[.int .u8 0] (E + 1)) 5)) #[.pointer none] 226).cell 0
      rw [hsz] at this
      simpa using this
    have hSb : Blk w2 w.heap.size 5 (madeCells #[.int .u8 0] (E + 1)).toList := by
      subst hw2'
      exact (Blk.new w (madeCells #[.int .u8 0] (E + 1)) 5).alloc _
    have hsz2 : w2.heap.size = w.heap.size + 2 := by subst hw2'; exact (Array.size_push _).trans (by rw [hsz])
    have hxl : (madeCells #[.int .u8 0] (E + 1)).toList.length = E + 1 := by simp [made_size]
    generalize (madeCells #[.int .u8 0] (E + 1)).toList = xs at *
    replace hw2' := Hd.mk hw2'
    have hdv := Hd.mk fun stk => divisors_any stk (.int .u64 10) (.int .i64 19) (.int .u64 10000000000000000000) (wlen a) w2 (hg.out.below hbw) ha
    replace hset := Hd.mk (hset.out w2 hbw)
    replace hbw := Hd.mk hbw
    replace hSb := Hd.mk hSb
    replace hsz := Hd.mk hsz
    replace hsz2 := Hd.mk hsz2
    go_wp2_with fail
    refine (hmp.out _).mono ?_
    rintro e w' ⟨rfl, rfl⟩
    go_wp2_with fail
    refine (hdv.out _).mono ?_
    rintro e w' ⟨rfl, rfl⟩
    go_wp2_with fail
    refine hset.out.mono ?_
    rintro e w3 ⟨v3, rfl, o3, hv3, hc3, ho3⟩
    have hcw := Hd.mk fun stk => convertWords_any stk .nilIface v3 a (E + 1) w.heap.size (fun k => k ≠ w.heap.size ∧ k < w2.heap.size) o3 xs w3 hv3 (Nat.lt_of_lt_of_le hlt.out hdg.out) (by omega) (by omega) (by omega) (hc3.blk hSb.out (by simp)) hxl.symm (fun h => h.1 rfl) (fun K e => by
      rcases ho3 with rfl | ⟨K', rfl, h⟩
      · cases e
      · cases e; exact ⟨fun hp => by omega, by have := hsz2.out; omega⟩)
    replace hv3 := Hd.mk hv3
    replace hc3 := Hd.mk hc3
    replace ho3 := Hd.mk ho3
    go_wp2_with fail
    refine (hcw.out _).mono ?_
    rintro e w4 ⟨rfl, hkeep, hblk⟩
    replace hkeep := Hd.mk hkeep
    replace hblk := Hd.mk hblk
    have hT4 : w4.cell? ⟨w.heap.size + 1, 0, none⟩ = some (.pointer none) := by
      have h1 : w4.heap[w.heap.size + 1]? = w2.heap[w.heap.size + 1]? := (hkeep.out.block _ ⟨by omega, by rw [hsz2.out]; omega⟩ (by have := hc3.out.size; rw [hsz2.out] at this; omega)).trans (hc3.out.block _ (by rw [hsz2.out]; omega) (by simp))
      exact (World.cell?_of_block (w := w2) (a := ⟨w.heap.size + 1, 0, none⟩) h1).trans hT
    replace hT := Hd.mk hT
    go_wp2
    go_loopw [7] (fun i wr => ∃ p : Nat, p + dlen a ≤ E + 1 ∧ i = .int .i64 p ∧ wr = w4) (fun i _ => E + 1 - (intOf i).toNat)
    case atStart => exact ⟨0, by have := hdl.out; omega, rfl, rfl⟩
    case round =>
      obtain ⟨p, hp, rfl, rfl⟩ := hrel
      have hpE : p < E + 1 := by have := dlen_pos a; omega
      have g1 : wr.cell? ⟨w.heap.size, p, none⟩ = some (.int .u8 ((48 + dgt a (E + 1) p : Nat) : Int)) := by
        rw [hblk.out.cell, gen_get, if_pos ⟨Nat.zero_le _, by omega⟩]; rfl
      by_cases hlast : p + dlen a = E + 1
      · have hne := dgt_first (n := E + 1) h0 (by omega)
        rw [show E + 1 - dlen a = p by omega] at hne
        have hd : (((48 + dgt a (E + 1) p : Nat) : Int) == 48) = false := by simp; omega
        generalize 48 + dgt a (E + 1) p = D at *
        replace hne := Hd.mk hne
        have hchg : Chg w wr none := ⟨hkeep.out.os.trans (hc3.out.os.trans hbw.out.os), hkeep.out.tape.trans (hc3.out.tape.trans hbw.out.tape), hkeep.out.output.trans (hc3.out.output.trans hbw.out.output), Nat.le_trans hbw.out.size (Nat.le_trans hc3.out.size hkeep.out.size), fun k hk _ => (hkeep.out.block k ⟨by omega, by rw [hsz2.out]; omega⟩ (Nat.lt_of_lt_of_le hk (Nat.le_trans hbw.out.size hc3.out.size))).trans ((hc3.out.block k (Nat.lt_of_lt_of_le hk hbw.out.size) (by simp)).trans (hbw.out.block k hk))⟩
        replace hchg := Hd.mk hchg
        go_wp2
        refine leaves_cons (f := 217) (args := #[.pointer (some ⟨w.heap.size + 1, 0, none⟩)]) (by simp) (by rfl) ?_
        refine (free_deferred _ _ _ hT4).mono ?_
        rintro e u w' ⟨rfl, rfl, rfl⟩
        refine ⟨_, results_tmp rfl _ _ _, w.heap.size, E + 1, p, rfl, hchg.out, Nat.le_refl _, gen xs 0 (dgv a (E + 1)), by rw [gen_length, hxl], by omega, hblk.out, by simpa using hlast, fun j hj => ?_⟩
        rw [gen_get, if_pos ⟨Nat.zero_le _, by omega⟩]
        unfold dgv dgt
        rw [show E + 1 - 1 - (p + j) = dlen a - 1 - j by omega]
      · have hz := dgt_lead (a := a) (n := E + 1) (p := p) (by omega)
        rw [hz] at g1
        replace hz := Hd.mk hz
        go_wp2
        refine ⟨⟨p + 1, by omega, rfl, trivial⟩, ?_⟩
        simp [intOf]; omega
  · replace hN : askN a true = E + 2 := hN
    rw [hN, show ((E + 2 : Nat) : Int) = (E : Int) + 1 + 1 by omega] at hmk
    replace hN := Hd.mk hN
    go_enter_defers Tryz.func214, Tryz.ntmps214
    go_wp2_with fail
    refine (hbl.out _ (Below.refl _ _)).mono ?_
    rintro e w' ⟨rfl, rfl⟩
    go_wp2_with fail
    refine (hL2.out _).mono ?_
    rintro e w' ⟨rfl, rfl⟩
    go_wp2_with fail
    have hsz : (w.alloc (.cells (madeCells #[.int .u8 0] (E + 2)) 5)).heap.size = w.heap.size + 1 := Array.size_push _
    refine (getStack_any _).mono ?_
    rintro e w2 ⟨rfl, hw2'⟩
    rw [hsz]
    have hbw : Below w.heap.size w w2 := by
      subst hw2'
      exact ((Below.refl _ _).alloc (Nat.le_refl _) _).alloc (by rw [hsz]; omega) _
    have hT : w2.cell? ⟨w.heap.size + 1, 0, none⟩ = some (.pointer none) := by
      subst hw2'
      have := (Blk.new (w.alloc (.cells (madeCells #[.int .u8 0] (E + 2)) 5)) #[.pointer none] 226).cell 0
      rw [hsz] at this
      simpa using this
    have hSb : Blk w2 w.heap.size 5 (madeCells #[.int .u8 0] (E + 2)).toList := by
      subst hw2'
      exact (Blk.new w (madeCells #[.int .u8 0] (E + 2)) 5).alloc _
    have hsz2 : w2.heap.size = w.heap.size + 2 := by subst hw2'; exact (Array.size_push _).trans (by rw [hsz])
    have hxl : (madeCells #[.int .u8 0] (E + 2)).toList.length = E + 2 := by simp [made_size]
    generalize (madeCells #[.int .u8 0] (E + 2)).toList = xs at *
    replace hw2' := Hd.mk hw2'
    have hdv := Hd.mk fun stk => divisors_any stk (.int .u64 10) (.int .i64 19) (.int .u64 10000000000000000000) (wlen a) w2 (hg.out.below hbw) ha
    replace hset := Hd.mk (hset.out w2 hbw)
    replace hbw := Hd.mk hbw
    replace hSb := Hd.mk hSb
    replace hsz := Hd.mk hsz
    replace hsz2 := Hd.mk hsz2
    go_wp2_with fail
    refine (hmp.out _).mono ?_
    rintro e w' ⟨rfl, rfl⟩
    go_wp2_with fail
    refine (hdv.out _).mono ?_
    rintro e w' ⟨rfl, rfl⟩
    go_wp2_with fail
    refine hset.out.mono ?_
    rintro e w3 ⟨v3, rfl, o3, hv3, hc3, ho3⟩
    have hcw := Hd.mk fun stk => convertWords_any stk .nilIface v3 a (E + 2) w.heap.size (fun k => k ≠ w.heap.size ∧ k < w2.heap.size) o3 xs w3 hv3 (Nat.lt_of_lt_of_le hlt.out (Nat.le_trans hdg.out (Nat.pow_le_pow_right (by decide) (by omega)))) (by omega) (by omega) (by omega) (hc3.blk hSb.out (by simp)) hxl.symm (fun h => h.1 rfl) (fun K e => by
      rcases ho3 with rfl | ⟨K', rfl, h⟩
      · cases e
      · cases e; exact ⟨fun hp => by omega, by have := hsz2.out; omega⟩)
    replace hv3 := Hd.mk hv3
    replace hc3 := Hd.mk hc3
    replace ho3 := Hd.mk ho3
    go_wp2_with fail
    refine (hcw.out _).mono ?_
    rintro e w4 ⟨rfl, hkeep, hblk⟩
    replace hkeep := Hd.mk hkeep
    replace hblk := Hd.mk hblk
    have hT4 : w4.cell? ⟨w.heap.size + 1, 0, none⟩ = some (.pointer none) := by
      have h1 : w4.heap[w.heap.size + 1]? = w2.heap[w.heap.size + 1]? := (hkeep.out.block _ ⟨by omega, by rw [hsz2.out]; omega⟩ (by have := hc3.out.size; rw [hsz2.out] at this; omega)).trans (hc3.out.block _ (by rw [hsz2.out]; omega) (by simp))
      exact (World.cell?_of_block (w := w2) (a := ⟨w.heap.size + 1, 0, none⟩) h1).trans hT
    replace hT := Hd.mk hT
    go_wp2
    go_loopw [7] (fun i wr => ∃ p : Nat, p + dlen a ≤ E + 2 ∧ i = .int .i64 p ∧ wr = w4) (fun i _ => E + 2 - (intOf i).toNat)
    case atStart => exact ⟨0, by have := hdl.out; omega, rfl, rfl⟩
    case round =>
      obtain ⟨p, hp, rfl, rfl⟩ := hrel
      have hpE : p < E + 2 := by have := dlen_pos a; omega
      have g1 : wr.cell? ⟨w.heap.size, p, none⟩ = some (.int .u8 ((48 + dgt a (E + 2) p : Nat) : Int)) := by
        rw [hblk.out.cell, gen_get, if_pos ⟨Nat.zero_le _, by omega⟩]; rfl
      by_cases hlast : p + dlen a = E + 2
      · have hne := dgt_first (n := E + 2) h0 (by omega)
        rw [show E + 2 - dlen a = p by omega] at hne
        have hd : (((48 + dgt a (E + 2) p : Nat) : Int) == 48) = false := by simp; omega
        generalize 48 + dgt a (E + 2) p = D at *
        replace hne := Hd.mk hne
        have hchg : Chg w wr none := ⟨hkeep.out.os.trans (hc3.out.os.trans hbw.out.os), hkeep.out.tape.trans (hc3.out.tape.trans hbw.out.tape), hkeep.out.output.trans (hc3.out.output.trans hbw.out.output), Nat.le_trans hbw.out.size (Nat.le_trans hc3.out.size hkeep.out.size), fun k hk _ => (hkeep.out.block k ⟨by omega, by rw [hsz2.out]; omega⟩ (Nat.lt_of_lt_of_le hk (Nat.le_trans hbw.out.size hc3.out.size))).trans ((hc3.out.block k (Nat.lt_of_lt_of_le hk hbw.out.size) (by simp)).trans (hbw.out.block k hk))⟩
        replace hchg := Hd.mk hchg
        obtain ⟨k, rfl⟩ : ∃ k, p = k + 1 := ⟨p - 1, by have := hdl.out; omega⟩
        have h3 : ∃ v, wr.cell? ⟨w.heap.size, k, none⟩ = some v := ⟨_, by rw [hblk.out.cell, List.getElem?_eq_getElem (by rw [gen_length, hxl]; omega)]⟩
        obtain ⟨v3', h3⟩ := h3
        have h4 := hblk.out.frozen k
        have hp9 := (Put.refl hblk.out).set k (.int .u8 45)
        have hT5 : (wr.setCell ⟨w.heap.size, k, none⟩ (.int .u8 45)).cell? ⟨w.heap.size + 1, 0, none⟩ = some (.pointer none) := (hp9.cell_other (by omega) 0).trans hT4
        replace hp9 := Hd.mk hp9
        go_wp2
        refine leaves_cons (f := 217) (args := #[.pointer (some ⟨w.heap.size + 1, 0, none⟩)]) (by simp) (by rfl) ?_
        refine (free_deferred _ _ _ hT5).mono ?_
        rintro e u w' ⟨rfl, rfl, rfl⟩
        refine ⟨_, results_tmp rfl _ _ _, w.heap.size, E + 2, k, rfl, hchg.out.put hp9.out (.inr (Nat.le_refl _)), Nat.le_refl _, _, by rw [List.length_set, gen_length, hxl], by omega, hp9.out.here, by simp; omega, ?_, fun j hj => ?_⟩
        · first | (intro _; rw [List.getElem?_set, if_pos rfl, if_pos (by rw [gen_length, hxl]; omega)]) | (rw [List.getElem?_set, if_pos rfl, if_pos (by rw [gen_length, hxl]; omega)])
        · rw [List.getElem?_set_ne (by omega), gen_get, if_pos ⟨Nat.zero_le _, by omega⟩]
          unfold dgv dgt
          rw [show E + 2 - 1 - (k + 1 + j) = dlen a - 1 - j by omega]
      · have hz := dgt_lead (a := a) (n := E + 2) (p := p) (by omega)
        rw [hz] at g1
        replace hz := Hd.mk hz
        go_wp2
        refine ⟨⟨p + 1, by omega, rfl, trivial⟩, ?_⟩
        simp [intOf]; omega


/-- A text of bytes lies in a block. -/
def TxtAt (w : World) (S i : Nat) (t : List Nat) : Prop := ∀ j c, t[j]? = some c → w.cell? ⟨S, i + j, none⟩ = some (.int .u8 (c : Nat))
/-- The text of a number. -/
def dtxt (neg : Bool) (a : Nat) : List Nat := (if neg then [45] else []) ++ (List.range (dlen a)).map fun j => 48 + dgt a (dlen a) j
theorem itoa_zero (x : Value) (neg : Bool) (ox : Option Nat) (w : World) (hx : NatS w x 0 ox) :
    Calls Tryz.prog 214 #[x, .bool neg, .int .i64 10] w fun e w' => ∃ S i l, e = .returned (.slice (some ⟨S, i, none⟩) l l) ∧ Chg w w' none ∧ w.heap.size ≤ S ∧ l = (dtxt false 0).length ∧ TxtAt w' S i (dtxt false 0) := by
  obtain ⟨A, ca, rfl, hla, hca, hra, hsa⟩ := hx.open
  rw [wlen_zero] at *
  replace hsa := Hd.mk hsa
  replace hra := Hd.mk hra
  replace hx := Hd.mk hx
  have hd : dtxt false 0 = [48] := by
    have : dlen 0 = 1 := by rw [dlen]; rfl
    unfold dtxt; rw [this]; rfl
  rw [hd]
  replace hd := Hd.mk hd
  have hcv := Lib.run_convert_bytes_const (P := Tryz.prog) w 22 5 #[.int .u8 48] 1 1 Tryz.underlying22 (by kernel_rfl)
  go_enter_defers Tryz.func214, Tryz.ntmps214
  go_wp2
  refine ⟨_, results_tmp rfl _ _ _, w.heap.size, 0, 1, rfl, Chg.of_below ((Below.refl _ _).alloc (Nat.le_refl _) _) none, Nat.le_refl _, rfl, fun j c hj => ?_⟩
  obtain rfl : j = 0 := by
    rcases j with _ | j
    · rfl
    · simp at hj
  obtain rfl : 48 = c := by simpa using hj
  have h : (w.alloc (.cells #[.int .u8 48] 5 (1, 2))).heap[w.heap.size]? = some (.cells #[.int .u8 48] 5 (1, 2)) := Array.getElem?_push_size
  show ((w.alloc (.cells #[.int .u8 48] 5 (1, 2))).cell? ⟨w.heap.size, 0, none⟩) = _
  unfold World.cell?
  rw [h]
  rfl

theorem dtxt_get (neg : Bool) (a j : Nat) : (dtxt neg a)[j]? = if neg = true ∧ j = 0 then some 45 else (if j - (if neg then 1 else 0) < dlen a then some (48 + dgt a (dlen a) (j - (if neg then 1 else 0))) else none) := by
  unfold dtxt
  cases neg
  · simp [List.getElem?_range']
    split <;> simp_all [List.getElem?_eq_none]
  · rcases j with _ | j
    · simp
    · simp
      split <;> simp_all [List.getElem?_eq_none]
theorem dtxt_length (neg : Bool) (a : Nat) : (dtxt neg a).length = dlen a + (if neg then 1 else 0) := by
  unfold dtxt; cases neg <;> simp
theorem itoa_any (x : Value) (a : Nat) (neg : Bool) (ox : Option Nat) (w : World) (hx : NatS w x a ox) (ha : wlen a ≤ 8) (hg : Gl w) :
    Calls Tryz.prog 214 #[x, .bool neg, .int .i64 10] w fun e w' => ∃ S i l, e = .returned (.slice (some ⟨S, i, none⟩) l l) ∧ Chg w w' none ∧ w.heap.size ≤ S ∧ l = (dtxt (neg && a != 0) a).length ∧ TxtAt w' S i (dtxt (neg && a != 0) a) := by
  by_cases h0 : a = 0
  · subst h0
    rw [show (neg && (0 : Nat) != 0) = false by simp]
    exact itoa_zero x neg ox w hx
  · rw [show (neg && a != 0) = neg by simp [h0]]
    refine (itoa_pos x a neg ox w hx ha h0 hg).mono ?_
    rintro e w' ⟨S, n, i, ys, rfl, hc, hS, hn, hn2, hb, hsum, hneg, hd⟩
    refine ⟨S, i, n - i, rfl, hc, hS, by rw [dtxt_length]; omega, fun j c hj => ?_⟩
    rw [hb.cell]
    rw [dtxt_get] at hj
    by_cases h1 : neg = true ∧ j = 0
    · rw [if_pos h1] at hj
      obtain ⟨h1, rfl⟩ := h1
      obtain rfl : 45 = c := by simpa using hj
      exact hneg h1
    · rw [if_neg h1] at hj
      by_cases h2 : j - (if neg = true then 1 else 0) < dlen a
      · rw [if_pos h2] at hj
        obtain rfl : 48 + dgt a (dlen a) (j - (if neg = true then 1 else 0)) = c := Option.some.inj hj
        have h3 := hd _ h2
        have h4 : i + (if neg = true then 1 else 0) + (j - (if neg = true then 1 else 0)) = i + j := by
          cases neg
          · simp
          · simp at h1 ⊢; omega
        rw [h4] at h3
        exact h3
      · rw [if_neg h2] at hj; cases hj
end Go.Proofs.YtpabbnogfflgpaaGreatDoor
end
