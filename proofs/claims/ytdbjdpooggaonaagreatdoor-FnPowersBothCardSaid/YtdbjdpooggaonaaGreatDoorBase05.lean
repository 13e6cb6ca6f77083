/- Division of two words by one. Division of two words by one with a reciprocal. Division of numbers by one word. The length in bits, and a bit. Conditions: those that each theorem states. -/
import Derived.Deep.CutBlock
import Derived.Deep.DeepCutAuto
import Derived.Test.YtdbjdpooggaonaaGreatDoorBase04
set_option linter.all false

section
namespace Go.Proofs.YtdbjdpooggaonaaGreatDoor
open Go.RowKit
set_option maxRecDepth 100000
theorem half_gt {q r u d a b R : Nat} (hd : d < R) (h : q * a + r = u) (hq : R ≤ q ∨ R * r + d < q * b) (hu : u < a * R + b) : (u * R + d) / (a * R + b) < q := by
  rw [Nat.div_lt_iff_lt_mul (by omega)]
  have e : q * (a * R + b) = q * a * R + q * b := by rw [Nat.mul_add, Nat.mul_assoc]
  rcases hq with hq | hq
  · have h1 : (u + 1) * R ≤ (a * R + b) * q := Nat.mul_le_mul (by omega) hq
    rw [Nat.add_mul, Nat.one_mul, Nat.mul_comm _ q] at h1
    omega
  · rw [e, ← h, Nat.add_mul, Nat.mul_comm r R]; omega
theorem half_le {q r u d a b R : Nat} (h : q * a + r = u) (hq : q * b ≤ R * r + d) (hy : 0 < a * R + b) : q ≤ (u * R + d) / (a * R + b) := by
  rw [Nat.le_div_iff_mul_le hy]
  have e : q * (a * R + b) = q * a * R + q * b := by rw [Nat.mul_add, Nat.mul_assoc]
  rw [e, ← h, Nat.add_mul, Nat.mul_comm r R]; omega
theorem half_brk {q r u d a b R : Nat} (h : q * a + r = u) (hq : q ≤ R) (hb : b ≤ R) (hr : R ≤ r) (hy : 0 < a * R + b) : q ≤ (u * R + d) / (a * R + b) :=
  half_le h (by have h1 : q * b ≤ R * r := Nat.mul_le_mul hq (by omega); omega) hy
theorem half_top {u a b R : Nat} (ha : R ≤ 2 * a) (hb : b < R) (ha0 : 0 < a) (hu : u < a * R + b) : u / a ≤ R + 1 := by
  have : u / a < R + 2 := by
    rw [Nat.div_lt_iff_lt_mul ha0, Nat.add_mul, Nat.mul_comm R a]; omega
  omega
theorem div_two {u d0 d1 y R : Nat} (hy : 0 < y) : (u * R + d1) / y * R + ((u * R + d1) % y * R + d0) / y = (u * (R * R) + d1 * R + d0) / y ∧ ((u * R + d1) % y * R + d0) % y = (u * (R * R) + d1 * R + d0) % y := by
  have e : u * (R * R) + d1 * R + d0 = y * ((u * R + d1) / y * R) + ((u * R + d1) % y * R + d0) := by
    have h := Nat.div_add_mod (u * R + d1) y
    generalize (u * R + d1) / y = Q at *
    generalize (u * R + d1) % y = r at *
    rw [← Nat.mul_assoc u, ← Nat.add_mul, ← h, Nat.add_mul]
    rw [Nat.mul_assoc y Q R]; omega
  rw [e]
  refine ⟨?_, ?_⟩
  · rw [Nat.mul_add_div hy]
  · rw [Nat.mul_add_mod]
theorem div_sc {n y s : Nat} : (n * 2 ^ s) / (y * 2 ^ s) = n / y ∧ (n * 2 ^ s) % (y * 2 ^ s) / 2 ^ s = n % y := by
  refine ⟨Nat.mul_div_mul_right _ _ (Nat.two_pow_pos s), ?_⟩
  rw [Nat.mul_mod_mul_right, Nat.mul_div_cancel _ (Nat.two_pow_pos s)]
/-- the reciprocal's guess -/
theorem rec_le {B d m e x1 x0 : Nat} (hm : (m + B) * d + e = B * B - 1) (hB : 0 < B) (hd : d ≤ B) : d * ((x1 * (m + B) + x0) / B) ≤ x1 * B + x0 := by
  have h1 : d * (x1 * (m + B) + x0) ≤ B * (x1 * B + x0) := by
    have e1 : d * (x1 * (m + B) + x0) = x1 * ((m + B) * d) + x0 * d := by
      rw [Nat.mul_add, Nat.mul_left_comm, Nat.mul_comm d (m + B), Nat.mul_comm d x0]
    have e2 : B * (x1 * B + x0) = x1 * (B * B) + x0 * B := by
      rw [Nat.mul_add, Nat.mul_left_comm, Nat.mul_comm B x0]
    rw [e1, e2]
    have h2 : x1 * ((m + B) * d) ≤ x1 * (B * B) := Nat.mul_le_mul_left _ (by omega)
    have h3 : x0 * d ≤ x0 * B := Nat.mul_le_mul_left _ hd
    omega
  have h4 : (x1 * (m + B) + x0) / B * B ≤ x1 * (m + B) + x0 := Nat.div_mul_le_self _ _
  have h5 : d * ((x1 * (m + B) + x0) / B * B) ≤ d * (x1 * (m + B) + x0) := Nat.mul_le_mul_left _ h4
  rw [← Nat.mul_assoc] at h5
  have h6 : d * ((x1 * (m + B) + x0) / B) * B ≤ (x1 * B + x0) * B := by rw [Nat.mul_comm _ B] ; rw [Nat.mul_comm _ B] at h5 ; rw [Nat.mul_comm (x1 * B + x0) B]; omega
  exact Nat.le_of_mul_le_mul_right h6 hB
theorem rec_lt {B d m e x1 x0 : Nat} (hm : (m + B) * d + e = B * B - 1) (he : e < d) (hd : d < B) (h1 : x1 < d) (h0 : x0 < B) : x1 * B + x0 < d * ((x1 * (m + B) + x0) / B) + B + d := by
  have hB : 0 < B := by omega
  obtain ⟨g, rfl⟩ : ∃ g, B = d + g := ⟨B - d, by omega⟩
  obtain ⟨k, rfl⟩ : ∃ k, d = x1 + 1 + k := ⟨d - 1 - x1, by omega⟩
  have hT := Nat.div_add_mod (x1 * (m + (x1 + 1 + k + g)) + x0) (x1 + 1 + k + g)
  have hf := Nat.mod_lt (x1 * (m + (x1 + 1 + k + g)) + x0) hB
  generalize (x1 * (m + (x1 + 1 + k + g)) + x0) / (x1 + 1 + k + g) = t at *
  generalize (x1 * (m + (x1 + 1 + k + g)) + x0) % (x1 + 1 + k + g) = f at *
  generalize hBB : x1 + 1 + k + g = B at *
  generalize hdd : x1 + 1 + k = d at *
  -- B*N + d*f + ... 
  have a1 : d * (B * t + f) = d * (x1 * (m + B) + x0) := by rw [hT]
  have a2 : d * (x1 * (m + B) + x0) = x1 * ((m + B) * d) + x0 * d := by
    rw [Nat.mul_add, Nat.mul_left_comm, Nat.mul_comm d (m + B), Nat.mul_comm d x0]
  have a3 : x1 * ((m + B) * d) + x1 * (e + 1) = x1 * (B * B) := by
    rw [← Nat.mul_add, show (m + B) * d + (e + 1) = B * B by have : 0 < B * B := Nat.mul_pos hB hB; omega]
  have a4 : x1 * (e + 1) ≤ x1 * d := Nat.mul_le_mul_left _ he
  have a5 : x1 * d < d * d := Nat.mul_lt_mul_of_pos_right h1 (by omega)
  have a6 : d * f + d ≤ d * B := by
    have := Nat.mul_le_mul_left d (show f + 1 ≤ B from hf)
    rwa [Nat.mul_add, Nat.mul_one] at this
  have a7 : x0 * B = x0 * d + x0 * g := by rw [← hBB, Nat.mul_add]
  have a8 : x0 * g ≤ B * g := Nat.mul_le_mul_right _ (by omega)
  have a9 : B * B = B * d + B * g := by rw [← Nat.mul_add, hBB]
  have a10 : d * d + d * g = d * B := by rw [← Nat.mul_add, hBB]
  have a11 : d * (B * t + f) = d * t * B + d * f := by rw [Nat.mul_add, Nat.mul_comm B t, Nat.mul_assoc]
  have a12 : x1 * (B * B) = x1 * B * B := by rw [Nat.mul_assoc]
  apply Nat.lt_of_mul_lt_mul_right (a := B)
  rw [Nat.add_mul, Nat.add_mul, Nat.add_mul]
  have a13 : d * B = B * d := Nat.mul_comm _ _
  omega
theorem and_low32 {v : Nat} (h : v < BB) : Go.bits BinOp.and IntKind.u64 (v : Int) 4294967295 = ((v % 4294967296 : Nat) : Int) := by
  have : Go.bits BinOp.and IntKind.u64 (v : Int) ((4294967295 : Nat) : Int) = ((v &&& 4294967295 : Nat) : Int) := u64_and_nat v _ h (by decide)
  rw [show ((4294967295 : Nat) : Int) = 4294967295 from rfl] at this
  rw [this, show 4294967295 = 2 ^ 32 - 1 from rfl, Nat.and_two_pow_sub_one_eq_mod]
theorem u64_nat (n : Nat) (h : n < BB) : IntKind.u64.wrap ((n : Nat) : Int) = ((n : Nat) : Int) := IntWalk.u64_in _ (by unfold BB at h; omega)
theorem R_le (q : Nat) : (4294967296 ≤ (q : Int)) ↔ 4294967296 ≤ q := by omega
theorem half_cmp (q r b d : Nat) : (4294967296 * (r : Int) + d < (q : Int) * b) ↔ 4294967296 * r + d < q * b := by
  rw [← Int.ofNat_lt, Int.natCast_add, Int.natCast_mul, Int.natCast_mul]; rfl
theorem wrapA (q b : Nat) (hq : q < 4294967296) (hb : b < 4294967296) : IntKind.u64.wrap ((q : Int) * b) = (q : Int) * b := by
  have : q * b < 4294967296 * 4294967296 := Nat.mul_lt_mul'' hq hb
  rw [← Int.natCast_mul]; exact u64_nat _ (by unfold BB; omega)
theorem wrapB (r : Nat) (hr : r < 4294967296) : IntKind.u64.wrap (4294967296 * (r : Int)) = 4294967296 * (r : Int) := IntWalk.u64_in _ (by omega)
theorem wrapC (r d : Nat) (hr : r < 4294967296) (hd : d < 4294967296) : IntKind.u64.wrap (4294967296 * (r : Int) + d) = 4294967296 * (r : Int) + d := IntWalk.u64_in _ (by omega)
theorem wrapD (q : Nat) (hq : 0 < q) (h : q < BB) : IntKind.u64.wrap ((q : Int) - 1) = ((q - 1 : Nat) : Int) := by rw [IntWalk.u64_in _ (by unfold BB at h; omega)]; omega
theorem wrapE (r a : Nat) (hr : r < 4294967296) (ha : a < 4294967296) : IntKind.u64.wrap ((r : Int) + a) = (r : Int) + a := IntWalk.u64_in _ (by omega)
theorem half_dn {a U q r : Nat} (h : q * a + r = U) (hq : 0 < q) : (q - 1) * a + (r + a) = U := by
  obtain ⟨k, rfl⟩ : ∃ k, q = k + 1 := ⟨q - 1, by omega⟩
  rw [Nat.add_mul, Nat.one_mul] at h
  rw [Nat.add_sub_cancel]; omega
theorem half_first {U a b d : Nat} (ha : 0 < a) (hd : d < 4294967296) : (U * 4294967296 + d) / (a * 4294967296 + b) ≤ U / a := by
  have h1 : (U * 4294967296 + d) / (a * 4294967296 + b) ≤ (U * 4294967296 + d) / (a * 4294967296) := Nat.div_le_div_left (by omega) (by omega)
  have h2 : (U * 4294967296 + d) / (a * 4294967296) = U / a := by
    rw [Nat.mul_comm a, ← Nat.div_div_eq_div_mul]
    congr 1; omega
  omega
theorem wrapN (n : Nat) : IntKind.u64.wrap ((n : Nat) : Int) = ((n % BB : Nat) : Int) := by
  show (n : Int) % 18446744073709551616 = _
  rw [Int.natCast_emod]; rfl
theorem wrap_back {U d Q Y r m1 m2 m3 : Nat} (hx : r + Q * Y = U * 4294967296 + d) (h1 : U * 4294967296 % BB = m1) (h2 : (m1 + d) % BB = m2) (h3 : Q * Y % BB = m3) (hr : r < BB) : IntKind.u64.wrap ((m2 : Int) - m3) = ((r : Nat) : Int) := by
  show ((m2 : Int) - m3) % 18446744073709551616 = _
  unfold BB at *
  generalize Q * Y = P at *
  omega
theorem halves {U d1 d0 L : Nat} (h : d1 * 4294967296 + d0 = L) : U * (4294967296 * 4294967296) + d1 * 4294967296 + d0 = U * BB + L := by rw [show (4294967296 * 4294967296 : Nat) = BB from rfl, Nat.add_assoc, h]
/-- A round's test and step of the division by halves. -/
def HalfI (a b U d q r : Nat) : Prop := q * a + r = U ∧ (U * 4294967296 + d) / (a * 4294967296 + b) ≤ q ∧ q ≤ 4294967297 ∧ r < 4294967296
set_option maxHeartbeats 1000000 in
theorem bitsDiv64_core (hi lo y s Y a b U L d1 d0 : Nat) (q0 r0 Q1 r1 p0 s0 Q0 : Nat) (hq0 : q0 = U / a) (hr0 : r0 = U % a) (hQ1 : Q1 = (U * 4294967296 + d1) / Y) (hr1 : r1 = (U * 4294967296 + d1) % Y) (hp0 : p0 = r1 / a) (hs0 : s0 = r1 % a) (hQ0 : Q0 = (r1 * 4294967296 + d0) / Y) (w : World) (h : hi < y) (h0 : hi ≠ 0) (hl : lo < BB) (hy : y < BB) (hs : s ≤ 63) (hlen : Lib.bitLen y = 64 - s)
    (hY : Y = y * 2 ^ s) (hYB : Y < BB) (hY2 : BB ≤ 2 * Y) (ha : a = Y / 4294967296) (hb : b = Y % 4294967296) (hU : U = hi * 2 ^ s % BB + lo / 2 ^ (64 - s)) (hUY : U < Y) (hL : L = lo * 2 ^ s % BB) (hd1 : d1 = L / 4294967296) (hd0 : d0 = L % 4294967296) :
    Calls Tryz.prog 347 #[.int .u64 hi, .int .u64 lo, .int .u64 y] w fun e w' =>
      e = .returned (.tuple #[.int .u64 ((U * BB + L) / Y : Nat), .int .u64 ((U * BB + L) % Y / 2 ^ s : Nat)]) ∧ ∃ q, w' = w.drewN q := by
  have hg0 : ((y : Int) == 0) = false := by simp; omega
  have hg1 : decide ((y : Int) ≤ (hi : Int)) = false := by simp; omega
  have hg2 : ((hi : Int) == 0) = false := by simp; omega
  have hlz : ∀ w, Calls Tryz.prog 363 #[.int .u64 y] w fun e w' => e = .returned (.int .i64 (s : Nat)) ∧ w = w' := fun w => (LeadingZeros64_any y hy w).mono (by
    rintro e w' ⟨rfl, rfl⟩; rw [hlen]; exact ⟨by congr 3; omega, rfl⟩)
  have e1 : IntKind.u64.wrap ((y : Int) * 2 ^ s) = ((Y : Nat) : Int) := by rw [wrap_shl, ← hY, Nat.mod_eq_of_lt hYB]
  have e2 : (Y : Int) / 4294967296 = ((a : Nat) : Int) := by rw [ha, Int.natCast_ediv]; rfl
  have e3 := and_low32 hYB
  rw [← hb] at e3
  have e4 := or_shl (x := hi) (y := lo) (s := s) (by omega) hl (by omega)
  rw [← hU] at e4
  have e5 := wrap_shl lo s
  rw [← hL] at e5
  have hLB : L < BB := hL ▸ Nat.mod_lt _ BB_pos
  have e6 : (L : Int) / 4294967296 = ((d1 : Nat) : Int) := by rw [hd1, Int.natCast_ediv]; rfl
  have e7 := and_low32 hLB
  rw [← hd0] at e7
  replace hlz := Hd.mk hlz
  have hsI : IntKind.u64.wrap (64 - (s : Int)) = ((64 - s : Nat) : Int) := by rw [IntWalk.u64_in _ (by omega)]; omega
  have ha0 : ((a : Int) == 0) = false := by simp; unfold BB at *; omega
  have hYab : a * 4294967296 + b = Y := by have := Nat.div_add_mod Y 4294967296; rw [← ha, ← hb, Nat.mul_comm] at this; exact this
  have hbR : b < 4294967296 := by rw [hb]; omega
  have hd1R : d1 < 4294967296 := by rw [hd1]; unfold BB at hLB; omega
  have hd0R : d0 < 4294967296 := by rw [hd0]; omega
  have haR : a < 4294967296 := by rw [ha]; unfold BB at hYB; omega
  have haH : 4294967296 ≤ 2 * a := by rw [ha]; unfold BB at hY2; omega
  have hLd : d1 * 4294967296 + d0 = L := by have := Nat.div_add_mod L 4294967296; rw [← hd1, ← hd0, Nat.mul_comm] at this; exact this
  have hq1 : IntKind.u64.wrap ((U : Int) / (a : Int)) = ((q0 : Nat) : Int) := by rw [← Int.natCast_ediv, ← hq0]; exact u64_nat _ (hq0 ▸ Nat.lt_of_le_of_lt (Nat.div_le_self _ _) (by omega))
  have hq2 : IntKind.u64.wrap ((U : Int) - IntKind.u64.wrap ((q0 : Int) * (a : Int))) = ((r0 : Nat) : Int) := by
    have h1 := Nat.div_add_mod U a
    have h2 : U / a * a ≤ U := Nat.div_mul_le_self U a
    rw [← hq0] at h1 h2
    rw [← hr0] at h1
    rw [← Int.natCast_mul, u64_nat _ (by omega), ← Int.ofNat_sub h2, u64_nat _ (by omega)]
    congr 1
    rw [Nat.mul_comm] at h2 ⊢; omega
  replace hq0 := Hd.mk hq0
  replace hr0 := Hd.mk hr0
  replace hQ1 := Hd.mk hQ1
  replace hr1 := Hd.mk hr1
  replace hQ0 := Hd.mk hQ0
  replace hY := Hd.mk hY
  replace hU := Hd.mk hU
  replace hL := Hd.mk hL
  replace ha := Hd.mk ha
  replace hb := Hd.mk hb
  replace hd1 := Hd.mk hd1
  replace hd0 := Hd.mk hd0
  replace hYab := Hd.mk hYab
  replace hLd := Hd.mk hLd
  have hu1 : (U * 4294967296 + d1) / Y < 4294967296 := by
    rw [Nat.div_lt_iff_lt_mul (by omega)]
    have : (U + 1) * 4294967296 ≤ Y * 4294967296 := Nat.mul_le_mul_right _ hUY
    rw [Nat.add_mul, Nat.one_mul] at this
    rw [Nat.mul_comm _ Y]; omega
  go_enter Tryz.func347, Tryz.ntmps347
  go_upto_block 0 with (go_at_call 363; refine (hlz.out _).mono ?_; rintro e w' ⟨rfl, rfl⟩)
  go_cut [15] (fun q wx => wx = w ∧ q = .int .u64 (Q1 : Nat))
  case first =>
    have hI1 : (U * 4294967296 + d1) / (a * 4294967296 + b) ≤ q0 := by
      rw [hq0.out]; exact half_first (by omega) hd1R
    have hI2 : q0 ≤ 4294967297 := by
      have := half_top (u := U) (a := a) (b := b) haH hbR (by omega) (by rw [hYab.out]; exact hUY)
      rw [← hq0.out] at this; omega
    have hr0a : r0 < a := by rw [hr0.out]; exact Nat.mod_lt _ (by omega)
    replace hI1 := Hd.mk hI1
    go_wp2
    go_loopw [15, 16] (fun q r wr => ∃ qn rn : Nat, q = .int .u64 qn ∧ r = .int .u64 rn ∧ Hd (HalfI a b U d1 qn rn) ∧ wr = w) (fun q _ _ => (intOf q).toNat)
    case atStart => exact ⟨q0, r0, rfl, rfl, ⟨by rw [hq0.out, hr0.out, Nat.mul_comm]; exact Nat.div_add_mod U a, hI1.out, hI2, by omega⟩, rfl⟩
    case round =>
      obtain ⟨qn, rn, rfl, rfl, hI, rfl⟩ := hrel
      obtain ⟨hi1, hi2, hi3, hi4⟩ := hI.out
      rw [hYab.out, ← hQ1.out] at hi2
      replace hi1 := Hd.mk hi1
      by_cases h1 : 4294967296 ≤ qn
      · have ht : decide (4294967296 ≤ (qn : Int)) = true := decide_eq_true ((R_le qn).2 h1)
        have hlt := half_gt (q := qn) (r := rn) (u := U) (d := d1) (a := a) (b := b) hd1R hi1.out (.inl h1) (by rw [hYab.out]; exact hUY)
        rw [hYab.out, ← hQ1.out] at hlt
        have hw1 := wrapD qn (by omega) (by unfold BB; omega)
        have hw2 := wrapE rn a hi4 haR
        have hdn := half_dn hi1.out (by omega : 0 < qn)
        by_cases h3 : 4294967296 ≤ rn + a
        · have ht3 : decide (4294967296 ≤ (rn : Int) + a) = true := decide_eq_true (by omega)
          have hle := half_brk (q := qn - 1) (r := rn + a) (u := U) (d := d1) (a := a) (b := b) (R := 4294967296) hdn (by omega) (by omega) h3 (by omega)
          rw [hYab.out, ← hQ1.out] at hle
          replace hdn := Hd.mk hdn
          go_wp2
          go_meet
          exact ⟨rfl, by rw [show qn - 1 = Q1 by omega]⟩
        · have ht3 : decide (4294967296 ≤ (rn : Int) + a) = false := decide_eq_false (by omega)
          replace hdn := Hd.mk hdn
          go_wp2
          go_roundw
          case rel => exact ⟨qn - 1, rn + a, rfl, rfl, ⟨hdn.out, by rw [hYab.out, ← hQ1.out]; omega, by omega, by omega⟩, trivial⟩
          case measure => simp [intOf]; omega
      · have ht : decide (4294967296 ≤ (qn : Int)) = false := decide_eq_false (fun h => h1 ((R_le qn).1 h))
        have hw3 := wrapA qn b (by omega) hbR
        have hw4 := wrapB rn hi4
        have hw5 := wrapC rn d1 hi4 hd1R
        by_cases h2 : 4294967296 * rn + d1 < qn * b
        · have ht2 : decide (4294967296 * (rn : Int) + d1 < (qn : Int) * b) = true := decide_eq_true ((half_cmp qn rn b d1).2 h2)
          have hlt := half_gt (q := qn) (r := rn) (u := U) (d := d1) (a := a) (b := b) hd1R hi1.out (.inr h2) (by rw [hYab.out]; exact hUY)
          rw [hYab.out, ← hQ1.out] at hlt
          have hw1 := wrapD qn (by omega) (by unfold BB; omega)
          have hw2 := wrapE rn a hi4 haR
          replace h2 := Hd.mk h2
          have hdn := half_dn hi1.out (by omega : 0 < qn)
          by_cases h3 : 4294967296 ≤ rn + a
          · have ht3 : decide (4294967296 ≤ (rn : Int) + a) = true := decide_eq_true (by omega)
            have hle := half_brk (q := qn - 1) (r := rn + a) (u := U) (d := d1) (a := a) (b := b) (R := 4294967296) hdn (by omega) (by omega) h3 (by omega)
            rw [hYab.out, ← hQ1.out] at hle
            replace hdn := Hd.mk hdn
            go_wp2
            go_meet
            exact ⟨rfl, by rw [show qn - 1 = Q1 by omega]⟩
          · have ht3 : decide (4294967296 ≤ (rn : Int) + a) = false := decide_eq_false (by omega)
            replace hdn := Hd.mk hdn
            go_wp2
            go_roundw
            case rel => exact ⟨qn - 1, rn + a, rfl, rfl, ⟨hdn.out, by rw [hYab.out, ← hQ1.out]; omega, by omega, by omega⟩, trivial⟩
            case measure => simp [intOf]; omega
        · have ht2 : decide (4294967296 * (rn : Int) + d1 < (qn : Int) * b) = false := decide_eq_false (fun h => h2 ((half_cmp qn rn b d1).1 h))
          have hle := half_le (q := qn) (r := rn) (u := U) (d := d1) (a := a) (b := b) (R := 4294967296) hi1.out (Nat.le_of_not_lt h2) (by omega)
          rw [hYab.out, ← hQ1.out] at hle
          replace h2 := Hd.mk h2
          go_wp2
          go_meet
          exact ⟨rfl, by rw [Nat.le_antisymm hle hi2]⟩
  case rest =>
    obtain ⟨rfl, rfl⟩ := hcut
    have hr1Y : r1 < Y := hr1.out ▸ Nat.mod_lt _ (by omega)
    have hx : r1 + Q1 * Y = U * 4294967296 + d1 := by have := Nat.div_add_mod (U * 4294967296 + d1) Y; rw [← hr1.out, ← hQ1.out, Nat.mul_comm] at this; omega
    have hf1 : IntKind.u64.wrap ((U : Int) * 4294967296) = ((U * 4294967296 % BB : Nat) : Int) := wrap_shl U 32
    generalize hm1 : U * 4294967296 % BB = m1 at hf1
    have hf2 : IntKind.u64.wrap ((m1 : Int) + d1) = (((m1 + d1) % BB : Nat) : Int) := wrapN _
    generalize hm2 : (m1 + d1) % BB = m2 at hf2
    have hf3 : IntKind.u64.wrap ((Q1 : Int) * Y) = ((Q1 * Y % BB : Nat) : Int) := wrapN _
    generalize hm3 : Q1 * Y % BB = m3 at hf3
    have hf4 : IntKind.u64.wrap ((m2 : Int) - m3) = ((r1 : Nat) : Int) := wrap_back hx hm1 hm2 hm3 (by omega)
    have hq3 : IntKind.u64.wrap ((r1 : Int) / (a : Int)) = ((p0 : Nat) : Int) := by rw [← Int.natCast_ediv, ← hp0]; exact u64_nat _ (hp0 ▸ Nat.lt_of_le_of_lt (Nat.div_le_self _ _) (by omega))
    have hq4 : IntKind.u64.wrap ((r1 : Int) - IntKind.u64.wrap ((p0 : Int) * (a : Int))) = ((s0 : Nat) : Int) := by
      have h1 := Nat.div_add_mod r1 a
      have h2 : r1 / a * a ≤ r1 := Nat.div_mul_le_self r1 a
      rw [← hp0] at h1 h2
      rw [← hs0] at h1
      rw [← Int.natCast_mul, u64_nat _ (by omega), ← Int.ofNat_sub h2, u64_nat _ (by omega)]
      congr 1
      rw [Nat.mul_comm] at h2 ⊢; omega
    have hu0 : (r1 * 4294967296 + d0) / Y < 4294967296 := by
      rw [Nat.div_lt_iff_lt_mul (by omega)]
      have : (r1 + 1) * 4294967296 ≤ Y * 4294967296 := Nat.mul_le_mul_right _ hr1Y
      rw [Nat.add_mul, Nat.one_mul] at this
      rw [Nat.mul_comm _ Y]; omega
    rw [← hQ0.out] at hu0
    rw [← hQ1.out] at hu1
    replace hp0 := Hd.mk hp0
    replace hs0 := Hd.mk hs0
    replace hm1 := Hd.mk hm1
    replace hm2 := Hd.mk hm2
    replace hm3 := Hd.mk hm3
    replace hx := Hd.mk hx
    go_upto_block 2 with fail
    go_cut [18] (fun q wx => wx = wc ∧ q = .int .u64 (Q0 : Nat))
    case first =>
      have hJ1 : (r1 * 4294967296 + d0) / (a * 4294967296 + b) ≤ p0 := by
        rw [hp0.out]; exact half_first (by omega) hd0R
      have hJ2 : p0 ≤ 4294967297 := by
        have := half_top (u := r1) (a := a) (b := b) haH hbR (by omega) (by rw [hYab.out]; exact hr1Y)
        rw [← hp0.out] at this; omega
      have hs0a : s0 < a := by rw [hs0.out]; exact Nat.mod_lt _ (by omega)
      replace hJ1 := Hd.mk hJ1
      go_wp2
      go_loopw [18, 16] (fun q r wr => ∃ qn rn : Nat, q = .int .u64 qn ∧ r = .int .u64 rn ∧ Hd (HalfI a b r1 d0 qn rn) ∧ wr = wc) (fun q _ _ => (intOf q).toNat)
      case atStart => exact ⟨p0, s0, rfl, rfl, ⟨by rw [hp0.out, hs0.out, Nat.mul_comm]; exact Nat.div_add_mod r1 a, hJ1.out, hJ2, by omega⟩, rfl⟩
      case round =>
        obtain ⟨qn, rn, rfl, rfl, hI, rfl⟩ := hrel
        obtain ⟨hi1, hi2, hi3, hi4⟩ := hI.out
        rw [hYab.out, ← hQ0.out] at hi2
        replace hi1 := Hd.mk hi1
        by_cases h1 : 4294967296 ≤ qn
        · have ht : decide (4294967296 ≤ (qn : Int)) = true := decide_eq_true ((R_le qn).2 h1)
          have hlt := half_gt (q := qn) (r := rn) (u := r1) (d := d0) (a := a) (b := b) hd0R hi1.out (.inl h1) (by rw [hYab.out]; exact hr1Y)
          rw [hYab.out, ← hQ0.out] at hlt
          have hw1 := wrapD qn (by omega) (by unfold BB; omega)
          have hw2 := wrapE rn a hi4 haR
          have hdn := half_dn hi1.out (by omega : 0 < qn)
          by_cases h3 : 4294967296 ≤ rn + a
          · have ht3 : decide (4294967296 ≤ (rn : Int) + a) = true := decide_eq_true (by omega)
            have hle := half_brk (q := qn - 1) (r := rn + a) (u := r1) (d := d0) (a := a) (b := b) (R := 4294967296) hdn (by omega) (by omega) h3 (by omega)
            rw [hYab.out, ← hQ0.out] at hle
            replace hdn := Hd.mk hdn
            go_wp2
            go_meet
            exact ⟨rfl, by rw [show qn - 1 = Q0 by omega]⟩
          · have ht3 : decide (4294967296 ≤ (rn : Int) + a) = false := decide_eq_false (by omega)
            replace hdn := Hd.mk hdn
            go_wp2
            go_roundw
            case rel => exact ⟨qn - 1, rn + a, rfl, rfl, ⟨hdn.out, by rw [hYab.out, ← hQ0.out]; omega, by omega, by omega⟩, trivial⟩
            case measure => simp [intOf]; omega
        · have ht : decide (4294967296 ≤ (qn : Int)) = false := decide_eq_false (fun h => h1 ((R_le qn).1 h))
          have hw3 := wrapA qn b (by omega) hbR
          have hw4 := wrapB rn hi4
          have hw5 := wrapC rn d0 hi4 hd0R
          by_cases h2 : 4294967296 * rn + d0 < qn * b
          · have ht2 : decide (4294967296 * (rn : Int) + d0 < (qn : Int) * b) = true := decide_eq_true ((half_cmp qn rn b d0).2 h2)
            have hlt := half_gt (q := qn) (r := rn) (u := r1) (d := d0) (a := a) (b := b) hd0R hi1.out (.inr h2) (by rw [hYab.out]; exact hr1Y)
            rw [hYab.out, ← hQ0.out] at hlt
            have hw1 := wrapD qn (by omega) (by unfold BB; omega)
            have hw2 := wrapE rn a hi4 haR
            replace h2 := Hd.mk h2
            have hdn := half_dn hi1.out (by omega : 0 < qn)
            by_cases h3 : 4294967296 ≤ rn + a
            · have ht3 : decide (4294967296 ≤ (rn : Int) + a) = true := decide_eq_true (by omega)
              have hle := half_brk (q := qn - 1) (r := rn + a) (u := r1) (d := d0) (a := a) (b := b) (R := 4294967296) hdn (by omega) (by omega) h3 (by omega)
              rw [hYab.out, ← hQ0.out] at hle
              replace hdn := Hd.mk hdn
              go_wp2
              go_meet
              exact ⟨rfl, by rw [show qn - 1 = Q0 by omega]⟩
            · have ht3 : decide (4294967296 ≤ (rn : Int) + a) = false := decide_eq_false (by omega)
              replace hdn := Hd.mk hdn
              go_wp2
              go_roundw
              case rel => exact ⟨qn - 1, rn + a, rfl, rfl, ⟨hdn.out, by rw [hYab.out, ← hQ0.out]; omega, by omega, by omega⟩, trivial⟩
              case measure => simp [intOf]; omega
          · have ht2 : decide (4294967296 * (rn : Int) + d0 < (qn : Int) * b) = false := decide_eq_false (fun h => h2 ((half_cmp qn rn b d0).1 h))
            have hle := half_le (q := qn) (r := rn) (u := r1) (d := d0) (a := a) (b := b) (R := 4294967296) hi1.out (Nat.le_of_not_lt h2) (by omega)
            rw [hYab.out, ← hQ0.out] at hle
            replace h2 := Hd.mk h2
            go_wp2
            go_meet
            exact ⟨rfl, by rw [Nat.le_antisymm hle hi2]⟩
    case rest =>
      obtain ⟨rfl, rfl⟩ := hcut
      obtain ⟨rz, hrz⟩ : ∃ rz, rz = (r1 * 4294967296 + d0) % Y := ⟨_, rfl⟩
      have hrzY : rz < Y := hrz ▸ Nat.mod_lt _ (by omega)
      have hy' : rz + Q0 * Y = r1 * 4294967296 + d0 := by have := Nat.div_add_mod (r1 * 4294967296 + d0) Y; rw [← hrz, ← hQ0.out, Nat.mul_comm] at this; omega
      have hk1 : IntKind.u64.wrap ((r1 : Int) * 4294967296) = ((r1 * 4294967296 % BB : Nat) : Int) := wrap_shl r1 32
      generalize hn1 : r1 * 4294967296 % BB = n1 at hk1
      have hk2 : IntKind.u64.wrap ((n1 : Int) + d0) = (((n1 + d0) % BB : Nat) : Int) := wrapN _
      generalize hn2 : (n1 + d0) % BB = n2 at hk2
      have hk3 : IntKind.u64.wrap ((Q0 : Int) * Y) = ((Q0 * Y % BB : Nat) : Int) := wrapN _
      generalize hn3 : Q0 * Y % BB = n3 at hk3
      have hk4 : IntKind.u64.wrap ((n2 : Int) - n3) = ((rz : Nat) : Int) := wrap_back hy' hn1 hn2 hn3 (by omega)
      have hk5 : IntKind.u64.wrap ((Q1 : Int) * 4294967296) = (Q1 : Int) * 4294967296 := IntWalk.u64_in _ (by omega)
      have hk6 : IntKind.u64.wrap ((Q1 : Int) * 4294967296 + Q0) = (Q1 : Int) * 4294967296 + Q0 := IntWalk.u64_in _ (by omega)
      have hdt := div_two (u := U) (d0 := d0) (d1 := d1) (y := Y) (R := 4294967296) (by omega)
      have hUL : U * (4294967296 * 4294967296) + d1 * 4294967296 + d0 = U * BB + L := halves hLd.out
      rw [hUL, ← hr1.out, ← hQ1.out, ← hQ0.out, ← hrz] at hdt
      have hk7 := cast_shr rz s
      obtain ⟨hdt1, hdt2⟩ := hdt
      generalize hrs : rz / 2 ^ s = rs at hk7
      replace hrz := Hd.mk hrz
      replace hy' := Hd.mk hy'
      replace hn1 := Hd.mk hn1
      replace hn2 := Hd.mk hn2
      replace hn3 := Hd.mk hn3
      replace hdt1 := Hd.mk hdt1
      replace hdt2 := Hd.mk hdt2
      replace hUL := Hd.mk hUL
      replace hrs := Hd.mk hrs
      go_wp2
      go_ret2
      refine ⟨?_, 0, rfl⟩
      rw [← hdt1.out, ← hdt2.out, hrs.out]
      rfl

theorem norm_sc {hi lo y s : Nat} (h : hi < y) (hl : lo < BB) (hs : s ≤ 63) (hYB : y * 2 ^ s < BB) :
    hi * 2 ^ s % BB + lo / 2 ^ (64 - s) < y * 2 ^ s ∧ (hi * 2 ^ s % BB + lo / 2 ^ (64 - s)) * BB + lo * 2 ^ s % BB = (hi * BB + lo) * 2 ^ s := by
  have hP : 2 ^ (64 - s) * 2 ^ s = BB := by rw [← Nat.pow_add, show 64 - s + s = 64 by omega]; rfl
  have h1 : (hi + 1) * 2 ^ s ≤ y * 2 ^ s := Nat.mul_le_mul_right _ h
  rw [Nat.add_mul, Nat.one_mul] at h1
  have h2 : lo / 2 ^ (64 - s) < 2 ^ s := by rw [Nat.div_lt_iff_lt_mul (Nat.two_pow_pos _), Nat.mul_comm, hP]; exact hl
  have h4 : lo * 2 ^ s / BB = lo / 2 ^ (64 - s) := by rw [← hP, Nat.mul_div_mul_right _ _ (Nat.two_pow_pos s)]
  generalize lo / 2 ^ (64 - s) = t at *
  generalize 2 ^ s = P at *
  have h3 : hi * P % BB = hi * P := Nat.mod_eq_of_lt (by omega)
  rw [h3]
  refine ⟨by omega, ?_⟩
  have h5 := Nat.div_add_mod (lo * P) BB
  rw [h4] at h5
  rw [Nat.add_mul, Nat.add_mul]
  rw [Nat.mul_comm BB] at h5
  rw [Nat.mul_right_comm hi BB]; omega
theorem bitLen_sc {y : Nat} (hy : y < BB) (h0 : y ≠ 0) : ∃ s, s ≤ 63 ∧ Lib.bitLen y = 64 - s ∧ y * 2 ^ s < BB ∧ BB ≤ 2 * (y * 2 ^ s) := by
  obtain ⟨h1, h2, h3, h4⟩ := bitLen_spec hy h0
  refine ⟨64 - Lib.bitLen y, by omega, by omega, ?_, ?_⟩
  · have : y * 2 ^ (64 - Lib.bitLen y) < 2 ^ Lib.bitLen y * 2 ^ (64 - Lib.bitLen y) := Nat.mul_lt_mul_of_pos_right h2 (Nat.two_pow_pos _)
    rwa [← Nat.pow_add, show Lib.bitLen y + (64 - Lib.bitLen y) = 64 by omega] at this
  · have : 2 ^ (Lib.bitLen y - 1) * 2 ^ (64 - Lib.bitLen y) ≤ y * 2 ^ (64 - Lib.bitLen y) := Nat.mul_le_mul_right _ h1
    rw [← Nat.pow_add, show Lib.bitLen y - 1 + (64 - Lib.bitLen y) = 63 by omega] at this
    show 2 * 2 ^ 63 ≤ _
    omega
theorem bitsDiv64_any (hi lo y : Nat) (w : World) (h : hi < y) (hl : lo < BB) (hy : y < BB) :
    Calls Tryz.prog 347 #[.int .u64 hi, .int .u64 lo, .int .u64 y] w fun e w' =>
      e = .returned (.tuple #[.int .u64 ((hi * BB + lo) / y : Nat), .int .u64 ((hi * BB + lo) % y : Nat)]) ∧ ∃ q, w' = w.drewN q := by
  by_cases h0 : hi = 0
  · subst h0
    have hd0 : ((y : Int) == 0) = false := by simp; omega
    have hd1 : decide ((y : Int) ≤ (0 : Int)) = false := by simp; omega
    rw [Nat.zero_mul, Nat.zero_add]
    have hq1 : IntKind.u64.wrap ((lo : Int) / (y : Int)) = ((lo / y : Nat) : Int) := by rw [← Int.natCast_ediv]; exact u64_nat _ (Nat.lt_of_le_of_lt (Nat.div_le_self _ _) hl)
    have hq2 : IntKind.u64.wrap ((lo : Int) % (y : Int)) = ((lo % y : Nat) : Int) := by rw [← Int.natCast_emod]; exact u64_nat _ (Nat.lt_of_le_of_lt (Nat.mod_le _ _) hl)
    go_enter Tryz.func347, Tryz.ntmps347
    go_wp2
    go_quiet (fail)
    go_wp2
    go_ret2
    exact ⟨rfl, _, rfl⟩
  · obtain ⟨s, hs, hlen, hYB, hY2⟩ := bitLen_sc hy (by omega)
    obtain ⟨hUY, hUL⟩ := norm_sc h hl hs hYB
    refine (bitsDiv64_core hi lo y s _ _ _ _ _ _ _ _ _ _ _ _ _ _ rfl rfl rfl rfl rfl rfl rfl w h h0 hl hy hs hlen rfl hYB hY2 rfl rfl rfl hUY rfl rfl rfl).mono ?_
    rintro e w' ⟨rfl, hw⟩
    rw [hUL, div_sc.1, div_sc.2]
    exact ⟨rfl, hw⟩
theorem bitsDiv_any (hi lo y : Nat) (w : World) (h : hi < y) (hl : lo < BB) (hy : y < BB) :
    Calls Tryz.prog 317 #[.int .u64 hi, .int .u64 lo, .int .u64 y] w fun e w' =>
      e = .returned (.tuple #[.int .u64 ((hi * BB + lo) / y : Nat), .int .u64 ((hi * BB + lo) % y : Nat)]) ∧ ∃ q, w' = w.drewN q := by
  have hc := Hd.mk fun w => bitsDiv64_any hi lo y w h hl hy
  generalize (hi * BB + lo) / y = a at *
  generalize (hi * BB + lo) % y = b at *
  go_enter Tryz.func317, Tryz.ntmps317
  go_wp2_with fail
  refine (hc.out _).mono ?_
  rintro e w' ⟨rfl, q, rfl⟩
  go_wp2
  go_ret2
  exact ⟨rfl, q, rfl⟩

theorem nat_not {d : Nat} (h : d < 2 ^ 64) : (2 ^ 64 - 1) ^^^ d = 2 ^ 64 - (d + 1) := by
  apply Nat.eq_of_testBit_eq
  intro i
  rw [Nat.testBit_xor, Nat.testBit_two_pow_sub_one, Nat.testBit_two_pow_sub_succ h]
  by_cases hi : i < 64
  · simp [hi]
  · have : d.testBit i = false := Nat.testBit_lt_two_pow (Nat.lt_of_lt_of_le h (Nat.pow_le_pow_right (by omega) (by omega)))
    simp [hi, this]
theorem u64_not {d : Nat} (h : d < BB) : Go.bits BinOp.xor IntKind.u64 IntKind.u64.max (d : Int) = ((BB - 1 - d : Nat) : Int) := by
  show IntKind.u64.wrap ((BitVec.ofInt 64 ((18446744073709551615 : Nat) : Int) ^^^ BitVec.ofInt 64 (d : Int)).toNat : Int) = _
  rw [BitVec.toNat_xor, ofInt_u64 _ (by omega), ofInt_u64 d h, show (18446744073709551615 : Nat) = 2 ^ 64 - 1 from rfl, nat_not h]
  unfold BB at *
  rw [u64_nat _ (by unfold BB; omega)]
  omega
/-- The reciprocal of a word. -/
def rcp (y : Nat) : Nat := let d := y * 2 ^ (64 - Lib.bitLen y); ((BB - 1 - d) * BB + (BB - 1)) / d
theorem rcp_spec {y s : Nat} (hs : Lib.bitLen y = 64 - s) (h63 : s ≤ 63) (hYB : y * 2 ^ s < BB) (h0 : 0 < y * 2 ^ s) : ∃ e, (rcp y + BB) * (y * 2 ^ s) + e = BB * BB - 1 ∧ e < y * 2 ^ s := by
  unfold rcp
  rw [hs, show 64 - (64 - s) = s by omega]
  generalize y * 2 ^ s = d at *
  refine ⟨((BB - 1 - d) * BB + (BB - 1)) % d, ?_, Nat.mod_lt _ h0⟩
  have h := Nat.div_add_mod ((BB - 1 - d) * BB + (BB - 1)) d
  simp only []
  generalize ((BB - 1 - d) * BB + (BB - 1)) / d = q at *
  generalize ((BB - 1 - d) * BB + (BB - 1)) % d = e at *
  rw [Nat.add_mul, Nat.mul_comm q]
  have h1 : (BB - 1 - d) * BB = BB * BB - BB - d * BB := by rw [Nat.sub_mul, Nat.sub_mul, Nat.one_mul]
  have h2 : d * BB + BB ≤ BB * BB := by
    have := Nat.mul_le_mul_right BB (show d + 1 ≤ BB from hYB)
    rwa [Nat.add_mul, Nat.one_mul] at this
  rw [Nat.mul_comm BB d]
  have := BB_pos
  omega
theorem reciprocalWord_any (y : Nat) (w : World) (h0 : 0 < y) (hy : y < BB) :
    Calls Tryz.prog 318 #[.int .u64 y] w fun e w' => e = .returned (.int .u64 (rcp y)) ∧ ∃ q, w' = w.drewN q := by
  obtain ⟨s, hs, hlen, hYB, hY2⟩ := bitLen_sc hy (by omega)
  have hr : rcp y = ((BB - 1 - y * 2 ^ s) * BB + (BB - 1)) / (y * 2 ^ s) := by unfold rcp; rw [hlen, show 64 - (64 - s) = s by omega]
  have hc := Hd.mk fun w => bitsDiv_any (BB - 1 - y * 2 ^ s) (BB - 1) (y * 2 ^ s) w (by have := BB_pos; omega) (by have := BB_pos; omega) hYB
  rw [← hr] at hc
  have hn := Hd.mk fun w => (nlz_any y hy (by omega) w).mono (R' := fun e w' => e = .returned (.int .u64 (s : Nat)) ∧ w = w') (by rintro e w' ⟨rfl, rfl⟩; rw [hlen]; exact ⟨by congr 3; omega, rfl⟩)
  have e1 : IntKind.u64.wrap ((y : Int) * 2 ^ s) = ((y * 2 ^ s : Nat) : Int) := by rw [wrap_shl, Nat.mod_eq_of_lt hYB]
  generalize y * 2 ^ s = d at *
  have e2 := u64_not hYB
  have e3 : (18446744073709551615 : Int) = ((BB - 1 : Nat) : Int) := rfl
  generalize BB - 1 - d = d2 at *
  generalize hm : BB - 1 = m at *
  replace hr := Hd.mk hr
  generalize rcp y = rc at *
  go_enter Tryz.func318, Tryz.ntmps318
  go_wp2_with (go_at_call 284; refine (hn.out _).mono ?_; rintro e w' ⟨rfl, rfl⟩)
  refine (hc.out _).mono ?_
  rintro e w' ⟨rfl, q, rfl⟩
  go_wp2
  go_ret
  exact ⟨rfl, q, rfl⟩

end Go.Proofs.YtdbjdpooggaonaaGreatDoor
end

section
namespace Go.Proofs.YtdbjdpooggaonaaGreatDoor
open Go.RowKit
set_option maxRecDepth 100000
theorem dvw_t {d m e X1 X0 : Nat} (hm : (m + BB) * d + e = BB * BB - 1) (hd : d < BB) (h1 : X1 < d) (h0 : X0 < BB) (_he : e < d) :
    addS (mulK m X1) X1 (addK (mulS m X1) X0 0) = (X1 * (m + BB) + X0) / BB ∧ d * ((X1 * (m + BB) + X0) / BB) ≤ X1 * BB + X0 ∧ (X1 * (m + BB) + X0) / BB < BB := by
  have hle := rec_le (x1 := X1) (x0 := X0) hm BB_pos (by omega)
  have hlt : (X1 * (m + BB) + X0) / BB < BB := by
    have h2 : X1 * BB + X0 < d * BB := by
      have := Nat.mul_le_mul_right BB (show X1 + 1 ≤ d from h1)
      rw [Nat.add_mul, Nat.one_mul] at this; omega
    exact Nat.lt_of_mul_lt_mul_left (a := d) (by omega)
  refine ⟨?_, hle, hlt⟩
  have hdm := Nat.div_add_mod (m * X1) BB
  have e1 : (X1 * (m + BB) + X0) / BB = mulK m X1 + X1 + addK (mulS m X1) X0 0 := by
    unfold mulK addK mulS
    rw [show X1 * (m + BB) + X0 = BB * (m * X1 / BB + X1) + (m * X1 % BB + X0) by rw [Nat.mul_add, Nat.mul_add, Nat.mul_comm X1 m, Nat.mul_comm X1 BB]; omega, Nat.mul_add_div BB_pos]
    simp
  rw [e1] at hlt
  rw [e1]
  unfold addS
  exact Nat.mod_eq_of_lt hlt
theorem dvw_r {d t X1 X0 : Nat} (hd : d < BB) (h1 : X1 < BB) (h0 : X0 < BB) (ht : t < BB) (hle : d * t ≤ X1 * BB + X0) :
    subS X1 (mulK d t) (subK X0 (mulS d t) 0) * BB + subS X0 (mulS d t) 0 = X1 * BB + X0 - d * t := by
  have hdm := Nat.div_add_mod (d * t) BB
  have hs : mulS d t < BB := mulS_lt _ _
  have hk : mulK d t < BB := by unfold mulK; rw [Nat.div_lt_iff_lt_mul BB_pos]; exact Nat.mul_lt_mul'' hd ht
  have e : d * t = BB * mulK d t + mulS d t := by unfold mulK mulS; omega
  rw [e] at hle ⊢
  generalize mulK d t = k at *
  generalize mulS d t = s at *
  unfold subS subK
  unfold BB at *
  by_cases hb : X0 < s + 0
  · rw [if_pos hb]; omega
  · rw [if_neg hb]; omega
theorem dvw_q {N d t r : Nat} (h0 : 0 < d) (hr : r = N - d * t) (hle : d * t ≤ N) (h : r < d) : N / d = t ∧ N % d = r := by
  have e : N = d * t + r := by omega
  rw [e, Nat.mul_add_div h0, Nat.mul_add_mod, Nat.div_eq_of_lt h, Nat.mod_eq_of_lt h]
  exact ⟨rfl, rfl⟩
theorem dvw_q1 {N d t r : Nat} (h0 : 0 < d) (hr : r = N - d * t) (hle : d * t ≤ N) (h1 : d ≤ r) (h : r - d < d) : N / d = t + 1 ∧ N % d = r - d :=
  dvw_q h0 (by rw [Nat.mul_add, Nat.mul_one]; omega) (by rw [Nat.mul_add, Nat.mul_one]; omega) h
theorem dvw_q2 {N d t r : Nat} (h0 : 0 < d) (hr : r = N - d * t) (hle : d * t ≤ N) (h1 : d ≤ r) (h2 : d ≤ r - d) (h : r - d - d < d) : N / d = t + 2 ∧ N % d = r - d - d :=
  dvw_q1 h0 (by rw [Nat.mul_add, Nat.mul_one]; omega) (by rw [Nat.mul_add, Nat.mul_one]; omega) h2 h
set_option maxHeartbeats 1000000 in
theorem divWW_any (x1 x0 y : Nat) (w : World) (h : x1 < y) (hx0 : x0 < BB) (hy : y < BB) :
    Calls Tryz.prog 319 #[.int .u64 x1, .int .u64 x0, .int .u64 y, .int .u64 (rcp y)] w fun e w' => e = .returned (.tuple #[.int .u64 ((x1 * BB + x0) / y : Nat), .int .u64 ((x1 * BB + x0) % y : Nat)]) ∧ w = w' := by
  obtain ⟨s, hs, hlen, hYB, hY2⟩ := bitLen_sc hy (by omega)
  obtain ⟨hUY, hUL⟩ := norm_sc h hx0 hs hYB
  obtain ⟨e, hm, he⟩ := rcp_spec hlen hs hYB (by have := BB_pos; omega)
  have hn := Hd.mk fun w => (nlz_any y hy (by omega) w).mono (R' := fun e w' => e = .returned (.int .u64 (s : Nat)) ∧ w = w') (by rintro e w' ⟨rfl, rfl⟩; rw [hlen]; exact ⟨by congr 3; omega, rfl⟩)
  have hmB : rcp y < BB := by
    have h1 : rcp y * (y * 2 ^ s) < BB * (y * 2 ^ s) := by
      rw [Nat.add_mul] at hm
      have h2 : BB * BB ≤ BB * (2 * (y * 2 ^ s)) := Nat.mul_le_mul_left _ hY2
      rw [Nat.mul_left_comm] at h2
      have := BB_pos
      have : 0 < BB * BB := Nat.mul_pos BB_pos BB_pos
      omega
    exact Nat.lt_of_mul_lt_mul_right h1
  have hdiv : (x1 * BB + x0) / y = ((x1 * 2 ^ s % BB + x0 / 2 ^ (64 - s)) * BB + x0 * 2 ^ s % BB) / (y * 2 ^ s) ∧ (x1 * BB + x0) % y = ((x1 * 2 ^ s % BB + x0 / 2 ^ (64 - s)) * BB + x0 * 2 ^ s % BB) % (y * 2 ^ s) / 2 ^ s := by
    rw [hUL, div_sc.1, div_sc.2]; exact ⟨rfl, rfl⟩
  have e1 : IntKind.u64.wrap ((y : Int) * 2 ^ s) = ((y * 2 ^ s : Nat) : Int) := by rw [wrap_shl, Nat.mod_eq_of_lt hYB]
  have e4 := or_shl (x := x1) (y := x0) (s := s) (by omega) hx0 (by omega)
  have e5 := wrap_shl x0 s
  have hsI : IntKind.u64.wrap (64 - (s : Int)) = ((64 - s : Nat) : Int) := by rw [IntWalk.u64_in _ (by omega)]; omega
  have hz : s = 0 → y * 2 ^ s = y ∧ x1 * 2 ^ s % BB + x0 / 2 ^ (64 - s) = x1 ∧ x0 * 2 ^ s % BB = x0 := by
    rintro rfl
    have : x0 / 2 ^ (64 - 0) = 0 := Nat.div_eq_of_lt hx0
    rw [this, Nat.pow_zero, Nat.mul_one, Nat.mul_one, Nat.mul_one, Nat.mod_eq_of_lt hx0, Nat.mod_eq_of_lt (by omega)]
    exact ⟨rfl, rfl, rfl⟩
  generalize hd : y * 2 ^ s = d at *
  generalize hX1 : x1 * 2 ^ s % BB + x0 / 2 ^ (64 - s) = X1 at *
  have hX0B : x0 * 2 ^ s % BB < BB := Nat.mod_lt _ BB_pos
  generalize hX0 : x0 * 2 ^ s % BB = X0 at *
  generalize rcp y = m at *
  obtain ⟨ht1, ht2, ht3⟩ := dvw_t hm hYB hUY hX0B he
  have hlt := rec_lt hm he hYB hUY hX0B
  have hr := dvw_r hYB (by omega) hX0B ht3 ht2
  rw [← ht1] at hr ht2 ht3 hlt
  generalize htt : addS (mulK m X1) X1 (addK (mulS m X1) X0 0) = t at *
  have hr0 : subS X0 (mulS d t) 0 < BB := Nat.mod_lt _ BB_pos
  have hr1 : subS X1 (mulK d t) (subK X0 (mulS d t) 0) < BB := Nat.mod_lt _ BB_pos
  generalize hrr0 : subS X0 (mulS d t) 0 = r0 at *
  generalize hrr1 : subS X1 (mulK d t) (subK X0 (mulS d t) 0) = r1 at *
  have hsum : addK (mulS m X1) X0 0 ≤ 1 := addK_le (mulS_lt _ _) hX0B
  have hsub := subK_le X0 (mulS d t) 0
  obtain ⟨hdiv1, hdiv2⟩ := hdiv
  rw [hdiv1, hdiv2]
  clear hdiv1 hdiv2
  obtain ⟨N, hNN⟩ : ∃ N, N = X1 * BB + X0 := ⟨_, rfl⟩
  rw [← hNN] at hr ht2 hlt ⊢
  replace hNN := Hd.mk hNN
  replace hm := Hd.mk hm
  replace hz := Hd.mk hz
  replace hUL := Hd.mk hUL
  replace hd := Hd.mk hd
  replace hX1 := Hd.mk hX1
  replace hX0 := Hd.mk hX0
  replace ht1 := Hd.mk ht1
  replace ht2 := Hd.mk ht2
  replace hlt := Hd.mk hlt
  replace hr := Hd.mk hr
  replace htt := Hd.mk htt
  replace hrr0 := Hd.mk hrr0
  replace hrr1 := Hd.mk hrr1
  go_enter Tryz.func319, Tryz.ntmps319
  go_upto_if 26 with (go_at_call 284; refine (hn.out _).mono ?_; rintro e w' ⟨rfl, rfl⟩)
  go_cut [0, 1, 2] (fun a b c wx => a = .int .u64 X1 ∧ b = .int .u64 X0 ∧ c = .int .u64 d ∧ wx = w)
  case first =>
    by_cases hs0 : s = 0
    · obtain ⟨z1, z2, z3⟩ := hz.out hs0
      have hb : ((s : Int) != 0) = false := by simp [hs0]
      replace hs0 := Hd.mk hs0
      go_wp2
      go_meet
      exact ⟨by rw [z2], by rw [z3], by rw [z1], rfl⟩
    · have hb : ((s : Int) != 0) = true := by simp [hs0]
      replace hs0 := Hd.mk hs0
      go_wp2
      go_meet
      exact ⟨rfl, rfl, rfl, rfl⟩
  case rest =>
    obtain ⟨rfl, rfl, rfl, rfl⟩ := hcut
    have hX1B : X1 < BB := by omega
    go_wp2_with fail
    refine (Mul_any m X1 hmB hX1B _).mono ?_
    rintro e w' ⟨rfl, rfl⟩
    go_wp2_with fail
    refine (Add_any (mulS m X1) X0 0 (by omega) _).mono ?_
    rintro e w' ⟨rfl, rfl⟩
    go_wp2_with fail
    refine (Add_any (mulK m X1) X1 _ hsum _).mono ?_
    rintro e w' ⟨rfl, rfl⟩
    rw [htt.out]
    go_wp2_with fail
    refine (Mul_any d t hYB ht3 _).mono ?_
    rintro e w' ⟨rfl, rfl⟩
    go_wp2_with fail
    refine (Sub_any X0 (mulS d t) 0 (by omega) _).mono ?_
    rintro e w' ⟨rfl, rfl⟩
    rw [hrr0.out]
    go_wp2_with fail
    refine (Sub_any X1 (mulK d t) _ hsub _).mono ?_
    rintro e w' ⟨rfl, rfl⟩
    rw [hrr1.out]
    have hd0 : 0 < d := by omega
    have hqB : N / d < BB := by
      rw [Nat.div_lt_iff_lt_mul hd0, hNN.out]
      have := Nat.mul_le_mul_right BB (show X1 + 1 ≤ d from hUY)
      rw [Nat.add_mul, Nat.one_mul] at this
      rw [Nat.mul_comm BB]; omega
    have hr' := hr.out
    have hle' := ht2.out
    have hlt' := hlt.out
    have hr1c : r1 = 0 ∨ r1 = 1 := by
      have h9 : r1 < 2 := by
        refine Nat.lt_of_mul_lt_mul_right (a := BB) ?_
        omega
      omega
    rcases hr1c with hr1z | hr1z
    · have hb0 : ((r1 : Int) != 0) = false := by simp [hr1z]
      rw [hr1z, Nat.zero_mul, Nat.zero_add] at hr'
      replace hr1z := Hd.mk hr1z
      by_cases hge : d ≤ r0
      · have hg : decide ((d : Int) ≤ (r0 : Int)) = true := decide_eq_true (by omega)
        have hw1 : IntKind.u64.wrap ((r0 : Int) - d) = ((r0 - d : Nat) : Int) := by unfold BB at *; rw [IntWalk.u64_in _ (by omega)]; omega
        obtain ⟨k1, k2⟩ := dvw_q1 hd0 hr' hle' hge (by omega)
        have hw2 : IntKind.u64.wrap ((t : Int) + 1) = ((t + 1 : Nat) : Int) := u64_nat (t + 1) (k1 ▸ hqB)
        clear hr' hle' hlt' hqB
        replace k1 := Hd.mk k1
        replace k2 := Hd.mk k2
        go_wp2
        go_ret2
        exact ⟨by rw [k1.out, k2.out, ← cast_shr]; rfl, rfl⟩
      · have hg : decide ((d : Int) ≤ (r0 : Int)) = false := decide_eq_false (by omega)
        obtain ⟨k1, k2⟩ := dvw_q hd0 hr' hle' (by omega)
        clear hr' hle' hlt' hqB
        replace k1 := Hd.mk k1
        replace k2 := Hd.mk k2
        go_wp2
        go_ret2
        exact ⟨by rw [k1.out, k2.out, ← cast_shr]; rfl, rfl⟩
    · have hb0 : ((r1 : Int) != 0) = true := by simp [hr1z]
      rw [hr1z, Nat.one_mul] at hr'
      replace hr1z := Hd.mk hr1z
      have hw1 : IntKind.u64.wrap ((r0 : Int) - d) = ((BB + r0 - d : Nat) : Int) := by
        show ((r0 : Int) - d) % 18446744073709551616 = _
        unfold BB at *; omega
      by_cases hge : d ≤ BB + r0 - d
      · have hg : decide ((d : Int) ≤ ((BB + r0 - d : Nat) : Int)) = true := decide_eq_true (by omega)
        obtain ⟨k1, k2⟩ := dvw_q2 hd0 hr' hle' (by omega) hge (by omega)
        have hw2 : IntKind.u64.wrap ((t : Int) + 1) = ((t + 1 : Nat) : Int) := u64_nat (t + 1) (by omega)
        have hw3 : IntKind.u64.wrap (((t + 1 : Nat) : Int) + 1) = ((t + 2 : Nat) : Int) := u64_nat (t + 2) (k1 ▸ hqB)
        have hw4 : IntKind.u64.wrap (((BB + r0 - d : Nat) : Int) - d) = ((BB + r0 - d - d : Nat) : Int) := by unfold BB at *; rw [IntWalk.u64_in _ (by omega)]; omega
        generalize BB + r0 - d = r2 at *
        generalize hr3 : r2 - d = r3 at *
        generalize t + 2 = t2 at *
        generalize t + 1 = tt at *
        clear hr' hle' hlt' hqB
        replace k1 := Hd.mk k1
        replace k2 := Hd.mk k2
        go_wp2
        go_ret2
        exact ⟨by rw [k1.out, k2.out, ← cast_shr]; rfl, rfl⟩
      · have hg : decide ((d : Int) ≤ ((BB + r0 - d : Nat) : Int)) = false := decide_eq_false (by omega)
        obtain ⟨k1, k2⟩ := dvw_q1 hd0 hr' hle' (by omega) (by omega)
        have hw2 : IntKind.u64.wrap ((t : Int) + 1) = ((t + 1 : Nat) : Int) := u64_nat (t + 1) (k1 ▸ hqB)
        generalize BB + r0 - d = r2 at *
        generalize t + 1 = tt at *
        clear hr' hle' hlt' hqB
        replace k1 := Hd.mk k1
        replace k2 := Hd.mk k2
        go_wp2
        go_ret2
        exact ⟨by rw [k1.out, k2.out, ← cast_shr]; rfl, rfl⟩
end Go.Proofs.YtdbjdpooggaonaaGreatDoor
end

section
namespace Go.Proofs.YtdbjdpooggaonaaGreatDoor
open Go.RowKit
set_option maxRecDepth 100000
/-- The rest behind the k highest words. -/
def dvr (f : Nat → Nat) (y xn n : Nat) : Nat → Nat
  | 0 => xn
  | k + 1 => (dvr f y xn n k * BB + f (n - 1 - k)) % y
def dvq (f : Nat → Nat) (y xn n i : Nat) : Nat := (dvr f y xn n (n - 1 - i) * BB + f i) / y
theorem dvr_lt {f : Nat → Nat} {y xn n : Nat} (h : xn < y) : ∀ k, dvr f y xn n k < y
  | 0 => h
  | k + 1 => Nat.mod_lt _ (by omega)
theorem div_two_lt {a b y : Nat} (h : a < y) (hb : b < BB) : (a * BB + b) / y < BB := by
  rw [Nat.div_lt_iff_lt_mul (by omega)]
  have := Nat.mul_le_mul_right BB (show a + 1 ≤ y from h)
  rw [Nat.add_mul, Nat.one_mul] at this
  rw [Nat.mul_comm BB]; omega
theorem dvq_lt {f : Nat → Nat} {y xn n i : Nat} (h : xn < y) (hf : f i < BB) : dvq f y xn n i < BB := div_two_lt (dvr_lt h _) hf
theorem dv_law {f : Nat → Nat} {y xn n : Nat} : ∀ k, k ≤ n → xn * BB ^ n + val n f + y * val (n - k) (dvq f y xn n) = y * val n (dvq f y xn n) + dvr f y xn n k * BB ^ (n - k) + val (n - k) f
  | 0, _ => by simp only [Nat.sub_zero, dvr]; omega
  | k + 1, hk => by
    have ih := dv_law (f := f) (y := y) (xn := xn) (n := n) k (by omega)
    obtain ⟨m, hm⟩ : ∃ m, n - k = m + 1 := ⟨n - k - 1, by omega⟩
    have h1 : n - (k + 1) = m := by omega
    have h2 : n - 1 - k = m := by omega
    have h3 : n - 1 - m = k := by omega
    rw [hm, val_succ, val_succ, Nat.pow_succ] at ih
    rw [h1]
    have e : dvr f y xn n (k + 1) = (dvr f y xn n k * BB + f m) % y := by rw [dvr, h2]
    have e2 : dvq f y xn n m = (dvr f y xn n k * BB + f m) / y := by rw [dvq, h3]
    have h4 := Nat.div_add_mod (dvr f y xn n k * BB + f m) y
    rw [← e, ← e2] at h4
    generalize dvq f y xn n m = Q at *
    generalize dvr f y xn n (k + 1) = r at *
    generalize dvr f y xn n k = R at *
    have h5 : (y * Q + r) * BB ^ m = (R * BB + f m) * BB ^ m := by rw [h4]
    rw [Nat.add_mul, Nat.add_mul] at h5
    rw [Nat.mul_add] at ih
    have h6 : R * (BB ^ m * BB) = R * BB * BB ^ m := by rw [Nat.mul_assoc, Nat.mul_comm BB]
    have h7 : y * (Q * BB ^ m) = y * Q * BB ^ m := by rw [Nat.mul_assoc]
    omega
theorem dv_val {f : Nat → Nat} {y xn n : Nat} (hx : xn < y) : xn * BB ^ n + val n f = y * val n (dvq f y xn n) + dvr f y xn n n := by
  have h := dv_law (f := f) (y := y) (xn := xn) (n := n) n (Nat.le_refl _)
  simpa [val] using h
set_option maxHeartbeats 400000 in
theorem divWVW_any (bz cz bx ox cx n xn y : Nat) (E : TypeId) (xs : List Value) (X : Nat → Nat) (w : World) (hn : n < 1000) (hn0 : 0 < n) (hxn : xn < y) (hy : y < BB)
    (hz : Blk w bz E xs) (hzn : n ≤ xs.length) (hx : Seg w bx ox n X) (hX : ∀ i, i < n → X i < BB) (hxz : bx = bz → ox ≤ 0) :
    Calls Tryz.prog 282 #[.slice (some ⟨bz, 0, none⟩) n cz, .int .u64 xn, .slice (some ⟨bx, ox, none⟩) n cx, .int .u64 y] w fun e w' =>
      e = .returned (.int .u64 (dvr X y xn n n : Nat)) ∧ Put w w' bz E (over xs 0 n (dvq X y xn n)) := by
  by_cases h1 : n = 1
  · subst h1
    have g1 := hx 0 (by omega)
    simp only [Nat.add_zero] at g1
    have hX0 := hX 0 (by omega)
    have hc := Hd.mk fun w => bitsDiv_any xn (X 0) y w hxn hX0 hy
    have hc0 : ∃ v, w.cell? ⟨bz, 0, none⟩ = some v := ⟨_, by rw [hz.cell, List.getElem?_eq_getElem (by omega)]⟩
    obtain ⟨v0, hc0⟩ := hc0
    have hf0 := hz.frozen 0
    replace hz := Hd.mk hz
    replace hx := Hd.mk hx
    replace hX := Hd.mk hX
    replace hxz := Hd.mk hxz
    go_enter Tryz.func282, Tryz.ntmps282
    go_wp2_with fail
    refine (hc.out _).mono ?_
    rintro e w' ⟨rfl, q, rfl⟩
    go_wp2
    go_ret
    refine ⟨rfl, ?_⟩
    have h9 := ((Put.refl hz.out).drewN q).set 0 (.int .u64 ((xn * BB + X 0) / y : Nat))
    rw [show over xs 0 1 (dvq X y xn 1) = xs.set 0 (.int .u64 ((xn * BB + X 0) / y : Nat)) by
      rw [← ovr_all, ← ovr_down xs 0 0 1 _ (by omega), ovr_none]; rfl]
    exact h9
  · have hd1 : ((n : Int) == 1) = false := by simp; omega
    have hrc := Hd.mk fun w => reciprocalWord_any y w (by omega) hy
    replace hz := Hd.mk hz
    replace hx := Hd.mk hx
    replace hX := Hd.mk hX
    replace hxz := Hd.mk hxz
    go_enter Tryz.func282, Tryz.ntmps282
    go_wp2_with fail
    refine (hrc.out _).mono ?_
    rintro e w' ⟨rfl, q, rfl⟩
    go_wp2
    go_loopw [8, 12] (fun r i wr => ∃ k : Nat, k ≤ n ∧ r = .int .u64 (dvr X y xn n (n - k) : Nat) ∧ i = .int .i64 ((k : Int) - 1) ∧ Hd (Put w wr bz E (ovr xs 0 k n (dvq X y xn n)))) (fun _ i _ => (intOf i + 1).toNat)
    case atStart => exact ⟨n, Nat.le_refl _, by rw [Nat.sub_self]; rfl, by go_num, ⟨by rw [ovr_none]; exact (Put.refl hz.out).drewN q⟩⟩
    case round =>
      obtain ⟨k, hk, rfl, rfl, hp⟩ := hrel
      by_cases hlt : 0 < k
      · obtain ⟨j, rfl⟩ : ∃ j, k = j + 1 := ⟨k - 1, by omega⟩
        have g1 := hx.out.ahead hz.out hp.out hxz.out (i := j) (by omega) (by omega)
        have hrlt := dvr_lt (f := X) (n := n) hxn (n - (j + 1))
        have hXj := hX.out j (by omega)
        have hc := Hd.mk fun w => divWW_any _ (X j) y w hrlt hXj hy
        have e1 : (dvr X y xn n (n - (j + 1)) * BB + X j) / y = dvq X y xn n j := by unfold dvq; rw [show n - 1 - j = n - (j + 1) by omega]
        have e2 : (dvr X y xn n (n - (j + 1)) * BB + X j) % y = dvr X y xn n (n - j) := by rw [show n - j = n - (j + 1) + 1 by omega, dvr, show n - 1 - (n - (j + 1)) = j by omega]
        rw [e1, e2] at hc
        have h3 : ∃ v, wr.cell? ⟨bz, j, none⟩ = some v := ⟨_, by rw [hp.out.here.cell, List.getElem?_eq_getElem (by rw [ovr_length]; omega)]⟩
        obtain ⟨v3, h3⟩ := h3
        have h4 := hp.out.here.frozen j
        have h5 : ((j + 1 : Nat) : Int) - 1 = (j : Int) := by omega
        rw [h5]
        replace e1 := Hd.mk e1
        replace e2 := Hd.mk e2
        generalize dvr X y xn n (n - (j + 1)) = r1 at *
        go_wp2_with fail
        refine (hc.out _).mono ?_
        rintro e w' ⟨rfl, rfl⟩
        go_wp2
        go_roundw
        case rel =>
          refine ⟨j, by omega, rfl, by go_num, ⟨?_⟩⟩
          have h9 := hp.out.set j (.int .u64 (dvq X y xn n j : Nat))
          have h8 := ovr_down xs 0 j n (dvq X y xn n) (by omega)
          rw [Nat.zero_add] at h8
          rwa [h8] at h9
        case measure => simp [intOf]
      · obtain rfl : k = 0 := by omega
        go_wp2
        go_ret
        exact ⟨rfl, hp.out⟩

theorem dv_fin {a y V R : Nat} (h : a = y * V + R) (hr : R < y) : V = a / y ∧ R = a % y := by
  rw [h, Nat.mul_add_div (by omega), Nat.mul_add_mod, Nat.div_eq_of_lt hr, Nat.mod_eq_of_lt hr]; exact ⟨rfl, rfl⟩
set_option maxHeartbeats 400000 in
theorem divW_any (z x : Value) (a y : Nat) (oz ox : Option Nat) (w : World) (hz : RecvS w z oz) (hx : NatS w x a ox) (ha : wlen a < 800) (hy0 : 0 < y) (hy : y < BB) :
    Calls Tryz.prog 245 #[z, x, .int .u64 y] w fun e w' => ∃ v, e = .returned (.tuple #[v, .int .u64 (a % y : Nat)]) ∧ NatR w w' oz (a / y) v := by
  have hd0 : ((y : Int) == 0) = false := by simp; omega
  by_cases h1 : y = 1
  · subst h1
    have hset := Hd.mk (set_any z x a oz ox w hz hx ha)
    obtain ⟨A, ca, rfl, hla, hca, hra, hsa⟩ := hx.open
    replace hsa := Hd.mk hsa
    replace hx := Hd.mk hx
    replace hra := Hd.mk hra
    replace hz := Hd.mk hz
    rw [Nat.div_one, Nat.mod_one]
    go_enter Tryz.func245, Tryz.ntmps245
    go_wp2_with fail
    refine hset.out.mono ?_
    rintro e w' ⟨v, rfl, hv⟩
    replace hv := Hd.mk hv
    go_wp2
    go_ret2
    exact ⟨_, rfl, hv.out⟩
  · have hd1 : ((y : Int) == 1) = false := by simp; omega
    obtain ⟨Z, lz, cz, rfl, hlz, hcz, hrz⟩ := hz
    obtain ⟨A, ca, rfl, hla, hca, hra, hsa⟩ := hx.open
    replace hx := Hd.mk hx
    replace hra := Hd.mk hra
    by_cases h0 : wlen a = 0
    · have ha0 : a = 0 := wlen_eq_zero.1 h0
      subst ha0
      rw [Nat.zero_div, Nat.zero_mod]
      rw [wlen_zero] at *
      replace hsa := Hd.mk hsa
      replace hrz := Hd.mk hrz
      go_enter Tryz.func245, Tryz.ntmps245
      go_wp2
      go_ret2
      exact ⟨_, rfl, NatR.zero (Chg.refl _ _) hrz.out hcz⟩
    · have hd2 : ((wlen a : Int) == 0) = false := by simp; omega
      obtain ⟨KA, rfl, hoa, sa⟩ := hsa (by omega)
      have hmk := Hd.mk (make_pos Z lz cz (wlen a) oz w hlz hcz hrz (by omega) (by omega))
      have hKA := hx.out.lt hoa
      have hv0 := val_wlen a
      generalize hn : wlen a = n at *
      replace hn := Hd.mk hn
      replace sa := Hd.mk sa
      replace hsa := Hd.mk hsa
      replace hoa := Hd.mk hoa
      replace hrz := Hd.mk hrz
      replace hv0 := Hd.mk hv0
      go_enter Tryz.func245, Tryz.ntmps245
      go_wp2_with fail
      refine hmk.out.mono ?_
      rintro e w1 ⟨K, xs, rfl, hb, hl1, hl2, hbel, hK⟩
      have hc := Hd.mk (divWVW_any K xs.length KA 0 ca n 0 y 146 xs (dig a) w1 (by omega) (by omega) hy0 hy hb hl1 (sa.out.of_heap (hbel.block KA hKA)) (fun i _ => dig_lt _ i) (fun _ => Nat.le_refl _))
      replace hb := Hd.mk hb
      replace hbel := Hd.mk hbel
      replace hK := Hd.mk hK
      go_wp2_with fail
      refine hc.out.mono ?_
      rintro e w2 ⟨rfl, hp⟩
      replace hp := Hd.mk hp
      have hQ : ∀ i, i < n → dvq (dig a) y 0 n i < BB := fun i _ => dvq_lt hy0 (dig_lt _ i)
      have hsg : Seg w2 K 0 n (dvq (dig a) y 0 n) := Seg.of_over hp.out.here (by omega)
      have hlaw := dv_val (f := dig a) (y := y) (xn := 0) (n := n) hy0
      rw [hv0.out, Nat.zero_mul, Nat.zero_add] at hlaw
      have hrl := dvr_lt (f := dig a) (n := n) hy0 n
      obtain ⟨hq, hr⟩ := dv_fin hlaw hrl
      rw [hr]
      have hres := Hd.mk (NatR.of_norm (oz := oz) ((Chg.of_below hbel.out oz).put hp.out hK.out) hp.out.here (by simp [over_length]) hl1 (by omega) hl2 hsg hQ hq hK.out)
      have hnm := Hd.mk (norm_any K n xs.length (dvq (dig a) y 0 n) w2 (by omega) hl1 hQ hsg)
      rw [hq] at hnm hres
      replace hlaw := Hd.mk hlaw
      replace hq := Hd.mk hq
      replace hr := Hd.mk hr
      replace hQ := Hd.mk hQ
      replace hsg := Hd.mk hsg
      go_wp2_with fail
      refine hnm.out.mono ?_
      rintro e w' ⟨rfl, rfl⟩
      go_wp2
      go_ret2
      exact ⟨_, rfl, hres.out⟩
end Go.Proofs.YtdbjdpooggaonaaGreatDoor
end

section
namespace Go.Proofs.YtdbjdpooggaonaaGreatDoor
open Go.RowKit
set_option maxRecDepth 100000
theorem bitLen_uniq {x n : Nat} (hx : x < BB) (h0 : x ≠ 0) (h1 : 2 ^ (n - 1) ≤ x) (h2 : x < 2 ^ n) : Lib.bitLen x = n := by
  obtain ⟨i1, i2, i3, i4⟩ := bitLen_spec hx h0
  have j1 : Lib.bitLen x - 1 < n := (Nat.pow_lt_pow_iff_right (by decide : 1 < 2)).1 (Nat.lt_of_le_of_lt i1 h2)
  have j2 : n - 1 < Lib.bitLen x := (Nat.pow_lt_pow_iff_right (by decide : 1 < 2)).1 (Nat.lt_of_le_of_lt h1 i2)
  omega
theorem or_half {t d : Nat} (h : t < BB) : Go.bits BinOp.or IntKind.u64 (t : Int) ((t / d : Nat) : Int) = ((t ||| t / d : Nat) : Int) := u64_or_nat t _ h (Nat.lt_of_le_of_lt (Nat.div_le_self _ _) h)
theorem or_keep {t d n : Nat} (h : t < 2 ^ n) : t ≤ t ||| t / d ∧ t ||| t / d < 2 ^ n := ⟨Nat.left_le_or, Nat.or_lt_two_pow h (Nat.lt_of_le_of_lt (Nat.div_le_self _ _) h)⟩
/-- The length in bits. -/
def nbl (a : Nat) : Nat := if a = 0 then 0 else 64 * (wlen a - 1) + Lib.bitLen (dig a (wlen a - 1))
set_option maxHeartbeats 400000 in
theorem nbitLen_any (x : Value) (a : Nat) (ox : Option Nat) (w : World) (hx : NatS w x a ox) (ha : wlen a < 800) :
    Calls Tryz.prog 256 #[x] w fun e w' => e = .returned (.int .i64 (nbl a : Nat)) ∧ w = w' := by
  obtain ⟨A, ca, rfl, hla, hca, hra, hsa⟩ := hx.open
  by_cases h0 : wlen a = 0
  · have ha0 : a = 0 := wlen_eq_zero.1 h0
    have hn : nbl a = 0 := by unfold nbl; rw [if_pos ha0]
    replace hsa := Hd.mk hsa
    replace hra := Hd.mk hra
    replace hx := Hd.mk hx
    rw [hn, h0]
    go_enter Tryz.func256, Tryz.ntmps256
    go_wp2
    go_ret
    exact ⟨rfl, rfl⟩
  · obtain ⟨KA, rfl, hoa, sa⟩ := hsa (by omega)
    obtain ⟨m, hm⟩ : ∃ m, wlen a = m + 1 := ⟨wlen a - 1, by omega⟩
    have g1 := sa m (by omega)
    simp only [Nat.zero_add] at g1
    have hne : a ≠ 0 := fun h => h0 (wlen_eq_zero.2 h)
    have hn : nbl a = 64 * m + Lib.bitLen (dig a m) := by unfold nbl; rw [if_neg hne, hm]; rfl
    have htop : dig a m ≠ 0 := dig_top hm
    have ht0 := dig_lt a m
    generalize dig a m = t0 at *
    obtain ⟨i1, i2, i3, i4⟩ := bitLen_spec ht0 htop
    have hBB : ∀ {t}, t < 2 ^ Lib.bitLen t0 → t < BB := fun h => Nat.lt_of_lt_of_le h (Nat.pow_le_pow_right (by decide) i4)
    have e1 := or_half (d := 2) ht0
    obtain ⟨l1, u1⟩ := or_keep (d := 2) i2
    generalize t0 ||| t0 / 2 = t1 at *
    have e2 := or_half (d := 4) (hBB u1)
    obtain ⟨l2, u2⟩ := or_keep (d := 4) u1
    generalize t1 ||| t1 / 4 = t2 at *
    have e3 := or_half (d := 16) (hBB u2)
    obtain ⟨l3, u3⟩ := or_keep (d := 16) u2
    generalize t2 ||| t2 / 16 = t3 at *
    have e4 := or_half (d := 256) (hBB u3)
    obtain ⟨l4, u4⟩ := or_keep (d := 256) u3
    generalize t3 ||| t3 / 256 = t4 at *
    have e5 := or_half (d := 65536) (hBB u4)
    obtain ⟨l5, u5⟩ := or_keep (d := 65536) u4
    generalize t4 ||| t4 / 65536 = t5 at *
    have e6 := or_half (d := 65536 * 65536) (hBB u5)
    obtain ⟨l6, u6⟩ := or_keep (d := 65536 * 65536) u5
    rw [← Nat.div_div_eq_div_mul] at e6 l6 u6
    generalize t5 ||| t5 / 65536 / 65536 = t6 at *
    have hlen : Lib.bitLen t6 = Lib.bitLen t0 := bitLen_uniq (hBB u6) (by omega) (by omega) u6
    have hL := Hd.mk fun w => Len_any t6 (hBB u6) w
    rw [hlen] at hL
    rw [Int.natCast_ediv] at e1 e2 e3 e4 e5 e6
    rw [Int.natCast_ediv] at e6
    have f1 : Go.bits BinOp.or IntKind.u64 (t0 : Int) ((t0 : Int) / 2) = ((t1 : Nat) : Int) := e1
    have f2 : Go.bits BinOp.or IntKind.u64 (t1 : Int) ((t1 : Int) / 4) = ((t2 : Nat) : Int) := e2
    have f3 : Go.bits BinOp.or IntKind.u64 (t2 : Int) ((t2 : Int) / 16) = ((t3 : Nat) : Int) := e3
    have f4 : Go.bits BinOp.or IntKind.u64 (t3 : Int) ((t3 : Int) / 256) = ((t4 : Nat) : Int) := e4
    have f5 : Go.bits BinOp.or IntKind.u64 (t4 : Int) ((t4 : Int) / 65536) = ((t5 : Nat) : Int) := e5
    have f6 : Go.bits BinOp.or IntKind.u64 (t5 : Int) ((t5 : Int) / 65536 / 65536) = ((t6 : Nat) : Int) := e6
    clear e1 e2 e3 e4 e5 e6
    rw [hn, hm]
    rw [hm] at ha
    replace hlen := Hd.mk hlen
    replace hBB := Hd.mk (@hBB)
    replace sa := Hd.mk sa
    replace hsa := Hd.mk hsa
    replace hra := Hd.mk hra
    replace hx := Hd.mk hx
    replace hoa := Hd.mk hoa
    replace hm := Hd.mk hm
    replace hn := Hd.mk hn
    have hw : IntKind.i64.wrap ((m : Int) * 64) = (m : Int) * 64 := IntWalk.i64_in _ (by omega)
    generalize Lib.bitLen t0 = L at *
    have hw2 : IntKind.i64.wrap ((m : Int) * 64 + L) = ((64 * m + L : Nat) : Int) := by rw [IntWalk.i64_in _ (by omega)]; omega
    clear i1 i2 i3 u1 u2 u3 u4 u5 u6 l1 l2 l3 l4 l5 l6
    go_enter Tryz.func256, Tryz.ntmps256
    go_wp2_with fail
    refine (hL.out _).mono ?_
    rintro e w' ⟨rfl, rfl⟩
    go_wp2
    go_ret
    exact ⟨rfl, rfl⟩

theorem and_one {v : Nat} (h : v < BB) : Go.bits BinOp.and IntKind.u64 (v : Int) 1 = ((v % 2 : Nat) : Int) := by
  have : Go.bits BinOp.and IntKind.u64 (v : Int) ((1 : Nat) : Int) = ((v &&& 1 : Nat) : Int) := u64_and_nat v _ h (by decide)
  rw [show ((1 : Nat) : Int) = 1 from rfl] at this
  rw [this, Nat.and_one_is_mod]
end Go.Proofs.YtdbjdpooggaonaaGreatDoor
end
