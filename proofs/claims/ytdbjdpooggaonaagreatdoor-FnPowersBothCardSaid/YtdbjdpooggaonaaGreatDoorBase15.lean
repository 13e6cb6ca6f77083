/- Texts of Ints. Reading of texts: strings.Reader, digits. Bytes at places, digits read off a text. Conditions: those that each theorem states. -/
import Derived.Laws.BytesArg
import Derived.Test.YtdbjdpooggaonaaGreatDoorBase12
import Derived.Test.YtdbjdpooggaonaaGreatDoorBase07
set_option linter.all false

section
namespace Go.Proofs.YtdbjdpooggaonaaGreatDoor
open Go.RowKit
set_option maxRecDepth 100000
theorem u8slice : Tryz.prog.underlying 22 = some (.slice 5) := Tryz.underlying22
theorem u8u8 : Tryz.prog.underlying 5 = some (.int .u8) := by kernel_rfl
theorem strstr : Tryz.prog.underlying 9 = some .string := by kernel_rfl
theorem strOf (t : List Nat) : strOfNums (t.map Int.ofNat) = mkT t := by
  unfold strOfNums mkT
  congr 1
  rw [List.map_map]
  rfl
theorem txt_conv {w : World} {S i l : Nat} {t : List Nat} (h : TxtAt w S i t) (hl : l = t.length) (c : Nat) :
    (convert 22 9 (.slice (some ⟨S, i, none⟩) l c)).run Tryz.prog w = .ok (.string (mkT t)) w := by
  rw [run_convert_bytes_arg w 22 5 u8slice u8u8 S i l c (t.map Int.ofNat) (by simp [hl]) (fun j hj => ?_) 9 strstr, strOf]
  have hj' : j < t.length := by omega
  have := h j t[j] (List.getElem?_eq_getElem hj')
  rw [this]
  simp [List.getD, List.getElem?_eq_getElem hj']
set_option maxHeartbeats 1000000 in
theorem IText_any (P : Nat → Prop) (B : Nat) (x : Int) (S : Nat → Option Int) (w : World) (hI : Ints P w S) (hx : S B = some x) (hw : wlen x.natAbs ≤ 8) :
    Calls Tryz.prog 198 #[ptr B, .int .i64 10] w fun e w' => e = .returned (.string (zT x)) ∧ Below w.heap.size w w' := by
  have hg := hI.gl
  obtain ⟨own, hst⟩ := hI
  obtain ⟨A, cap, hb, hn, g0, g1, h3, h4⟩ := (hst.at_ B x hx).open
  have hit := fun w1 (hb1 : Below w.heap.size w w1) => itoa_any _ x.natAbs (decide (x < 0)) (own B) w1 (hn.below hb1) hw (hg.below hb1)
  have hz : (decide (x < 0) && x.natAbs != 0) = decide (x < 0) := by
    by_cases h : x < 0
    · rw [decide_eq_true h]; simp; omega
    · rw [decide_eq_false h]; rfl
  rw [hz] at hit
  have hzt : zT x = mkT (dtxt (decide (x < 0)) x.natAbs) := rfl
  generalize decide (x < 0) = nb at *
  replace hit := Hd.mk hit
  replace hst := Hd.mk hst
  replace hn := Hd.mk hn
  replace hb := Hd.mk hb
  replace hg := Hd.mk hg
  replace hz := Hd.mk hz
  replace hzt := Hd.mk hzt
  replace hx := Hd.mk hx
  go_enter Tryz.func198, Tryz.ntmps198
  go_wp2
  go_region_law (first | (go_simp; go_at_call 229; refine (hit.out _ (below_drew _)).mono ?_; rintro e w2 ⟨Sx, i, l, rfl, hc2, hS, hl, ht⟩; have hcv := txt_conv ht hl l; have hbel := Hd.mk (below_undrew hc2.none_below); clear hc2 hS ht; replace hl := Hd.mk hl))
  all_goals
    go_wp2
    go_ret
    exact ⟨by rw [hzt.out]; rfl, hbel.out⟩
set_option maxHeartbeats 1000000 in
theorem IString_any (P : Nat → Prop) (B : Nat) (x : Int) (S : Nat → Option Int) (w : World) (hI : Ints P w S) (hx : S B = some x) (hw : wlen x.natAbs ≤ 8) :
    Calls Tryz.prog 136 #[ptr B] w fun e w' => e = .returned (.string (zT x)) ∧ Below w.heap.size w w' := by
  have h := Hd.mk (IText_any P B x S w hI hx hw)
  replace hI := Hd.mk hI
  replace hx := Hd.mk hx
  go_enter Tryz.func136, Tryz.ntmps136
  go_wp2_with fail
  refine h.out.mono ?_
  rintro e w1 ⟨rfl, hb⟩
  replace hb := Hd.mk hb
  go_wp2
  go_ret
  exact ⟨rfl, hb.out⟩
end Go.Proofs.YtdbjdpooggaonaaGreatDoor
end

section
namespace Go.Proofs.YtdbjdpooggaonaaGreatDoor
open Go.RowKit
set_option maxRecDepth 100000
theorem methR1 (n : Nat) (v : Value) (w : World) : (method (n + 1) 149 v "ReadByte").run Tryz.prog w = .ok (395, v) w := by kernel_rfl
theorem methU1 (n : Nat) (v : Value) (w : World) : (method (n + 1) 149 v "UnreadByte").run Tryz.prog w = .ok (396, v) w := by kernel_rfl
theorem methR (n : Nat) (h : n ≠ 0) (v : Value) (w : World) : (method n 149 v "ReadByte").run Tryz.prog w = .ok (395, v) w := by
  obtain ⟨k, rfl⟩ : ∃ k, n = k + 1 := ⟨n - 1, by omega⟩
  exact methR1 k v w
theorem methU (n : Nat) (h : n ≠ 0) (v : Value) (w : World) : (method n 149 v "UnreadByte").run Tryz.prog w = .ok (396, v) w := by
  obtain ⟨k, rfl⟩ : ∃ k, n = k + 1 := ⟨n - 1, by omega⟩
  exact methU1 k v w
/-- A reader over s at pos. -/
def RdAt (w : World) (R : Nat) (s : ByteArray) (pos : Nat) : Prop := ∃ pr : Int, Blk w R 180 [.string s, .int .i64 pos, .int .i64 pr]
theorem RdAt.of_put {w w' : World} {R : Nat} {s : ByteArray} {pos : Nat} {pr : Int} (h : Put w w' R 180 [.string s, .int .i64 pos, .int .i64 pr]) : RdAt w' R s pos := ⟨pr, h.here⟩
/-- w' is w but for the reader, that stands at pos. -/
def RdTo (w w' : World) (R : Nat) (s : ByteArray) (pos : Nat) : Prop := ∃ pr : Int, Put w w' R 180 [.string s, .int .i64 pos, .int .i64 pr]
set_option maxHeartbeats 1000000 in
theorem ReadByte_some (R pos : Nat) (s : ByteArray) (w : World) (hR : RdAt w R s pos) (hp : pos < s.size) (hs : s.size < 1000000) :
    Calls Tryz.prog 395 #[ptr R] w fun e w' => e = .returned (.tuple #[.int .u8 ((s[pos].toNat : Nat) : Int), .nilIface]) ∧ RdTo w w' R s (pos + 1) := by
  obtain ⟨pr, hb⟩ := hR
  have c0 := hb.cell 0
  have c1 := hb.cell 1
  have c2 := hb.cell 2
  have f1 := hb.frozen 1
  have f2 := hb.frozen 2
  have hd : decide ((s.size : Int) ≤ (pos : Int)) = false := decide_eq_false (by omega)
  replace hb := Hd.mk hb
  go_enter Tryz.func395, Tryz.ntmps395
  go_wp2
  go_quiet (fail)
  go_wp2
  go_quiet (fail)
  go_wp2
  go_ret2
  exact ⟨rfl, -1, (((Put.refl hb.out).set 2 (.int .i64 (-1))).drewN _).set 1 (.int .i64 ((pos : Int) + 1))⟩
set_option maxHeartbeats 1000000 in
theorem ReadByte_end (R pos : Nat) (s : ByteArray) (w : World) (E : Value) (hR : RdAt w R s pos) (hp : s.size ≤ pos) (hs : pos < 1000000) (hE : w.cell? ⟨2, 0, none⟩ = some E) (hRg : R ≠ 2) :
    Calls Tryz.prog 395 #[ptr R] w fun e w' => e = .returned (.tuple #[.int .u8 0, E]) ∧ RdTo w w' R s pos := by
  obtain ⟨pr, hb⟩ := hR
  have c0 := hb.cell 0
  have c1 := hb.cell 1
  have c2 := hb.cell 2
  have f1 := hb.frozen 1
  have f2 := hb.frozen 2
  have hd : decide ((s.size : Int) ≤ (pos : Int)) = true := decide_eq_true (by omega)
  have hE2 : (w.setCell ⟨R, 2, none⟩ (.int .i64 (-1))).cell? ⟨2, 0, none⟩ = some E := by
    rw [World.cell?_setCell_other, hE]
    intro e; cases e
  replace hb := Hd.mk hb
  replace hE := Hd.mk hE
  go_enter Tryz.func395, Tryz.ntmps395
  go_wp2
  go_quiet (fail)
  go_wp2
  go_quiet (fail)
  go_wp2
  go_ret2
  exact ⟨rfl, -1, (((Put.refl hb.out).set 2 (.int .i64 (-1))).drewN _).drewN _⟩
set_option maxHeartbeats 1000000 in
theorem UnreadByte_any (R pos : Nat) (s : ByteArray) (w : World) (hR : RdAt w R s (pos + 1)) (hp : pos < 1000000) :
    Calls Tryz.prog 396 #[ptr R] w fun e w' => e = .returned .nilIface ∧ RdTo w w' R s pos := by
  obtain ⟨pr, hb⟩ := hR
  have c0 := hb.cell 0
  have c1 := hb.cell 1
  have c2 := hb.cell 2
  have f1 := hb.frozen 1
  have f2 := hb.frozen 2
  replace hb := Hd.mk hb
  go_enter Tryz.func396, Tryz.ntmps396
  go_wp2
  go_ret
  exact ⟨rfl, -1, ((Put.refl hb.out).set 2 (.int .i64 (-1))).set 1 (.int .i64 (pos : Int))⟩
/-- The power of ten in one word. -/
theorem pow_step {p x n q : Nat} (h : p * x ^ n % BB = q % BB) : (n % 2 = 1 → (p * x % BB) * (x * x % BB) ^ (n / 2) % BB = q % BB) ∧ (n % 2 = 0 → p * (x * x % BB) ^ (n / 2) % BB = q % BB) := by
  have e2 : x ^ n = x ^ (n % 2) * (x * x) ^ (n / 2) := by
    rw [← Nat.pow_two, ← Nat.pow_mul, ← Nat.pow_add, Nat.mod_add_div]
  constructor <;> intro h1
  · rw [h1, Nat.pow_one] at e2
    rw [← h, e2, ← Nat.mul_assoc, Nat.mul_mod (p * x % BB), Nat.mod_mod, Nat.pow_mod, Nat.mod_mod, ← Nat.pow_mod, ← Nat.mul_mod]
  · rw [h1, Nat.pow_zero, Nat.one_mul] at e2
    rw [← h, e2, Nat.mul_mod p, Nat.pow_mod, Nat.mod_mod, ← Nat.pow_mod, ← Nat.mul_mod]
set_option maxHeartbeats 1000000 in
theorem pow10_any (i : Nat) (hi : i ≤ 19) (w : World) : Calls Tryz.prog 314 #[.int .u64 10, .int .i64 i] w fun e w' => e = .returned (.int .u64 ((10 ^ i : Nat) : Int)) ∧ w = w' := by
  have hB : 10 ^ i < BB := Nat.lt_of_le_of_lt (Nat.pow_le_pow_right (by decide) hi) (by decide)
  go_enter Tryz.func314, Tryz.ntmps314
  go_wp2
  go_loopw [0, 1, 4] (fun x n p wr => ∃ xn nn pn : Nat, nn ≤ 19 ∧ xn < BB ∧ pn < BB ∧ x = .int .u64 xn ∧ n = .int .i64 nn ∧ p = .int .u64 pn ∧ Hd (pn * xn ^ nn % BB = 10 ^ i % BB) ∧ w = wr) (fun _ n _ _ => (intOf n).toNat)
  case atStart => exact ⟨10, i, 1, hi, by decide, by decide, rfl, rfl, rfl, ⟨by rw [Nat.one_mul]⟩, rfl⟩
  case round =>
    obtain ⟨xn, nn, pn, h1, h2, h3, rfl, rfl, rfl, h4, rfl⟩ := hrel
    by_cases h0 : nn = 0
    · have h5 : pn = 10 ^ i := by
        have := h4.out
        rwa [h0, Nat.pow_zero, Nat.mul_one, Nat.mod_eq_of_lt h3, Nat.mod_eq_of_lt hB] at this
      subst h0
      replace h5 := Hd.mk h5
      go_wp2
      go_ret
      exact ⟨by rw [← h5.out]; rfl, rfl⟩
    · have hd : decide (0 < (nn : Int)) = true := decide_eq_true (by omega)
      obtain ⟨s1, s2⟩ := pow_step h4.out
      have hb : Go.bits BinOp.and IntKind.i64 (nn : Int) 1 = ((nn % 2 : Nat) : Int) := by
        have hn : nn < 20 := by omega
        have : ∀ m, m < 20 → Go.bits BinOp.and IntKind.i64 ((m : Nat) : Int) 1 = ((m % 2 : Nat) : Int) := by decide
        exact this nn hn
      have hw1 : IntKind.u64.wrap ((xn : Int) * xn) = ((xn * xn % BB : Nat) : Int) := by rw [← Int.natCast_mul]; rfl
      have hw2 : IntKind.u64.wrap ((pn : Int) * xn) = ((pn * xn % BB : Nat) : Int) := by rw [← Int.natCast_mul]; rfl
      have hX : xn * xn % BB < BB := Nat.mod_lt _ BB_pos
      have hY : pn * xn % BB < BB := Nat.mod_lt _ BB_pos
      generalize xn * xn % BB = X2 at *
      generalize pn * xn % BB = Y2 at *
      have hsh : (nn : Int).fdiv (2 ^ min (Int.toNat 1) IntKind.i64.bits) = ((nn / 2 : Nat) : Int) := by
        show (nn : Int).fdiv 2 = _
        rw [Int.fdiv_eq_ediv_of_nonneg _ (by decide)]; omega
      by_cases hodd : nn % 2 = 1
      · rw [hodd] at hb
        have g1 := Hd.mk (s1 hodd)
        clear s1 s2
        go_wp2
        go_roundw
        case rel => exact ⟨X2, nn / 2, Y2, by omega, hX, hY, rfl, rfl, rfl, g1, trivial⟩
        case measure => simp [intOf]; omega
      · have h9 : nn % 2 = 0 := by omega
        rw [h9] at hb
        have g1 := Hd.mk (s2 h9)
        clear s1 s2
        go_wp2
        go_roundw
        case rel => exact ⟨X2, nn / 2, pn, by omega, hX, h3, rfl, rfl, rfl, g1, trivial⟩
        case measure => simp [intOf]; omega
end Go.Proofs.YtdbjdpooggaonaaGreatDoor
end

section
namespace Go.Proofs.YtdbjdpooggaonaaGreatDoor
/-- The byte at a place. -/
def ch (s : ByteArray) (k : Nat) : Nat := (bts s).getD k 0
theorem ch_eq {s : ByteArray} {k : Nat} (h : k < s.size) : s[k].toNat = ch s k := by
  have h' : k < s.data.toList.length := by simpa using h
  unfold ch bts
  rw [List.getD_eq_getElem?_getD, List.getElem?_map, List.getElem?_eq_getElem h']
  simp
  rfl
theorem ch_lt (s : ByteArray) (k : Nat) : ch s k < 256 := by
  by_cases h : k < s.size
  · rw [← ch_eq h]; exact s[k].toNat_lt
  · unfold ch
    rw [List.getD_eq_getElem?_getD, List.getElem?_eq_none (by rw [bts_length]; omega)]
    decide
/-- The number of k digits from p on. -/
def dn (s : ByteArray) (p : Nat) : Nat → Nat
  | 0 => 0
  | k + 1 => 10 * dn s p k + (ch s (p + k) - 48)
theorem dn_lt {s : ByteArray} {p k : Nat} (h : ∀ j, j < k → isD (ch s (p + j))) : dn s p k < 10 ^ k := by
  induction k with
  | zero => simp [dn]
  | succ k ih =>
    have h1 := ih (fun j hj => h j (by omega))
    have h2 := h k (by omega)
    unfold isD at h2
    rw [dn, Nat.pow_succ]; omega
theorem dn_add (s : ByteArray) (p a : Nat) : ∀ b, dn s p (a + b) = dn s p a * 10 ^ b + dn s (p + a) b
  | 0 => by simp [dn]
  | b + 1 => by
    rw [← Nat.add_assoc, dn, dn_add s p a b, dn, Nat.pow_succ, Nat.add_assoc p a b]
    rw [Nat.mul_add, ← Nat.mul_assoc, Nat.mul_comm 10 (dn s p a), Nat.mul_assoc, Nat.mul_comm 10 (10 ^ b)]
    omega
theorem ch_get {s : ByteArray} {k : Nat} (h : k < s.size) : (bts s)[k]? = some (ch s k) := by
  have h' : k < (bts s).length := by rw [bts_length]; exact h
  unfold ch
  rw [List.getD_eq_getElem?_getD, List.getElem?_eq_getElem h']; rfl
theorem dn_nums (s : ByteArray) : ∀ k, k ≤ s.size → dn s 0 k = nums ((bts s).take k)
  | 0, _ => by simp [dn, nums]
  | k + 1, h => by
    have h' : k < (bts s).length := by rw [bts_length]; omega
    have e : (bts s).take (k + 1) = (bts s).take k ++ [ch s k] := by
      rw [List.take_add_one, ch_get (by omega)]; rfl
    rw [e, nums_snoc, ← dn_nums s k (by omega), dn, Nat.zero_add]
theorem dn_all (s : ByteArray) : dn s 0 s.size = nums (bts s) := by rw [dn_nums s _ (Nat.le_refl _), List.take_of_length_le (by rw [bts_length]; exact Nat.le_refl _)]
theorem mem_ch {s : ByteArray} {b : Nat} (h : b ∈ bts s) : ∃ k, k < s.size ∧ b = ch s k := by
  obtain ⟨k, hk, rfl⟩ := List.getElem_of_mem h
  have hk2 : k < s.size := by rw [bts_length] at hk; exact hk
  refine ⟨k, hk2, ?_⟩
  have := ch_get hk2
  rw [List.getElem?_eq_getElem hk] at this
  exact Option.some.inj this
/-- A text of digits without noughts ahead is the text of its number. -/
theorem read_pos {t : ByteArray} (hD : ∀ k, k < t.size → isD (ch t k)) (h0 : t.size ≠ 0) (h1 : t.size = 1 ∨ ch t 0 ≠ 48) : bts t = dtxt false (dn t 0 t.size) := by
  rw [dn_all]
  refine (dtxt_nums (fun b hb => ?_) ?_ ?_).symm
  · obtain ⟨k, hk, rfl⟩ := mem_ch hb
    exact hD k hk
  · intro e; have := bts_length t; rw [e] at this; exact h0 this.symm
  · rcases h1 with h1 | h1
    · left; rw [bts_length]; exact h1
    · right
      intro e
      have := ch_get (s := t) (k := 0) (by omega)
      rw [List.head?_eq_getElem?, this] at e
      exact h1 (Option.some.inj e)
/-- The text of a whole number, as it is read. -/
theorem read_law {s t : ByteArray} {neg : Bool} (hneg : if neg = true then bts s = 45 :: bts t else s = t) (hD : ∀ k, k < t.size → isD (ch t k)) (h0 : t.size ≠ 0) (h1 : t.size = 1 ∨ ch t 0 ≠ 48) (h2 : neg = true → bts t ≠ [48]) :
    s = zT (if neg = true then -((dn t 0 t.size : Nat) : Int) else ((dn t 0 t.size : Nat) : Int)) := by
  have h := read_pos hD h0 h1
  apply bts_inj
  rw [bts_zT]
  cases neg
  · simp only [Bool.false_eq_true, if_false] at hneg ⊢
    subst hneg
    rw [ztx_pos (by omega), Int.natAbs_natCast, ← h]
  · simp only [if_true] at hneg ⊢
    have hn : dn t 0 t.size ≠ 0 := fun e => by
      rw [e] at h
      exact h2 rfl (h.trans (dtxt_nums (l := [48]) (by intro b hb; simp at hb; subst hb; unfold isD; omega) (by simp) (.inl rfl)))
    rw [ztx_neg (by omega), Int.natAbs_neg, Int.natAbs_natCast, ← h, hneg]
end Go.Proofs.YtdbjdpooggaonaaGreatDoor
end
