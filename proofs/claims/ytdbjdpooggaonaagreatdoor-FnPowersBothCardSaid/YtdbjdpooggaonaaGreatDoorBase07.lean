/- Decimal texts as lists of bytes: plain lists and numbers, no program in sight. Numbers with a sign: the methods of Int. Conditions: those that each theorem states. -/
import Derived.Test.YtdbjdpooggaonaaGreatDoorBase06
set_option linter.all false

section
namespace Go.Proofs.YtdbjdpooggaonaaGreatDoor

/-- The bytes of a string. -/
def bts (s : ByteArray) : List Nat := s.data.toList.map UInt8.toNat
def mkT (l : List Nat) : ByteArray := ⟨(l.map UInt8.ofNat).toArray⟩
theorem bts_length (s : ByteArray) : (bts s).length = s.size := by simp [bts]
theorem rev_ind {α : Type} {motive : List α → Prop} (nil : motive []) (snoc : ∀ l a, motive l → motive (l ++ [a])) (l : List α) : motive l := by
  rw [← List.reverse_reverse l]
  induction l.reverse with
  | nil => exact nil
  | cons a m ih => rw [List.reverse_cons]; exact snoc _ _ ih
theorem mkT_bts (s : ByteArray) : mkT (bts s) = s := by
  unfold mkT bts
  rw [List.map_map, List.map_congr_left (g := id) (by intro x _; simp)]
  simp
theorem bts_mkT {l : List Nat} (h : ∀ b, b ∈ l → b < 256) : bts (mkT l) = l := by
  unfold mkT bts
  simp only [List.map_map]
  rw [List.map_congr_left (g := id), List.map_id]
  intro x hx
  have := h x hx
  simp [UInt8.toNat_ofNat', Nat.mod_eq_of_lt this]
theorem bts_inj {s t : ByteArray} (h : bts s = bts t) : s = t := by rw [← mkT_bts s, h, mkT_bts]
theorem mkT_size (l : List Nat) : (mkT l).size = l.length := by simp [mkT, ByteArray.size]
def isD (b : Nat) : Prop := 48 ≤ b ∧ b ≤ 57
instance (b : Nat) : Decidable (isD b) := inferInstanceAs (Decidable (_ ∧ _))
/-- The number of a list of digits. -/
def nums (l : List Nat) : Nat := l.foldl (fun n b => 10 * n + (b - 48)) 0
theorem nums_snoc (l : List Nat) (b : Nat) : nums (l ++ [b]) = 10 * nums l + (b - 48) := by simp [nums]
theorem nums_lt {l : List Nat} (h : ∀ b, b ∈ l → isD b) : nums l < 10 ^ l.length := by
  induction l using rev_ind with
  | nil => simp [nums]
  | snoc l b ih =>
    have h1 := ih (fun c hc => h c (by simp [hc]))
    have h2 := h b (by simp)
    rw [nums_snoc, List.length_append, List.length_singleton, Nat.pow_succ]
    unfold isD at h2
    omega
theorem nums_app (l m : List Nat) : nums (l ++ m) = nums l * 10 ^ m.length + nums m := by
  induction m using rev_ind with
  | nil => simp [nums]
  | snoc m b ih =>
    rw [← List.append_assoc, nums_snoc, nums_snoc, ih, List.length_append, List.length_singleton, Nat.pow_succ, Nat.mul_add, ← Nat.mul_assoc, Nat.mul_comm 10, Nat.mul_assoc, Nat.mul_comm 10]
    omega
theorem nums_cons (b : Nat) (l : List Nat) : nums (b :: l) = (b - 48) * 10 ^ l.length + nums l := by
  have := nums_app [b] l
  simpa [nums] using this
theorem nums_digits {a n : Nat} (h : a < 10 ^ n) : ∀ k, k ≤ n → nums ((List.range k).map fun j => 48 + dgt a n j) = a / 10 ^ (n - k)
  | 0, _ => by rw [Nat.sub_zero, Nat.div_eq_of_lt h]; rfl
  | k + 1, hk => by
    rw [List.range_succ, List.map_append, List.map_singleton, nums_snoc, nums_digits h k (by omega)]
    unfold dgt
    rw [show n - k = (n - (k + 1)) + 1 by omega, Nat.pow_succ, ← Nat.div_div_eq_div_mul, show n - 1 - k = n - (k + 1) by omega]
    omega
theorem dtxt_isD {a b : Nat} (h : b ∈ dtxt false a) : isD b := by
  unfold dtxt at h
  simp at h
  obtain ⟨j, _, rfl⟩ := h
  have := dgt_lt a (dlen a) j
  unfold isD; omega
theorem nums_dtxt (a : Nat) : nums (dtxt false a) = a := by
  have := nums_digits (lt_dlen a) (dlen a) (Nat.le_refl _)
  rw [Nat.sub_self, Nat.pow_zero, Nat.div_one] at this
  simpa [dtxt] using this
theorem dtxt_neg (a : Nat) : dtxt true a = 45 :: dtxt false a := by simp [dtxt]
theorem dtxt_lt {neg : Bool} {a b : Nat} (h : b ∈ dtxt neg a) : b < 256 := by
  cases neg
  · have := dtxt_isD h; unfold isD at this; omega
  · rw [dtxt_neg] at h
    rcases List.mem_cons.1 h with rfl | h
    · omega
    · have := dtxt_isD h; unfold isD at this; omega
/-- The digits of the number of a list of digits. -/
theorem dgt_nums {l : List Nat} (h : ∀ b, b ∈ l → isD b) : ∀ j (hj : j < l.length), 48 + dgt (nums l) l.length j = l[j] := by
  induction l using rev_ind with
  | nil => intro j hj; simp at hj
  | snoc l b ih =>
    intro j hj
    have h2 := h b (by simp)
    unfold isD at h2
    simp only [List.length_append, List.length_singleton] at hj ⊢
    unfold dgt at ih ⊢
    rw [nums_snoc]
    by_cases h3 : j < l.length
    · rw [List.getElem_append_left h3, ← ih (fun c hc => h c (by simp [hc])) j h3]
      rw [show l.length + 1 - 1 - j = (l.length - 1 - j) + 1 by omega, Nat.pow_succ', ← Nat.div_div_eq_div_mul, show (10 * nums l + (b - 48)) / 10 = nums l by omega]
    · obtain rfl : j = l.length := by omega
      simp
      omega
theorem dlen_eq {a n : Nat} (h1 : a < 10 ^ (n + 1)) (h2 : 10 ^ n ≤ a) : dlen a = n + 1 := by
  have h0 : a ≠ 0 := by have : 0 < 10 ^ n := Nat.pow_pos (by decide); omega
  have h3 := dlen_le_of h1 h0
  have h4 := lt_dlen a
  have : n < dlen a := (Nat.pow_lt_pow_iff_right (by decide : 1 < 10)).1 (Nat.lt_of_le_of_lt h2 h4)
  omega
theorem dlen_small {a : Nat} (h : a < 10) : dlen a = 1 := by rw [dlen]; simp [h]
theorem dlen_nums {l : List Nat} (h : ∀ b, b ∈ l → isD b) (h0 : l ≠ []) (h1 : l.length = 1 ∨ l.head? ≠ some 48) : dlen (nums l) = l.length := by
  cases l with
  | nil => exact absurd rfl h0
  | cons b l =>
    have hb := h b (by simp)
    unfold isD at hb
    rcases h1 with h1 | h1
    · simp at h1
      subst h1
      rw [dlen_small (by simp [nums]; omega)]; rfl
    · simp at h1
      have hlt := nums_lt h
      refine dlen_eq hlt ?_
      rw [nums_cons]
      have : 1 * 10 ^ l.length ≤ (b - 48) * 10 ^ l.length := Nat.mul_le_mul_right _ (by omega)
      omega
theorem dtxt_nums {l : List Nat} (h : ∀ b, b ∈ l → isD b) (h0 : l ≠ []) (h1 : l.length = 1 ∨ l.head? ≠ some 48) : dtxt false (nums l) = l := by
  have hd := dlen_nums h h0 h1
  unfold dtxt
  rw [hd]
  simp
  apply List.ext_getElem
  · simp
  · intro i h2 h3
    simp
    exact dgt_nums h i h3
/-- The text of a number with a sign. -/
def ztx (z : Int) : List Nat := dtxt (decide (z < 0)) z.natAbs
def zT (z : Int) : ByteArray := mkT (ztx z)
theorem ztx_lt {z : Int} {b : Nat} (h : b ∈ ztx z) : b < 256 := dtxt_lt h
theorem bts_zT (z : Int) : bts (zT z) = ztx z := bts_mkT fun _ h => ztx_lt h
theorem ztx_pos {z : Int} (h : 0 ≤ z) : ztx z = dtxt false z.natAbs := by unfold ztx; rw [decide_eq_false (by omega)]
theorem ztx_neg {z : Int} (h : z < 0) : ztx z = 45 :: dtxt false z.natAbs := by unfold ztx; rw [decide_eq_true h, dtxt_neg]
theorem dtxt_len (a : Nat) : (dtxt false a).length = dlen a := by rw [dtxt_length]; rfl
theorem dtxt_ne (a : Nat) : dtxt false a ≠ [] := fun h => by have := dlen_pos a; rw [← dtxt_len, h] at this; simp at this
theorem ztx_length (z : Int) : (ztx z).length = dlen z.natAbs + (if z < 0 then 1 else 0) := by
  unfold ztx; rw [dtxt_length]; by_cases h : z < 0 <;> simp [h]
end Go.Proofs.YtdbjdpooggaonaaGreatDoor
end

section
namespace Go.Proofs.YtdbjdpooggaonaaGreatDoor
open Go.RowKit
set_option maxRecDepth 100000
theorem intInfo0 : (Tryz.prog.info? 106).map (fun i => (i.size, i.bytes)) = some (2, 32) := by kernel_rfl
theorem intInfo : ∃ j, Tryz.prog.info? 106 = some j ∧ j.size ≠ 0 := by
  have := intInfo0
  cases h : Tryz.prog.info? 106 with
  | none => rw [h] at this; cases this
  | some j => rw [h] at this; simp at this; exact ⟨j, rfl, by omega⟩
theorem ieq_same (a : Addr) (w : World) : (binOp .eql 63 (.pointer (some a)) (.pointer (some a))).run Tryz.prog w = .ok (.bool true) w := by
  obtain ⟨j, hj, _⟩ := intInfo
  exact run_eql_ptr_same w a Tryz.underlying63 hj
theorem ine_same (a : Addr) (w : World) : (binOp .neq 63 (.pointer (some a)) (.pointer (some a))).run Tryz.prog w = .ok (.bool false) w := by
  obtain ⟨j, hj, _⟩ := intInfo
  exact Lib.run_neq_ptr_same w a Tryz.underlying63 hj
theorem ieq_other {a b : Addr} (hne : a ≠ b) (w : World) (ha : HB w a.block) (hb : HB w b.block) : (binOp .eql 63 (.pointer (some a)) (.pointer (some b))).run Tryz.prog w = .ok (.bool false) w := by
  obtain ⟨j, hj, hs⟩ := intInfo
  exact peq_other Tryz.underlying63 hj hs hne w ha hb
theorem ine_other {a b : Addr} (hne : a ≠ b) (w : World) (ha : HB w a.block) (hb : HB w b.block) : (binOp .neq 63 (.pointer (some a)) (.pointer (some b))).run Tryz.prog w = .ok (.bool true) w := by
  obtain ⟨j, hj, hs⟩ := intInfo
  exact pne_other Tryz.underlying63 hj hs hne w ha hb
/-- The pointer to an Int. -/
abbrev ptr (B : Nat) : Value := .pointer (some ⟨B, 0, none⟩)
theorem below_drew (w : World) : Below w.heap.size w w.drew := ⟨rfl, rfl, rfl, Nat.le_refl _, fun _ _ => rfl⟩
theorem below_drewN (w : World) (n : Nat) : Below w.heap.size w (w.drewN n) := ⟨rfl, rfl, rfl, Nat.le_refl _, fun _ _ => rfl⟩
/-- The number's sign: -1, 0 or 1. -/
def sgn (z : Int) : Int := if z < 0 then -1 else if z = 0 then 0 else 1
section
variable {P : Nat → Prop} {w : World} {S : Nat → Option Int} {B : Nat} {z : Int}
/-- An Int of the state, open. -/
theorem IntAt.open {o : Option Nat} (h : IntAt w B z o) : ∃ A cap, Blk w B 106 [.bool (decide (z < 0)), .slice A (wlen z.natAbs) cap] ∧ NatS w (.slice A (wlen z.natAbs) cap) z.natAbs o ∧ w.cell? ⟨B, 0, none⟩ = some (.bool (decide (z < 0))) ∧ w.cell? ⟨B, 1, none⟩ = some (.slice A (wlen z.natAbs) cap) ∧ wlen z.natAbs ≤ cap ∧ cap < 1000 := by
  obtain ⟨v, h1, h2⟩ := h
  obtain ⟨A, cap, rfl, h3, h4, h5⟩ := h2.open
  exact ⟨A, cap, h1, h2, h1.cell 0, h1.cell 1, h3, h4⟩
end
theorem NatR.form {w w' : World} {oz : Option Nat} {m : Nat} {v : Value} (h : NatR w w' oz m v) : ∃ A cap, v = .slice A (wlen m) cap := by
  obtain ⟨o, h1, _⟩ := h
  obtain ⟨A, cap, h1, _⟩ := h1.open
  exact ⟨A, cap, h1⟩
/-- A contract on words, its result written out, seen from an elder world. -/
theorem sl {Pr : Program} {f : FuncId} {args : Array Value} {w w1 : World} {oz : Option Nat} {m : Nat} (hb : Below w.heap.size w w1) (h : Calls Pr f args w1 fun e w' => ∃ v, e = .returned v ∧ NatR w1 w' oz m v) :
    Calls Pr f args w1 fun e w' => ∃ A cap, e = .returned (.slice A (wlen m) cap) ∧ NatR w w' oz m (.slice A (wlen m) cap) :=
  h.mono fun e w' ⟨v, he, hr⟩ => by
    obtain ⟨A, cap, hv⟩ := hr.form
    exact ⟨A, cap, by rw [he, hv], by rw [← hv]; exact hr.lead hb⟩
/-- What the walk wants of an Int's block behind a call that has turned the row 'o'. -/
theorem blk_facts {w w2 : World} {o : Option Nat} {B : Nat} {b : Bool} {v : Value} (hc : Chg w w2 o) (hb : Blk w B 106 [.bool b, v]) (ho : o ≠ some B) :
    Blk w2 B 106 [.bool b, v] ∧ w2.cell? ⟨B, 0, none⟩ = some (.bool b) ∧ w2.cell? ⟨B, 1, none⟩ = some v ∧ w2.frozen? ⟨B, 0, none⟩ = false ∧ w2.frozen? ⟨B, 1, none⟩ = false := by
  have h := hc.blk hb ho
  exact ⟨h, h.cell 0, h.cell 1, h.frozen 0, h.frozen 1⟩
theorem Sign_any (P : Nat → Prop) (B : Nat) (z : Int) (S : Nat → Option Int) (w : World) (hI : Ints P w S) (hB : S B = some z) :
    Calls Tryz.prog 169 #[ptr B] w fun e w' => e = .returned (.int .i64 (sgn z)) ∧ w = w' := by
  obtain ⟨own, hst⟩ := hI
  obtain ⟨A, cap, hb, hn, g0, g1, h3, h4⟩ := (hst.at_ B z hB).open
  clear hst hn
  by_cases h0 : z = 0
  · subst h0
    rw [show Int.natAbs 0 = 0 from rfl, wlen_zero, show decide ((0 : Int) < 0) = false from rfl] at *
    go_enter Tryz.func169, Tryz.ntmps169
    go_wp2
    go_ret
    exact ⟨rfl, rfl⟩
  · have hw : ((wlen z.natAbs : Int) == 0) = false := by
      have : wlen z.natAbs ≠ 0 := fun h => h0 (by have := wlen_eq_zero.1 h; omega)
      simp; omega
    by_cases h1 : z < 0
    · have h2 : sgn z = -1 := by unfold sgn; rw [if_pos h1]
      rw [h2]
      rw [decide_eq_true h1] at g0 hb
      replace h2 := Hd.mk h2
      replace h0 := Hd.mk h0
      go_enter Tryz.func169, Tryz.ntmps169
      go_wp2
      go_ret
      exact ⟨rfl, rfl⟩
    · have h2 : sgn z = 1 := by unfold sgn; rw [if_neg h1, if_neg h0]
      rw [h2]
      rw [decide_eq_false h1] at g0 hb
      replace h2 := Hd.mk h2
      replace h0 := Hd.mk h0
      go_enter Tryz.func169, Tryz.ntmps169
      go_wp2
      go_ret
      exact ⟨rfl, rfl⟩
set_option maxHeartbeats 1000000 in
theorem ISet_any (P : Nat → Prop) (bz bx : Nat) (z x : Int) (S : Nat → Option Int) (w : World) (hI : Ints P w S) (hz : S bz = some z) (hx : S bx = some x) (hwl : wlen x.natAbs < 800) :
    Calls Tryz.prog 137 #[ptr bz, ptr bx] w fun e w' => e = .returned (ptr bz) ∧ Keep P w w' ∧ Ints P w' (upd S bz x) := by
  by_cases hbb : bz = bx
  · subst hbb
    have hu : upd S bz x = S := by funext k; unfold upd; split; (· subst k; exact hx.symm); (· rfl)
    have hpe := ine_same ⟨bz, 0, none⟩
    replace hI := Hd.mk hI
    go_enter Tryz.func137, Tryz.ntmps137
    go_wp2
    go_ret
    exact ⟨rfl, Keep.refl _ _, by rw [hu]; exact hI.out⟩
  · obtain ⟨own, hst⟩ := hI
    obtain ⟨A, cap, hb, hn, g0, g1, h3, h4⟩ := (hst.at_ bz z hz).open
    obtain ⟨C, cx, hbx, hnx, k0, k1, h5, h6⟩ := (hst.at_ bx x hx).open
    have hset := fun w1 (hb1 : Below w.heap.size w w1) => sl hb1 (set_any (.slice A (wlen z.natAbs) cap) (.slice C (wlen x.natAbs) cx) x.natAbs (own bz) (own bx) w1 (hn.recv.below hb1) (hnx.below hb1) hwl)
    have hpe := fun w => ine_other (a := ⟨bz, 0, none⟩) (b := ⟨bx, 0, none⟩) (fun e => hbb (by cases e; rfl)) w
    have hlz := hb.lt
    have hlx := hbx.lt
    have hpe0 := hpe w ⟨_, _, hb⟩ ⟨_, _, hbx⟩
    have hoz : own bz ≠ some bz := fun e => by have := (hst.no bz z bz hz e).2; rw [hz] at this; cases this
    have hox : own bz ≠ some bx := fun e => by have := (hst.no bz z bx hz e).2; rw [hx] at this; cases this
    clear hpe
    replace hst := Hd.mk hst
    replace hn := Hd.mk hn
    replace hnx := Hd.mk hnx
    replace hset := Hd.mk hset
    have fz := hb.frozen 1
    have fz0 := hb.frozen 0
    replace hb := Hd.mk hb
    replace hbx := Hd.mk hbx
    replace hz := Hd.mk hz
    replace hx := Hd.mk hx
    go_enter Tryz.func137, Tryz.ntmps137
    go_wp2
    go_region_law (first | (go_simp; go_at_call 199; refine (hset.out _ (below_drew _)).mono ?_; rintro e w2 ⟨A2, cap2, rfl, hr⟩; obtain ⟨o2, hn2, hc2, ho2⟩ := hr; obtain ⟨hb2, l0, l1, lz0, lz⟩ := blk_facts hc2 hb.out hoz; obtain ⟨hbx2, m0, m1, mz0, mz⟩ := blk_facts hc2 hbx.out hox; replace hr := Hd.mk (show NatR w w2 (own bz) x.natAbs (.slice A2 (wlen x.natAbs) cap2) from ⟨o2, hn2, hc2, ho2⟩); clear hn2 hc2 ho2; replace hb2 := Hd.mk hb2; replace hbx2 := Hd.mk hbx2))
    all_goals
      go_wp2
      go_ret
      have hp := ((Put.refl hb2.out).set 1 (.slice A2 (wlen x.natAbs) cap2)).set 0 (.bool (decide (x < 0)))
      obtain ⟨q1, q2⟩ := hst.out.write hz.out hr.out hp rfl
      exact ⟨rfl, q1, q2⟩
end Go.Proofs.YtdbjdpooggaonaaGreatDoor
end
