/- Reading of texts: nat.scan in base ten. Conditions: those that each theorem states. -/
import Derived.Deep.DeepCutAuto
import Derived.Test.YtdbjdpooggaonaaGreatDoorBase15
set_option linter.all false

namespace Go.Proofs.YtdbjdpooggaonaaGreatDoor
open Go.RowKit
set_option maxRecDepth 100000
theorem errInfo0 : (Tryz.prog.info? 238).map (fun i => (i.size, i.bytes, i.comparable)) = some (1, 8, true) := by kernel_rfl
theorem errsInfo0 : (Tryz.prog.info? 240).map (fun i => (i.size, i.comparable)) = some (1, true) := by kernel_rfl
theorem errU : ∃ ms, Tryz.prog.underlying 113 = some (.interface ms) := ⟨_, Tryz.underlying113⟩
/-- An error of errors.New. -/
abbrev errV (a : Addr) : Value := .iface 238 (.pointer (some a))
theorem err_same (a : Addr) (w : World) : (binOp .eql 113 (errV a) (errV a)).run Tryz.prog w = .ok (.bool true) w := by
  obtain ⟨ms, hm⟩ := errU
  cases hi : Tryz.prog.info? 238 with
  | none => have := errInfo0; rw [hi] at this; cases this
  | some i =>
    have hc : i.comparable = true := by have := errInfo0; rw [hi] at this; simp at this; exact this.2.2
    cases hj : Tryz.prog.info? 240 with
    | none => have := errsInfo0; rw [hj] at this; cases this
    | some j =>
      have h : ∀ d : Nat, (Op.equalIn (d + 3) 113 (errV a) (errV a)).run Tryz.prog w = .ok true w := fun d => by
        simp [Op.equalIn, run_underlying hm, run_underlying Tryz.underlying238, typeInfo, hi, hc, sizeOf, hj, run_sameAddr_same]
      simp only [binOp]
      simp [Op.equal, Op.maxDepth, h 9997]
theorem errn_same (a : Addr) (w : World) : (binOp .neq 113 (errV a) (errV a)).run Tryz.prog w = .ok (.bool false) w := by
  obtain ⟨ms, hm⟩ := errU
  cases hi : Tryz.prog.info? 238 with
  | none => have := errInfo0; rw [hi] at this; cases this
  | some i =>
    have hc : i.comparable = true := by have := errInfo0; rw [hi] at this; simp at this; exact this.2.2
    cases hj : Tryz.prog.info? 240 with
    | none => have := errsInfo0; rw [hj] at this; cases this
    | some j =>
      have h : ∀ d : Nat, (Op.equalIn (d + 3) 113 (errV a) (errV a)).run Tryz.prog w = .ok true w := fun d => by
        simp [Op.equalIn, run_underlying hm, run_underlying Tryz.underlying238, typeInfo, hi, hc, sizeOf, hj, run_sameAddr_same]
      simp only [binOp]
      simp [Op.equal, Op.maxDepth, h 9997]
theorem nil_err (a : Addr) (w : World) : (binOp .eql 113 .nilIface (errV a)).run Tryz.prog w = .ok (.bool false) w := by
  obtain ⟨ms, hm⟩ := errU
  have h : ∀ d : Nat, (Op.equalIn (d + 1) 113 .nilIface (errV a)).run Tryz.prog w = .ok false w := fun d => by
    simp [Op.equalIn, run_underlying hm]
  simp only [binOp]
  simp [Op.equal, Op.maxDepth, h 9999]
theorem niln_err (a : Addr) (w : World) : (binOp .neq 113 .nilIface (errV a)).run Tryz.prog w = .ok (.bool true) w := by
  obtain ⟨ms, hm⟩ := errU
  have h : ∀ d : Nat, (Op.equalIn (d + 1) 113 .nilIface (errV a)).run Tryz.prog w = .ok false w := fun d => by
    simp [Op.equalIn, run_underlying hm]
  simp only [binOp]
  simp [Op.equal, Op.maxDepth, h 9999]
theorem ReadByte_ch (R pos : Nat) (s : ByteArray) (w : World) (hR : RdAt w R s pos) (hp : pos < s.size) (hs : s.size < 1000000) :
    Calls Tryz.prog 395 #[ptr R] w fun e w' => e = .returned (.tuple #[.int .u8 ((ch s pos : Nat) : Int), .nilIface]) ∧ RdTo w w' R s (pos + 1) := by
  rw [← ch_eq hp]
  exact ReadByte_some R pos s w hR hp hs
/-- What the reading of a number has turned: the reader, and new blocks. -/
structure Sc (w wr : World) (R : Nat) (s : ByteArray) (pos : Nat) (z : Value) (m : Nat) : Prop where
  chg : Chg w wr (some R)
  rd : RdAt wr R s pos
  nat : ∃ o, NatS wr z m o ∧ ∀ K, o = some K → w.heap.size ≤ K
section
variable {w wr w2 : World} {R : Nat} {s : ByteArray} {pos pos' m m' : Nat} {z v : Value}
theorem Sc.read (h : Sc w wr R s pos z m) (hR : R < w.heap.size) (hr : RdTo wr w2 R s pos') : Sc w w2 R s pos' z m := by
  obtain ⟨pr, hp⟩ := hr
  obtain ⟨o, h1, h2⟩ := h.nat
  exact ⟨h.chg.put hp (.inl rfl), RdAt.of_put hp, o, h1.of_heap fun K hK => hp.other K (by have := h2 K hK; omega), h2⟩
theorem Sc.num (h : Sc w wr R s pos z m) (hR : R < w.heap.size) {o : Option Nat} (ho : ∀ K, o = some K → w.heap.size ≤ K) (hr : NatR wr w2 o m' v) : Sc w w2 R s pos v m' := by
  obtain ⟨o', h1, h2, h3⟩ := hr
  obtain ⟨pr, hb⟩ := h.rd
  refine ⟨h.chg.step h2 fun K hK => .inr (ho K hK), ⟨pr, h2.blk hb fun e => by have := ho R e; omega⟩, o', h1, fun K hK => ?_⟩
  rcases h3 with h3 | ⟨K', h3, hk⟩
  · exact ho K (h3 ▸ hK)
  · rw [h3] at hK
    obtain rfl : K' = K := Option.some.inj hK
    exact Nat.le_trans h.chg.size hk
theorem Sc.drewN (h : Sc w wr R s pos z m) (n : Nat) : Sc w (wr.drewN n) R s pos z m := ⟨h.chg.drewN n, h.rd, h.nat⟩
theorem Sc.eof (h : Sc w wr R s pos z m) (hR : 16 ≤ R) {E : Value} (hE : w.cell? ⟨2, 0, none⟩ = some E) : wr.cell? ⟨2, 0, none⟩ = some E :=
  (World.cell?_of_block (w := w) (a := ⟨2, 0, none⟩) (h.chg.block _ (World.block_lt_of_cell? w _ hE) (by simp; omega))).trans hE
theorem Sc.nod (h : Sc w wr R s pos z m) (hR : 16 ≤ R) {E : Value} (hE : w.cell? ⟨12, 0, none⟩ = some E) : wr.cell? ⟨12, 0, none⟩ = some E :=
  (World.cell?_of_block (w := w) (a := ⟨12, 0, none⟩) (h.chg.block _ (World.block_lt_of_cell? w _ hE) (by simp; omega))).trans hE
end
theorem Sc.mulAdd {w wr : World} {R : Nat} {s : ByteArray} {pos m y r : Nat} {z : Value} (h : Sc w wr R s pos z m) (hR : R < w.heap.size) (hm : wlen m < 800) (hy : y < BB) (hr : r < BB) :
    Calls Tryz.prog 274 #[z, z, .int .u64 y, .int .u64 r] wr fun e w2 => ∃ v, e = .returned v ∧ Sc w w2 R s pos v (m * y + r) := by
  obtain ⟨o, h1, h2⟩ := h.nat
  refine (mulAddWW_any z z m y r o o wr h1.recv h1 hm hy hr).mono ?_
  rintro e w2 ⟨v, rfl, hr⟩
  exact ⟨v, rfl, h.num hR h2 hr⟩
/-- What the next byte is. -/
def Nx (s : ByteArray) (E : Value) (pos : Nat) (c e : Value) (pos' : Nat) : Prop := (pos < s.size ∧ c = .int .u8 ((ch s pos : Nat) : Int) ∧ e = .nilIface ∧ pos' = pos + 1) ∨ (pos = s.size ∧ c = .int .u8 0 ∧ e = E ∧ pos' = pos)
theorem ReadByte_any (R pos : Nat) (s : ByteArray) (w : World) (E : Value) (hR : RdAt w R s pos) (hp : pos ≤ s.size) (hs : s.size < 140) (hE : w.cell? ⟨2, 0, none⟩ = some E) (hRg : 16 ≤ R) :
    ∃ c e pos', Hd (Calls Tryz.prog 395 #[ptr R] w fun e' w' => e' = .returned (.tuple #[c, e]) ∧ RdTo w w' R s pos') ∧ Hd (Nx s E pos c e pos') := by
  by_cases h : pos < s.size
  · exact ⟨_, _, _, ⟨ReadByte_ch R pos s w hR h (by omega)⟩, ⟨.inl ⟨h, rfl, rfl, rfl⟩⟩⟩
  · exact ⟨_, _, _, ⟨ReadByte_end R pos s w _ hR (by omega) (by omega) hE (by omega)⟩, ⟨.inr ⟨by omega, rfl, rfl, rfl⟩⟩⟩
theorem dn_wl {s : ByteArray} {p k : Nat} (h : ∀ j, j < k → isD (ch s (p + j))) (hk : k ≤ 140) : wlen (dn s p k) < 10 := wl (n := 8) (Nat.lt_of_lt_of_le (dn_lt h) (Nat.le_trans (Nat.pow_le_pow_right (by decide) hk) (by decide))) (by decide)
/-- The place of the reader, and what it read. -/
def Stt (s : ByteArray) (E : Value) (k pos : Nat) (c e : Value) : Prop := (k < s.size ∧ c = .int .u8 ((ch s k : Nat) : Int) ∧ e = .nilIface ∧ pos = k + 1) ∨ (k = s.size ∧ c = .int .u8 0 ∧ e = E ∧ pos = k)
theorem Nx.stt {s : ByteArray} {E c e : Value} {pos pos' : Nat} (h : Nx s E pos c e pos') : Stt s E pos pos' c e := h
theorem results_four {fn : Func} {a b c d : Tmp} (h : fn.results = #[.tmp a, .tmp b, .tmp c, .tmp d]) (tmps : Array Value) (P : Program) (w : World) :
    (results fn tmps).run P w = .ok (.tuple #[tmps.getD a undef, tmps.getD b undef, tmps.getD c undef, tmps.getD d undef]) w := by
  simp [results, h]
theorem res4 {a b c d a' b' c' d' : Value} (h1 : a = a') (h2 : b = b') (h3 : c = c') (h4 : d = d') : Ending.returned (.tuple #[a, b, c, d]) = .returned (.tuple #[a', b', c', d']) := by rw [h1, h2, h3, h4]
set_option maxHeartbeats 40000000 in
theorem scan10_any (R p n : Nat) (E : Addr) (N : Addr) (s : ByteArray) (w : World) (hRg : 16 ≤ R) (hRl : R < w.heap.size) (hs : s.size < 140) (hR : RdAt w R s p) (hE : w.cell? ⟨2, 0, none⟩ = some (errV E)) (hN : w.cell? ⟨12, 0, none⟩ = some (errV N))
    (hpn : p + n ≤ s.size) (hd : ∀ j, j < n → isD (ch s (p + j))) (hend : p + n = s.size ∨ ¬ isD (ch s (p + n))) :
    Calls Tryz.prog 281 #[.slice none 0 0, .iface 149 (ptr R), .int .i64 10, .bool false] w fun e w' => ∃ v, e = .returned (.tuple #[v, .int .i64 10, .int .i64 n, if n = 0 then errV N else .nilIface]) ∧ Sc w w' R s (p + n) v (dn s p n) := by
  have hsc0 : Sc w w R s p (.slice none 0 0) 0 := ⟨Chg.refl _ _, hR, none, NatS.nil _, fun K h => by cases h⟩
  have hmp := Hd.mk maxPow10
  obtain ⟨c0, e0, pos0, hrb, hc0⟩ := ReadByte_any R p s w _ hR (by omega) hs hE hRg
  replace hd := Hd.mk hd
  replace hend := Hd.mk hend
  replace hR := Hd.mk hR
  replace hsc0 := Hd.mk hsc0
  have hm1 := methR
  have hm2 := methU
  have hee := err_same E
  have hne := nil_err E
  have hne := nil_err E
  replace hE := Hd.mk hE
  replace hN := Hd.mk hN
  go_enter Tryz.func281, Tryz.ntmps281
  go_upto_block 2 with (first | (go_at_call 395; refine hrb.out.mono ?_; rintro e w1 ⟨rfl, hr1⟩; have hs1 := hsc0.out.read hRl hr1; clear hr1; replace hs1 := Hd.mk hs1) | (go_at_call 259; refine (hmp.out _).mono ?_; rintro e w' ⟨rfl, rfl⟩))
  go_cut [0, 10, 11, 13, 14, 20, 21, 22] (fun z cnt er pv inv di i dp wx => ∃ q i' : Nat, i' < 19 ∧ 19 * q + i' = n ∧ cnt = .int .i64 (n : Int) ∧ pv = .int .i32 (if n = 0 then 46 else 48) ∧ inv = .bool false ∧ di = .int .u64 ((dn s (p + 19 * q) i' : Nat) : Int) ∧ i = .int .i64 i' ∧ dp = .int .i64 (-1) ∧ (er = .nilIface ∨ er = errV E) ∧ Hd (Sc w wx R s (p + n) z (dn s p (19 * q))))
  case first =>
    go_wp2_with fail
    go_loopw [0, 3, 10, 11, 13, 14, 15, 20, 21, 22] (fun z fo cnt er pv inv cc di i dp wr => ∃ (q i' pos : Nat), i' < 19 ∧ 19 * q + i' ≤ n ∧ fo = .bool false ∧ cnt = .int .i64 ((19 * q + i' : Nat) : Int) ∧ pv = .int .i32 (if 19 * q + i' = 0 then 46 else 48) ∧ inv = .bool false ∧ di = .int .u64 ((dn s (p + 19 * q) i' : Nat) : Int) ∧ i = .int .i64 i' ∧ dp = .int .i64 (-1) ∧ Hd (Sc w wr R s pos z (dn s p (19 * q))) ∧ Hd (Stt s (errV E) (p + (19 * q + i')) pos cc er)) (fun _ _ cnt _ _ _ _ _ _ _ _ => n + 1 - (intOf cnt).toNat)
    case atStart => exact ⟨0, 0, pos0, by omega, by omega, rfl, rfl, rfl, rfl, rfl, rfl, rfl, hs1, ⟨hc0.out.stt⟩⟩
    case round =>
      obtain ⟨q, i', pos, hi19, hkn, rfl, rfl, rfl, rfl, rfl, rfl, rfl, hsc, hst⟩ := hrel
      have hdB : dn s (p + 19 * q) i' < BB := Nat.lt_of_lt_of_le (dn_lt (s := s) (p := p + 19 * q) (k := i') (fun j hj => by have := hd.out (19 * q + j) (by omega); rwa [← Nat.add_assoc] at this)) (Nat.le_trans (Nat.pow_le_pow_right (by decide) (show i' ≤ 19 by omega)) (by decide))
      have hpvn : ((if 19 * q + i' = 0 then (46 : Int) else 48) == 95) = false := by split <;> rfl
      have hpvd : Hd (19 * q + i' = n → (if n = 0 then (46 : Int) else 48) = (if 19 * q + i' = 0 then (46 : Int) else 48)) := ⟨fun h => by rw [h]⟩
      generalize (if 19 * q + i' = 0 then (46 : Int) else 48) = pvv at *
      by_cases hk : 19 * q + i' < n
      · obtain ⟨hlt, rfl, rfl, rfl⟩ : p + (19 * q + i') < s.size ∧ _ = _ ∧ _ = _ ∧ _ = _ := hst.out.resolve_right (fun h => by have := h.1; omega)
        have hD := hd.out (19 * q + i') hk
        have hDn : dn s (p + 19 * q) (i' + 1) = 10 * dn s (p + 19 * q) i' + (ch s (p + (19 * q + i')) - 48) := by rw [dn, Nat.add_assoc]
        have hDB : dn s (p + 19 * q) (i' + 1) < BB := Nat.lt_of_lt_of_le (dn_lt (s := s) (p := p + 19 * q) (k := i' + 1) (fun j hj => by have := hd.out (19 * q + j) (by omega); rwa [← Nat.add_assoc] at this)) (Nat.le_trans (Nat.pow_le_pow_right (by decide) (show i' + 1 ≤ 19 by omega)) (by decide))
        obtain ⟨c2, e2, pos2, hrb2, hnx⟩ : ∃ c e pos', Hd (∀ wr, Sc w wr R s (p + (19 * q + i') + 1) (.slice none 0 0) 0 → True) ∧ Hd (Nx s (errV E) (p + (19 * q + i') + 1) c e pos') := by
          by_cases h : p + (19 * q + i') + 1 < s.size
          · exact ⟨_, _, _, ⟨fun _ _ => trivial⟩, ⟨.inl ⟨h, rfl, rfl, rfl⟩⟩⟩
          · exact ⟨_, _, _, ⟨fun _ _ => trivial⟩, ⟨.inr ⟨by omega, rfl, rfl, rfl⟩⟩⟩
        clear hrb2
        have hrd : ∀ (z' : Value) (m' : Nat) (wx : World), Sc w wx R s (p + (19 * q + i') + 1) z' m' → Calls Tryz.prog 395 #[ptr R] wx fun e' w' => e' = .returned (.tuple #[c2, e2]) ∧ RdTo wx w' R s pos2 := fun z' m' wx hx => by
          rcases hnx.out with ⟨h1, rfl, rfl, rfl⟩ | ⟨h1, rfl, rfl, rfl⟩
          · exact ReadByte_ch R _ s wx hx.rd h1 (by omega)
          · exact ReadByte_end R _ s wx _ hx.rd (by omega) (by omega) (hx.eof hRg hE.out) (by omega)
        replace hrd := Hd.mk hrd
        generalize ch s (p + (19 * q + i')) = c at *
        unfold isD at hD
        have h46 : ((c : Int) == 46) = false := by simp; omega
        have h95 : ((c : Int) == 95) = false := by simp; omega
        have h48 : decide (48 ≤ (c : Int)) = true := decide_eq_true (by omega)
        have h57 : decide ((c : Int) ≤ 57) = true := decide_eq_true (by omega)
        obtain ⟨d, rfl⟩ : ∃ d, c = d + 48 := ⟨c - 48, by omega⟩
        rw [Nat.add_sub_cancel] at hDn
        have hw1 : IntKind.u8.wrap (((d + 48 : Nat) : Int) - 48) = (d : Int) := by rw [IntWalk.u8_in _ (by omega)]; omega
        have hd10 : decide (10 ≤ (d : Int)) = false := decide_eq_false (by omega)
        generalize hD0 : dn s (p + 19 * q) i' = D at *
        generalize hD1 : dn s (p + 19 * q) (i' + 1) = D1 at *
        have hw2 : IntKind.u64.wrap ((D : Int) * 10) = (D : Int) * 10 := IntWalk.u64_in _ (by unfold BB at hDB; omega)
        have hw3 : IntKind.u64.wrap ((D : Int) * 10 + d) = ((D1 : Nat) : Int) := by rw [IntWalk.u64_in _ (by unfold BB at hDB; omega)]; omega
        have hkB : 19 * q + i' < 140 := by omega
        have hp48 : (if 19 * q + i' + 1 = 0 then (46 : Int) else 48) = 48 := if_neg (by omega)
        replace hDn := Hd.mk hDn
        replace hD0 := Hd.mk hD0
        replace hD1 := Hd.mk hD1
        generalize hkv : 19 * q + i' = kv at *
        replace hkv := Hd.mk hkv
        by_cases h18 : i' = 18
        · subst h18
          obtain ⟨o9, ho1, ho2⟩ := hsc.out.nat
          have hma := Hd.mk (mulAddWW_any _ _ (dn s p (19 * q)) 10000000000000000000 D1 o9 o9 _ ho1.recv ho1 (by have := dn_wl (s := s) (p := p) (k := 19 * q) (fun j hj => hd.out j (by have := hkv.out; omega)) (by have := hkv.out; omega); omega) (by decide) hDB)
          replace ho1 := Hd.mk ho1
          replace ho2 := Hd.mk ho2
          have hval : dn s p (19 * q) * 10000000000000000000 + D1 = dn s p (19 * (q + 1)) := by
            rw [show 19 * (q + 1) = 19 * q + 19 by omega, dn_add, ← hD1.out]
          replace hval := Hd.mk hval
          go_wp2_with (first | (go_at_call 274; refine hma.out.mono ?_; rintro e w9 ⟨v9, rfl, hr9⟩; have hs9 := hsc.out.num hRl ho2.out hr9; clear hr9; rw [hval.out] at hs9; replace hs9 := Hd.mk hs9) | (go_at_call 395; refine (hrd.out _ _ _ hs9.out).mono ?_; rintro e w8 ⟨rfl, hr8⟩; have hs8 := hs9.out.read hRl hr8; clear hr8; replace hs8 := Hd.mk hs8))
          go_roundw
          case rel =>
            refine ⟨q + 1, 0, pos2, by omega, by have := hkv.out; omega, rfl, ?_, ?_, rfl, ?_, rfl, rfl, hs8, ⟨?_⟩⟩
            · congr 1; have := hkv.out; omega
            · rw [if_neg (by omega)]
            · rfl
            · have h9 := hnx.out.stt
              rwa [show p + kv + 1 = p + (19 * (q + 1) + 0) by have := hkv.out; omega] at h9
          case measure => simp [intOf]; omega
        · have h19 : (((i' : Int) + 1) == 19) = false := by simp; omega
          go_wp2_with (go_at_call 395; refine (hrd.out _ _ _ hsc.out).mono ?_; rintro e w8 ⟨rfl, hr8⟩; have hs8 := hsc.out.read hRl hr8; clear hr8; replace hs8 := Hd.mk hs8)
          go_roundw
          case rel =>
            refine ⟨q, i' + 1, pos2, by omega, by have := hkv.out; omega, rfl, ?_, ?_, rfl, ?_, rfl, rfl, hs8, ⟨?_⟩⟩
            · congr 1; have := hkv.out; omega
            · rw [if_neg (by omega)]
            · rw [hD1.out]
            · have h9 := hnx.out.stt
              rwa [show p + kv + 1 = p + (19 * q + (i' + 1)) by have := hkv.out; omega] at h9
          case measure => simp [intOf]; omega
      · have hkn2 : 19 * q + i' = n := by omega
        rw [hkn2] at hst ⊢
        have hnn := Hd.mk hkn2
        have hnB : n < 140 := by omega
        replace hdB := Hd.mk hdB
        rcases hst.out with ⟨hlt, rfl, rfl, rfl⟩ | ⟨heq, rfl, rfl, rfl⟩
        · have hnd := Hd.mk (hend.out.resolve_left (by omega))
          have hcB := ch_lt s (p + n)
          have hun := Hd.mk fun wx z m (hx : Sc w wx R s (p + n + 1) z m) => UnreadByte_any R (p + n) s wx hx.rd (by omega)
          generalize ch s (p + n) = c at *
          clear hkn2
          have hcs : c = 46 ∨ (c < 48 ∧ c ≠ 46) ∨ (57 < c ∧ c < 65) ∨ (65 ≤ c ∧ c ≤ 90) ∨ c = 95 ∨ (90 < c ∧ c < 97 ∧ c ≠ 95) ∨ (97 ≤ c ∧ c ≤ 122) ∨ 122 < c := by have := hnd.out; unfold isD at this; omega
          rcases hcs with hcc | hcc | hcc | hcc | hcc | hcc | hcc | hcc
          · subst hcc
            go_wp2_with (first | (go_at_call 396; refine (hun.out _ _ _ hsc.out).mono ?_; rintro e w8 ⟨rfl, hr8⟩; have hs9 := hsc.out.read hRl hr8; clear hr8; replace hs9 := Hd.mk hs9) | fail)
            go_meet
            exact ⟨q, i', hi19, hnn.out, rfl, by rw [hpvd.out hnn.out], rfl, rfl, rfl, rfl, .inl rfl, ⟨hs9.out⟩⟩
          · have b46 : ((c : Int) == 46) = false := by simp; omega
            have b95 : ((c : Int) == 95) = false := by simp; omega
            have d48 : decide (48 ≤ (c : Int)) = false := by simp; omega
            have d97 : decide (97 ≤ (c : Int)) = false := by simp; omega
            have d65 : decide (65 ≤ (c : Int)) = false := by simp; omega
            go_wp2_with (first | (go_at_call 396; refine (hun.out _ _ _ hsc.out).mono ?_; rintro e w8 ⟨rfl, hr8⟩; have hs9 := hsc.out.read hRl hr8; clear hr8; replace hs9 := Hd.mk hs9) | fail)
            go_meet
            exact ⟨q, i', hi19, hnn.out, rfl, by rw [hpvd.out hnn.out], rfl, rfl, rfl, rfl, .inl rfl, ⟨hs9.out⟩⟩
          · have b46 : ((c : Int) == 46) = false := by simp; omega
            have b95 : ((c : Int) == 95) = false := by simp; omega
            have d48 : decide (48 ≤ (c : Int)) = true := by simp; omega
            have d57 : decide ((c : Int) ≤ 57) = false := by simp; omega
            have d97 : decide (97 ≤ (c : Int)) = false := by simp; omega
            have d65 : decide (65 ≤ (c : Int)) = false := by simp; omega
            go_wp2_with (first | (go_at_call 396; refine (hun.out _ _ _ hsc.out).mono ?_; rintro e w8 ⟨rfl, hr8⟩; have hs9 := hsc.out.read hRl hr8; clear hr8; replace hs9 := Hd.mk hs9) | fail)
            go_meet
            exact ⟨q, i', hi19, hnn.out, rfl, by rw [hpvd.out hnn.out], rfl, rfl, rfl, rfl, .inl rfl, ⟨hs9.out⟩⟩
          · have b46 : ((c : Int) == 46) = false := by simp; omega
            have b95 : ((c : Int) == 95) = false := by simp; omega
            have d48 : decide (48 ≤ (c : Int)) = true := by simp; omega
            have d57 : decide ((c : Int) ≤ 57) = false := by simp; omega
            have d97 : decide (97 ≤ (c : Int)) = false := by simp; omega
            have d65 : decide (65 ≤ (c : Int)) = true := by simp; omega
            have d90 : decide ((c : Int) ≤ 90) = true := by simp; omega
            obtain ⟨d, hdc⟩ : ∃ d, c = d + 65 := ⟨c - 65, by omega⟩
            have hw1 : IntKind.u8.wrap ((c : Int) - 65) = (d : Int) := by rw [IntWalk.u8_in _ (by omega)]; omega
            have hw2 : IntKind.u8.wrap ((d : Int) + 10) = (d : Int) + 10 := IntWalk.u8_in _ (by omega)
            have hw3 : IntKind.u64.wrap ((d : Int) + 10) = (d : Int) + 10 := IntWalk.u64_in _ (by omega)
            have hd10 : decide (10 ≤ (d : Int) + 10) = true := decide_eq_true (by omega)
            replace hdc := Hd.mk hdc
            go_wp2_with (first | (go_at_call 396; refine (hun.out _ _ _ hsc.out).mono ?_; rintro e w8 ⟨rfl, hr8⟩; have hs9 := hsc.out.read hRl hr8; clear hr8; replace hs9 := Hd.mk hs9) | fail)
            go_meet
            exact ⟨q, i', hi19, hnn.out, rfl, by rw [hpvd.out hnn.out], rfl, rfl, rfl, rfl, .inl rfl, ⟨hs9.out⟩⟩
          · subst hcc
            go_wp2_with (first | (go_at_call 396; refine (hun.out _ _ _ hsc.out).mono ?_; rintro e w8 ⟨rfl, hr8⟩; have hs9 := hsc.out.read hRl hr8; clear hr8; replace hs9 := Hd.mk hs9) | fail)
            go_meet
            exact ⟨q, i', hi19, hnn.out, rfl, by rw [hpvd.out hnn.out], rfl, rfl, rfl, rfl, .inl rfl, ⟨hs9.out⟩⟩
          · have b46 : ((c : Int) == 46) = false := by simp; omega
            have b95 : ((c : Int) == 95) = false := by simp; omega
            have d48 : decide (48 ≤ (c : Int)) = true := by simp; omega
            have d57 : decide ((c : Int) ≤ 57) = false := by simp; omega
            have d97 : decide (97 ≤ (c : Int)) = false := by simp; omega
            have d65 : decide (65 ≤ (c : Int)) = true := by simp; omega
            have d90 : decide ((c : Int) ≤ 90) = false := by simp; omega
            go_wp2_with (first | (go_at_call 396; refine (hun.out _ _ _ hsc.out).mono ?_; rintro e w8 ⟨rfl, hr8⟩; have hs9 := hsc.out.read hRl hr8; clear hr8; replace hs9 := Hd.mk hs9) | fail)
            go_meet
            exact ⟨q, i', hi19, hnn.out, rfl, by rw [hpvd.out hnn.out], rfl, rfl, rfl, rfl, .inl rfl, ⟨hs9.out⟩⟩
          · have b46 : ((c : Int) == 46) = false := by simp; omega
            have b95 : ((c : Int) == 95) = false := by simp; omega
            have d48 : decide (48 ≤ (c : Int)) = true := by simp; omega
            have d57 : decide ((c : Int) ≤ 57) = false := by simp; omega
            have d97 : decide (97 ≤ (c : Int)) = true := by simp; omega
            have d122 : decide ((c : Int) ≤ 122) = true := by simp; omega
            obtain ⟨d, hdc⟩ : ∃ d, c = d + 97 := ⟨c - 97, by omega⟩
            have hw1 : IntKind.u8.wrap ((c : Int) - 97) = (d : Int) := by rw [IntWalk.u8_in _ (by omega)]; omega
            have hw2 : IntKind.u8.wrap ((d : Int) + 10) = (d : Int) + 10 := IntWalk.u8_in _ (by omega)
            have hw3 : IntKind.u64.wrap ((d : Int) + 10) = (d : Int) + 10 := IntWalk.u64_in _ (by omega)
            have hd10 : decide (10 ≤ (d : Int) + 10) = true := decide_eq_true (by omega)
            replace hdc := Hd.mk hdc
            go_wp2_with (first | (go_at_call 396; refine (hun.out _ _ _ hsc.out).mono ?_; rintro e w8 ⟨rfl, hr8⟩; have hs9 := hsc.out.read hRl hr8; clear hr8; replace hs9 := Hd.mk hs9) | fail)
            go_meet
            exact ⟨q, i', hi19, hnn.out, rfl, by rw [hpvd.out hnn.out], rfl, rfl, rfl, rfl, .inl rfl, ⟨hs9.out⟩⟩
          · have b46 : ((c : Int) == 46) = false := by simp; omega
            have b95 : ((c : Int) == 95) = false := by simp; omega
            have d48 : decide (48 ≤ (c : Int)) = true := by simp; omega
            have d57 : decide ((c : Int) ≤ 57) = false := by simp; omega
            have d97 : decide (97 ≤ (c : Int)) = true := by simp; omega
            have d122 : decide ((c : Int) ≤ 122) = false := by simp; omega
            have d65 : decide (65 ≤ (c : Int)) = true := by simp; omega
            have d90 : decide ((c : Int) ≤ 90) = false := by simp; omega
            go_wp2_with (first | (go_at_call 396; refine (hun.out _ _ _ hsc.out).mono ?_; rintro e w8 ⟨rfl, hr8⟩; have hs9 := hsc.out.read hRl hr8; clear hr8; replace hs9 := Hd.mk hs9) | fail)
            go_meet
            exact ⟨q, i', hi19, hnn.out, rfl, by rw [hpvd.out hnn.out], rfl, rfl, rfl, rfl, .inl rfl, ⟨hs9.out⟩⟩
        · clear hkn2
          go_wp2
          go_meet
          exact ⟨q, i', hi19, hnn.out, rfl, by rw [hpvd.out hnn.out], rfl, rfl, rfl, rfl, .inr rfl, ⟨hsc.out⟩⟩
  case rest =>
  obtain ⟨q, i', hi19, hkn, rfl, rfl, rfl, rfl, rfl, rfl, her, hsc⟩ := hcut
  have hnn := Hd.mk hkn
  have hnB : n < 140 := by omega
  have hdB : dn s (p + 19 * q) i' < BB := Nat.lt_of_lt_of_le (dn_lt (s := s) (p := p + 19 * q) (k := i') (fun j hj => by have := hd.out (19 * q + j) (by omega); rwa [← Nat.add_assoc] at this)) (Nat.le_trans (Nat.pow_le_pow_right (by decide) (show i' ≤ 19 by omega)) (by decide))
  replace hdB := Hd.mk hdB
  have hEr := hsc.out.eof hRg hE.out
  have hNr := hsc.out.nod hRg hN.out
  by_cases hn0 : n = 0
  · subst hn0
    have hi0 : i' = 0 := by omega
    subst hi0
    have hq0 : q = 0 := by omega
    subst hq0
    rcases her with rfl | rfl
    all_goals
      go_wp2
      exact bodyPost_ret (results_four rfl _ _ _) rfl ⟨u0, res4 rfl rfl rfl rfl, hsc.out⟩
  · have hc0 : ((n : Int) == 0) = false := by simp [hn0]
    have hif : ∀ u v : Value, (if n = 0 then u else v) = v := fun u v => if_neg hn0
    have hpv : ((if n = 0 then (46 : Int) else 48) == 95) = false := by rw [if_neg hn0]; rfl
    rw [if_neg hn0]
    clear hpv
    replace hif := Hd.mk hif
    by_cases hi0 : i' = 0
    · subst hi0
      have hres := hsc.out
      rw [show 19 * q = n by have := hnn.out; omega] at hres
      replace hres := Hd.mk hres
      rcases her with rfl | rfl
      all_goals
        go_wp2
        exact bodyPost_ret (results_four rfl _ _ _) rfl ⟨u0, by first | exact res4 rfl rfl rfl rfl | (rw [hif.out]; exact res4 rfl rfl rfl rfl), hres.out⟩
    · have hip : decide (0 < (i' : Int)) = true := decide_eq_true (by omega)
      have hpw := Hd.mk (pow10_any i' (by omega))
      have hma := Hd.mk fun wx z m ps (hm : m = dn s p (19 * q)) (hx : Sc w wx R s ps z m) => (show Calls _ _ _ _ _ from by subst hm; exact hx.mulAdd hRl (by have := dn_wl (s := s) (p := p) (k := 19 * q) (fun j hj => hd.out j (by have := hnn.out; omega)) (by have := hnn.out; omega); omega) (Nat.lt_of_le_of_lt (Nat.pow_le_pow_right (by decide) (show i' ≤ 19 by omega)) (by decide)) hdB.out : Calls Tryz.prog 274 #[z, z, .int .u64 ((10 ^ i' : Nat) : Int), .int .u64 ((dn s (p + 19 * q) i' : Nat) : Int)] wx fun e w2 => ∃ v, e = .returned v ∧ Sc w w2 R s ps v (m * 10 ^ i' + dn s (p + 19 * q) i'))
      have hval : dn s p (19 * q) * 10 ^ i' + dn s (p + 19 * q) i' = dn s p n := by rw [← dn_add, hkn]
      replace hval := Hd.mk hval
      rcases her with rfl | rfl
      all_goals
        go_wp2_with (first | (go_at_call 314; refine (hpw.out _).mono ?_; rintro e w' ⟨rfl, rfl⟩) | (go_at_call 274; refine (hma.out _ _ _ _ rfl hsc.out).mono ?_; rintro e w9 ⟨v9, rfl, hres⟩; rw [hval.out] at hres; replace hres := Hd.mk hres))
        exact bodyPost_ret (results_four rfl _ _ _) rfl ⟨v9, by first | exact res4 rfl rfl rfl rfl | (rw [hif.out]; exact res4 rfl rfl rfl rfl), hres.out⟩
end Go.Proofs.YtdbjdpooggaonaaGreatDoor
