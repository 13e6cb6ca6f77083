/- The thin package: a text's number, a decimal of its parts' text, and back. The thin package: number, decimal, parts. Conditions: those that each theorem states. -/
import Derived.Test.YtdbjdpooggaonaaGreatDoorBase21
import Derived.Test.YtdbjdpooggaonaaGreatDoorBase12
set_option linter.all false

section
namespace Go.Proofs.YtdbjdpooggaonaaGreatDoor
open Go.RowKit
set_option maxRecDepth 100000
/-- The errors' variables. -/
structure Er (w : World) : Prop where
  eof : ∃ E, w.cell? ⟨2, 0, none⟩ = some (errV E)
  nod : ∃ E, w.cell? ⟨12, 0, none⟩ = some (errV E)
theorem cb' {w w' : World} {p : Addr} {u : Value} (hb : Below w.heap.size w w') (h : w.cell? p = some u) : w'.cell? p = some u := (hb.cell (World.block_lt_of_cell? w _ h)).trans h
theorem Er.below {w w' : World} (h : Er w) (hb : Below w.heap.size w w') : Er w' :=
  ⟨h.eof.imp fun _ => cb' hb, h.nod.imp fun _ => cb' hb⟩
theorem Er.keep {P : Nat → Prop} {w w' : World} (h : Er w) (hk : Keep P w w') (hP : ∀ k, k < 16 → P k) : Er w' :=
  have go : ∀ {g : Nat} {u : Value}, g < 16 → w.cell? ⟨g, 0, none⟩ = some u → w'.cell? ⟨g, 0, none⟩ = some u := fun hg hc => (World.cell?_of_block (w := w) (a := ⟨_, 0, none⟩) (hk.block _ (hP _ hg) (World.block_lt_of_cell? w _ hc))).trans hc
  ⟨h.eof.imp fun _ => go (by decide), h.nod.imp fun _ => go (by decide)⟩
theorem NewReader_any (s : ByteArray) (w : World) : Calls Tryz.prog 215 #[.string s] w fun e w' => e = .returned (ptr w.heap.size) ∧ w' = w.alloc (.cells #[.string s, .int .i64 0, .int .i64 (-1)] 180) := by
  go_enter Tryz.func215, Tryz.ntmps215
  go_wp2
  go_ret
  exact ⟨rfl, rfl⟩
set_option maxHeartbeats 4000000 in
theorem SFS_any (B R n : Nat) (s : ByteArray) (w : World) (hB : Blk w B 106 [.bool false, .slice none 0 0]) (hR : RdAt w R s 0) (hBR : B ≠ R) (hRg : 16 ≤ R) (hBg : 16 ≤ B) (hRl : R < w.heap.size) (h0 : 0 < s.size) (hs : s.size < 140)
    (her : Er w) (hpn : (sgP s).2 + n ≤ s.size) (hd : ∀ j, j < n → isD (ch s ((sgP s).2 + j))) (hend : (sgP s).2 + n = s.size ∨ ¬ isD (ch s ((sgP s).2 + n))) (hn : n ≠ 0) :
    Calls Tryz.prog 214 #[ptr B, .iface 149 (ptr R), .int .i64 10] w fun e w' => e = .returned (.tuple #[if (sgP s).2 + n = s.size then ptr B else .pointer none, .bool (decide ((sgP s).2 + n = s.size))]) ∧ C2 w w' B R ∧ ∃ o, IntAt w' B (sgZ s n) o ∧ ∀ K, o = some K → w.heap.size ≤ K := by
  obtain ⟨E, hE⟩ := her.eof
  obtain ⟨N, hN⟩ := her.nod
  have hsc := Hd.mk (IScan_ok B R n s E N w hB hR hBR hRg hBg hRl h0 hs hE hN hpn hd hend hn)
  generalize sgZ s n = z at *
  generalize (sgP s).2 = p at *
  have hfin : Hd (∀ w1 w2 q, C2 w w1 B R → (∃ o, IntAt w1 B z o ∧ ∀ K, o = some K → w.heap.size ≤ K) → RdTo w1 w2 R s q → C2 w w2 B R ∧ ∃ o, IntAt w2 B z o ∧ ∀ K, o = some K → w.heap.size ≤ K) := ⟨fun w1 w2 q h1 h2 h3 => by
    obtain ⟨o, h4, h5⟩ := h2
    obtain ⟨pr, hp⟩ := h3
    exact ⟨h1.putR hp, o, h4.of_heap (hp.other B hBR) (fun K hK => hp.other K (by have := h5 K hK; omega)), h5⟩⟩
  have hEc : Hd (∀ w1, C2 w w1 B R → w1.cell? ⟨2, 0, none⟩ = some (errV E)) := ⟨fun w1 h => h.cell hE (by omega) (by omega)⟩
  have hEr : Hd (∀ w1 w2 q, w1.cell? ⟨2, 0, none⟩ = some (errV E) → RdTo w1 w2 R s q → w2.cell? ⟨2, 0, none⟩ = some (errV E)) := ⟨fun w1 w2 q h ⟨pr, hp⟩ => (hp.cell_other (by omega) 0).trans h⟩
  have hm1 := methR
  have hnn := niln_nil
  have hne := niln_err E
  have hee := errn_same E
  have hRg' := Hd.mk hRg
  clear her hB hR hd hend hN hE
  by_cases hps : p + n = s.size
  · rw [if_pos hps, decide_eq_true hps]
    have hrb := Hd.mk fun w1 (h : RdAt w1 R s (p + n)) (hE : w1.cell? ⟨2, 0, none⟩ = some (errV E)) => ReadByte_end R (p + n) s w1 _ h (by omega) (by omega) hE (by omega)
    replace hps := Hd.mk hps
    go_enter Tryz.func214, Tryz.ntmps214
    go_wp2_with (first | (go_at_call 242; refine hsc.out.mono ?_; rintro e w1 ⟨rfl, hc1, hr1, hi1⟩; have hE1 := Hd.mk (hEc.out w1 hc1); replace hc1 := Hd.mk hc1; replace hr1 := Hd.mk hr1; replace hi1 := Hd.mk hi1) | (go_at_call 395; refine (hrb.out w1 hr1.out hE1.out).mono ?_; rintro e w2 ⟨rfl, hr2⟩; have hE2 := hEr.out w1 w2 _ hE1.out hr2; replace hr2 := Hd.mk hr2))
    go_ret2
    exact ⟨rfl, hfin.out w1 _ _ hc1.out hi1.out hr2.out⟩
  · rw [if_neg hps, decide_eq_false hps]
    have hrb := Hd.mk fun w1 (h : RdAt w1 R s (p + n)) => ReadByte_ch R (p + n) s w1 h (by omega) (by omega)
    replace hps := Hd.mk hps
    go_enter Tryz.func214, Tryz.ntmps214
    go_wp2_with (first | (go_at_call 242; refine hsc.out.mono ?_; rintro e w1 ⟨rfl, hc1, hr1, hi1⟩; have hE1 := Hd.mk (hEc.out w1 hc1); replace hc1 := Hd.mk hc1; replace hr1 := Hd.mk hr1; replace hi1 := Hd.mk hi1) | (go_at_call 395; refine (hrb.out w1 hr1.out).mono ?_; rintro e w2 ⟨rfl, hr2⟩; have hE2 := hEr.out w1 w2 _ hE1.out hr2; replace hr2 := Hd.mk hr2))
    go_ret2
    exact ⟨rfl, hfin.out w1 _ _ hc1.out hi1.out hr2.out⟩
set_option maxHeartbeats 4000000 in
theorem SetString_any (B n : Nat) (s : ByteArray) (w : World) (hB : Blk w B 106 [.bool false, .slice none 0 0]) (hBg : 16 ≤ B) (h0 : 0 < s.size) (hs : s.size < 140)
    (her : Er w) (hpn : (sgP s).2 + n ≤ s.size) (hd : ∀ j, j < n → isD (ch s ((sgP s).2 + j))) (hend : (sgP s).2 + n = s.size ∨ ¬ isD (ch s ((sgP s).2 + n))) (hn : n ≠ 0) :
    Calls Tryz.prog 163 #[ptr B, .string s, .int .i64 10] w fun e w' => e = .returned (.tuple #[if (sgP s).2 + n = s.size then ptr B else .pointer none, .bool (decide ((sgP s).2 + n = s.size))]) ∧ Chg w w' (some B) ∧ ∃ o, IntAt w' B (sgZ s n) o ∧ ∀ K, o = some K → w.heap.size ≤ K := by
  have hBl := hB.lt
  have hb1 : Below w.heap.size w (w.alloc (.cells #[.string s, .int .i64 0, .int .i64 (-1)] 180)) := (Below.refl _ _).alloc (Nat.le_refl _) _
  have hsz : (w.alloc (.cells #[.string s, .int .i64 0, .int .i64 (-1)] 180)).heap.size = w.heap.size + 1 := World.size_alloc _ _
  have hsf := Hd.mk (SFS_any B w.heap.size n s _ (hB.alloc _) ⟨-1, Blk.new w #[.string s, .int .i64 0, .int .i64 (-1)] 180⟩ (by omega) (by omega) hBg (by omega) h0 hs (her.below hb1) hpn hd hend hn)
  have hfin : Hd (∀ w', C2 (w.alloc (.cells #[.string s, .int .i64 0, .int .i64 (-1)] 180)) w' B w.heap.size → (∃ o, IntAt w' B (sgZ s n) o ∧ ∀ K, o = some K → (w.alloc (.cells #[.string s, .int .i64 0, .int .i64 (-1)] 180)).heap.size ≤ K) → Chg w w' (some B) ∧ ∃ o, IntAt w' B (sgZ s n) o ∧ ∀ K, o = some K → w.heap.size ≤ K) := ⟨fun w' h1 ⟨o, h2, h3⟩ => ⟨h1.chg (Nat.le_refl _) hb1 rfl hBl, o, h2, fun K hK => by have := h3 K hK; omega⟩⟩
  have hnr := Hd.mk (NewReader_any s w)
  generalize (if (sgP s).2 + n = s.size then ptr B else Value.pointer none) = r1 at *
  generalize decide ((sgP s).2 + n = s.size) = r2 at *
  generalize sgZ s n = z at *
  clear hB hBg her hd hend hb1 hsz hn hpn
  go_enter Tryz.func163, Tryz.ntmps163
  go_wp2_with (first | (go_at_call 215; refine hnr.out.mono ?_; rintro e w1 ⟨rfl, rfl⟩) | (go_at_call 214; refine hsf.out.mono ?_; rintro e w2 ⟨rfl, hc2, hi2⟩; replace hc2 := Hd.mk (hfin.out _ hc2 hi2); clear hi2))
  go_ret2
  exact ⟨rfl, hc2.out.1, hc2.out.2⟩
end Go.Proofs.YtdbjdpooggaonaaGreatDoor
end

section
namespace Go.Proofs.YtdbjdpooggaonaaGreatDoor
open Go.RowKit
set_option maxRecDepth 100000
theorem nil_toList : (ByteArray.mk #[]).toList = [] := by rw [ByteArray.toList_eq]
theorem str_emp (s : ByteArray) : (s.toList == (ByteArray.mk #[]).toList) = decide (s.size = 0) := by
  rw [nil_toList, ByteArray.toList_eq, ← bts_length]
  unfold bts
  rw [List.length_map]
  cases s.data.toList <;> rfl
theorem zT_size (x : Int) : (zT x).size = dlen x.natAbs + (if x < 0 then 1 else 0) := by rw [← bts_length, bts_zT, ztx_length]
theorem zT_short {x : Int} (h : x.natAbs < 10 ^ 130) : (zT x).size < 140 ∧ 0 < (zT x).size := by
  have h1 := dlen_pos x.natAbs
  have h2 : dlen x.natAbs ≤ 130 := by
    by_cases h0 : x.natAbs = 0
    · rw [h0, dlen_small (by decide)]; omega
    · exact dlen_le_of h h0
  rw [zT_size]
  split <;> omega
theorem wl130 {x : Int} (h : x.natAbs < 10 ^ 130) : wlen x.natAbs < 10 := wl (n := 8) (Nat.lt_of_lt_of_le h (by decide)) (by decide)
theorem isNull_any (bd : Nat) (w : World) : Calls Tryz.prog 134 #[.agg #[ptr bd]] w fun e w' => e = .returned (.bool false) ∧ w' = w.alloc (.cells #[ptr bd] 68) := by
  go_enter Tryz.func134, Tryz.ntmps134
  go_wp2
  go_ret
  exact ⟨rfl, rfl⟩
set_option maxHeartbeats 1000000 in
theorem number_ok (x : Int) (w : World) (hok : Ok w) (her : Er w) (hx : x.natAbs < 10 ^ 130) : Calls Tryz.prog 74 #[.string (zT x)] w fun e w' => ∃ B, e = .returned (ptr B) ∧ NewI w w' B x := by
  obtain ⟨hs, h0⟩ := zT_short hx
  obtain ⟨h1, h2, h3⟩ := scan_zT x
  have hb1 : Below w.heap.size w (w.alloc (.cells #[.bool false, .slice none 0 0] 106)) := (Below.refl _ _).alloc (Nat.le_refl _) _
  have hsz : (w.alloc (.cells #[.bool false, .slice none 0 0] 106)).heap.size = w.heap.size + 1 := World.size_alloc _ _
  have hss := SetString_any w.heap.size (dlen x.natAbs) (zT x) _ (Blk.new w #[.bool false, .slice none 0 0] 106) (by have := hok.2; omega) h0 hs (her.below hb1) (by omega) h2 (.inl h1) (by have := dlen_pos x.natAbs; omega)
  rw [if_pos h1, decide_eq_true h1, h3] at hss
  have hfin : Hd (∀ w', Chg (w.alloc (.cells #[.bool false, .slice none 0 0] 106)) w' (some w.heap.size) → (∃ o, IntAt w' w.heap.size x o ∧ ∀ K, o = some K → (w.alloc (.cells #[.bool false, .slice none 0 0] 106)).heap.size ≤ K) → NewI w w' w.heap.size x) := ⟨fun w' hc ⟨o, h4, h5⟩ => ⟨Nat.le_refl _, ⟨hc.os.trans hb1.os, hc.tape.trans hb1.tape, hc.output.trans hb1.output, Nat.le_trans hb1.size hc.size, fun k hk => (hc.block k (by omega) (by simp; omega)).trans (hb1.block k hk)⟩, o, h4, fun K hK => by have := h5 K hK; omega⟩⟩
  have hem : (zT x).toList.isEmpty = false := by
    have := str_emp (zT x)
    rw [decide_eq_false (by omega)] at this
    cases h : (zT x).toList with
    | nil => rw [h, nil_toList] at this; exact absurd this (by decide)
    | cons => rfl
  have hem2 := (str_emp (zT x)).trans (decide_eq_false (by omega))
  replace hss := Hd.mk hss
  generalize zT x = s at *
  replace hb1 := Hd.mk hb1
  replace hsz := Hd.mk hsz
  clear h1 h2 h3
  go_enter Tryz.func74, Tryz.ntmps74
  go_wp2_with (go_at_call 163; refine hss.out.mono ?_; rintro e w2 ⟨rfl, hc2, hi2⟩; replace hc2 := Hd.mk (hfin.out _ hc2 hi2); clear hi2)
  go_ret
  exact ⟨_, rfl, hc2.out⟩
set_option maxHeartbeats 1000000 in
theorem decimal_ok (x : Int) (w : World) (hok : Ok w) (her : Er w) (hx : x.natAbs < 10 ^ 130) : Calls Tryz.prog 42 #[.string (zT x)] w fun e w' => ∃ B, e = .returned (.agg #[ptr B]) ∧ NewI w w' B x := by
  have r0 := Hd.mk hok.run
  have hb1 : Below w.heap.size w (w.alloc (.cells #[.pointer none] 68)) := (Below.refl _ _).alloc (Nat.le_refl _) _
  have her1 := Hd.mk (her.below hb1)
  clear hb1
  have r1 := Hd.mk (r0.out.box #[.pointer none] 68)
  clear r0
  have hwl := Hd.mk (wl130 hx)
  generalize hzs : zT x = s
  have hnu := Hd.mk fun w1 h1 h2 => hzs ▸ number_ok x w1 h1 h2 hx
  clear hzs
  go_enter Tryz.func42, Tryz.ntmps42
  go_wp2_with fail
  refine (hnu.out _ r1.out.ok her1.out).mono ?_
  rintro e w2 ⟨B2, rfl, hn2⟩
  have r2 := Hd.mk (r1.out.new_int hn2)
  have g2 := hn2.ge
  have s2 := hn2.bel.size
  try simp only [World.size_alloc] at g2 s2
  have l2 := r2.out.ilt upd_same
  have q2 := Hd.mk hn2.bel
  clear hn2 r1
  have hm := Hd.mk (NewDecPrec_any _ B2 18 x _ w2 r2.out.ints upd_same (by decide) (by have := hwl.out; omega))
  go_wp2_with fail
  refine (hm.out).mono ?_
  rintro e w3 ⟨B3, rfl, g3, hk3, hI3⟩
  have s3 := hk3.size
  try simp only [World.size_alloc] at g3 s3
  have r3 := Hd.mk (r2.out.op hk3 hI3)
  have l3 := r3.out.ilt upd_same
  clear hk3 hI3 r2
  obtain ⟨c3, c3z, c3l⟩ := r3.out.cell (b := w.heap.size) updX_same
  go_wp2
  have r4 := r3.out.store updX_same (put1 (r3.out.bx _ _ _ updX_same) (v' := ptr B3))
  refine bodyPost_ret (v := .agg #[ptr B3]) (by simp [results, Tryz.results42, go_sem, c3, c3z, c3l]) rfl ⟨_, rfl, r4.newI (by rw [upd_same, show x * ((10 ^ (18 - 18) : Nat) : Int) = x by simp])⟩
set_option maxHeartbeats 1000000 in
theorem BigInt_any (P : Nat → Prop) (bd : Nat) (x : Int) (S : Nat → Option Int) (w : World) (hI : Ints P w S) (hx : S bd = some x) (hw : wlen x.natAbs < 800) :
    Calls Tryz.prog 135 #[.agg #[ptr bd]] w fun e w' => ∃ B, e = .returned (ptr B) ∧ w.heap.size ≤ B ∧ Keep P w w' ∧ Ints P w' (upd S B x) := by
  have r0 := Hd.mk (Run.start hI)
  have hlx := hI.lt hx
  have hlo := Hd.mk hI.low
  clear hI
  have r1 := Hd.mk (r0.out.box #[ptr bd] 68)
  clear r0
  have r2 := Hd.mk (r1.out.box #[ptr bd] 68)
  clear r1
  have r3 := Hd.mk (r2.out.new_int (NewI.of_new _))
  clear r2
  simp only [World.size_alloc] at r3
  have hni := Hd.mk (isNull_any bd)
  have hm := Hd.mk (ISet_any _ (w.heap.size + 1 + 1) bd 0 x _ _ r3.out.ints upd_same (by rw [upd_ne (by omega), hx]) hw)
  have hxk := Hd.mk hx
  clear hx
  go_enter Tryz.func135, Tryz.ntmps135
  go_wp2_with (first | (go_at_call 134; refine (hni.out _).mono ?_; rintro e w2 ⟨rfl, rfl⟩) | (go_at_call 137; refine hm.out.mono ?_; rintro e w4 ⟨rfl, hk4, hI4⟩; have r4 := Hd.mk (r3.out.op hk4 hI4); clear hk4 hI4))
  go_ret
  exact ⟨_, rfl, by omega, r4.out.fin.1, r4.out.fin.2.sub fun k z hk => by
    rcases upd_cases hk with ⟨rfl, rfl⟩ | ⟨hne, hk⟩
    · repeat first | exact upd_same | rw [upd_ne (by omega)]
    · have hkl := hlo.out.lt hk
      repeat rw [upd_ne (by first | exact hne | ((try simp only [World.size_alloc]); omega))]
      exact hk
    ⟩
set_option maxHeartbeats 1000000 in
theorem parts_ok (P : Nat → Prop) (bd : Nat) (x : Int) (S : Nat → Option Int) (w : World) (hI : Ints P w S) (hx : S bd = some x) (hw : wlen x.natAbs ≤ 8) :
    Calls Tryz.prog 51 #[.agg #[ptr bd]] w fun e w' => e = .returned (.string (zT x)) ∧ Keep P w w' ∧ Ints P w' S := by
  have r0 := Hd.mk (Run.start hI)
  have hlx := hI.lt hx
  have hlo := Hd.mk hI.low
  clear hI
  have r1 := Hd.mk (r0.out.box #[ptr bd] 68)
  clear r0
  have r2 := Hd.mk (r1.out.box #[ptr bd] 68)
  clear r1
  simp only [World.size_alloc] at r2
  have hni := Hd.mk (isNull_any bd)
  have hbi := Hd.mk (BigInt_any _ bd x _ _ r2.out.ints hx (by omega))
  have hit := Hd.mk fun (Q : Nat → Prop) B S1 w1 (h : Ints Q w1 S1) (h1 : S1 B = some x) => IString_any Q B x S1 w1 h h1 hw
  generalize zT x = s at *
  have hxk := Hd.mk hx
  clear hx
  go_enter Tryz.func51, Tryz.ntmps51
  go_wp2_with (first | (go_at_call 134; refine (hni.out _).mono ?_; rintro e w2 ⟨rfl, rfl⟩) | (go_at_call 135; refine hbi.out.mono ?_; rintro e w3 ⟨B3, rfl, g3, hk3, hI3⟩; have r3 := Hd.mk (r2.out.op hk3 hI3); have l3 := r3.out.ilt upd_same; clear hk3 hI3) | (go_at_call 136; refine (hit.out _ _ _ _ r3.out.ints upd_same).mono ?_; rintro e w4 ⟨rfl, hb4⟩; have r4 := Hd.mk (r3.out.below hb4); clear hb4))
  go_ret
  try simp only [World.size_alloc] at g3
  exact ⟨rfl, r4.out.fin.1, r4.out.fin.2.sub fun k z hk => by
    have hkl := hlo.out.lt hk
    rw [upd_ne (by omega)]
    exact hk⟩
end Go.Proofs.YtdbjdpooggaonaaGreatDoor
end
