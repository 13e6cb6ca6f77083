/- Texts to Ints where the base is told by the text: the text of minus seven. Whole numbers of at most 256 bits: sums, differences, products in range. The thin package: two whole numbers: the function by its closure. Conditions: those that each theorem states. -/
import Derived.Test.YtdbjdpooggaonaaGreatDoorBase22
import Derived.Test.YtdbjdpooggaonaaGreatDoorBase29
import Derived.Test.YtdbjdpooggaonaaGreatDoorBase25
import Derived.Test.YtdbjdpooggaonaaGreatDoorBase27
set_option linter.all false

section
namespace Go.Proofs.YtdbjdpooggaonaaGreatDoor
open Go.RowKit
set_option maxRecDepth 100000
abbrev m7 : ByteArray := ByteArray.mk #[45, 55]
set_option maxHeartbeats 4000000 in
theorem scan0_7 (R : Nat) (E : Addr) (s : ByteArray) (w : World) (hRg : 16 ≤ R) (hRl : R < w.heap.size) (hs : s.size = 2) (hR : RdAt w R s 1) (hE : w.cell? ⟨2, 0, none⟩ = some (errV E)) (h7 : ch s 1 = 55) :
    Calls Tryz.prog 281 #[.slice none 0 0, .iface 149 (ptr R), .int .i64 0, .bool false] w fun e w' => ∃ v, e = .returned (.tuple #[v, .int .i64 10, .int .i64 1, .nilIface]) ∧ Sc w w' R s 2 v 7 := by
  have hsc0 : Sc w w R s 1 (.slice none 0 0) 0 := ⟨Chg.refl _ _, hR, none, NatS.nil _, fun K h => by cases h⟩
  have hmp := Hd.mk maxPow10
  have hrb := ReadByte_ch R 1 s w hR (by omega) (by omega)
  rw [h7] at hrb
  replace hrb := Hd.mk hrb
  have hrd : ∀ (z' : Value) (m' : Nat) (wx : World), Sc w wx R s 2 z' m' → Calls Tryz.prog 395 #[ptr R] wx fun e' w' => e' = .returned (.tuple #[.int .u8 0, errV E]) ∧ RdTo wx w' R s 2 := fun z' m' wx hx => ReadByte_end R 2 s wx _ hx.rd (by omega) (by omega) (hx.eof hRg hE) (by omega)
  replace hrd := Hd.mk hrd
  have hEf : Hd (∀ wx z' m', Sc w wx R s 2 z' m' → wx.cell? ⟨2, 0, none⟩ = some (errV E)) := ⟨fun wx z' m' hx => hx.eof hRg hE⟩
  have hpw := Hd.mk (pow10_any 1 (by omega))
  have hma := Hd.mk fun wx (hx : Sc w wx R s 2 (.slice none 0 0) 0) => (hx.mulAdd hRl (by rw [wlen_zero]; decide) (by decide) (by decide) : Calls Tryz.prog 274 #[.slice none 0 0, .slice none 0 0, .int .u64 ((10 ^ 1 : Nat) : Int), .int .u64 ((7 : Nat) : Int)] wx fun e w2 => ∃ v, e = .returned v ∧ Sc w w2 R s 2 v (0 * 10 ^ 1 + 7))
  replace hR := Hd.mk hR
  replace hsc0 := Hd.mk hsc0
  have hm1 := methR
  have hm2 := methU
  have hee := err_same E
  have hne := nil_err E
  have hen := err_nil E
  have hnn := nil_nil
  replace hE := Hd.mk hE
  replace h7 := Hd.mk h7
  go_enter Tryz.func281, Tryz.ntmps281
  go_wp2_with (first | (go_at_call 395; refine hrb.out.mono ?_; rintro e w1 ⟨rfl, hr1⟩; have hs1 := hsc0.out.read hRl hr1; clear hr1; replace hs1 := Hd.mk hs1) | (go_at_call 259; refine (hmp.out _).mono ?_; rintro e w' ⟨rfl, rfl⟩))
  go_loopw [0, 3, 10, 11, 13, 14, 15, 20, 21, 22] (fun z fo cnt er pv inv cc di i dp wr => z = .slice none 0 0 ∧ fo = .bool false ∧ inv = .bool false ∧ dp = .int .i64 (-1) ∧ Hd (Sc w wr R s 2 (.slice none 0 0) 0) ∧ ((cnt = .int .i64 0 ∧ er = .nilIface ∧ pv = .int .i32 46 ∧ cc = .int .u8 55 ∧ di = .int .u64 0 ∧ i = .int .i64 0) ∨ (cnt = .int .i64 1 ∧ er = errV E ∧ pv = .int .i32 48 ∧ cc = .int .u8 0 ∧ di = .int .u64 7 ∧ i = .int .i64 1))) (fun _ _ cnt _ _ _ _ _ _ _ _ => 2 - (intOf cnt).toNat)
  case atStart => exact ⟨rfl, rfl, rfl, rfl, hs1, .inl ⟨rfl, rfl, rfl, rfl, rfl, rfl⟩⟩
  case round =>
    obtain ⟨rfl, rfl, rfl, rfl, hsc, hst⟩ := hrel
    rcases hst with ⟨rfl, rfl, rfl, rfl, rfl, rfl⟩ | ⟨rfl, rfl, rfl, rfl, rfl, rfl⟩
    · go_wp2_with (go_at_call 395; refine (hrd.out _ _ _ hsc.out).mono ?_; rintro e w8 ⟨rfl, hr8⟩; have hs8 := hsc.out.read hRl hr8; clear hr8; replace hs8 := Hd.mk hs8)
      go_roundw
      case rel => exact ⟨rfl, rfl, rfl, rfl, hs8, .inr ⟨rfl, rfl, rfl, rfl, rfl, rfl⟩⟩
      case measure => simp [intOf]
    · have hEr := hEf.out _ _ _ hsc.out
      go_wp2_with (first | (go_at_call 314; refine (hpw.out _).mono ?_; rintro e w' ⟨rfl, rfl⟩) | (go_at_call 274; refine (hma.out _ hsc.out).mono ?_; rintro e w9 ⟨v9, rfl, hres⟩; rw [show 0 * 10 ^ 1 + 7 = 7 from rfl] at hres; replace hres := Hd.mk hres))
      exact bodyPost_ret (results_four rfl _ _ _) rfl ⟨v9, by first | exact res4 rfl rfl rfl rfl, hres.out⟩
theorem sg7 : sgP m7 = (true, 1) := by decide
theorem wl7 : wlen 7 = 1 := wlen_one (by decide) (by decide)
set_option maxHeartbeats 4000000 in
theorem IScan0_7 (B R : Nat) (E : Addr) (w : World) (hB : Blk w B 106 [.bool false, .slice none 0 0]) (hR : RdAt w R m7 0) (hBR : B ≠ R) (hRg : 16 ≤ R) (hBg : 16 ≤ B) (hRl : R < w.heap.size)
    (hE : w.cell? ⟨2, 0, none⟩ = some (errV E)) :
    Calls Tryz.prog 242 #[ptr B, .iface 149 (ptr R), .int .i64 0] w fun e w' => e = .returned (.tuple #[ptr B, .int .i64 10, .nilIface]) ∧ C2 w w' B R ∧ RdAt w' R m7 2 ∧ ∃ o, IntAt w' B (-7) o ∧ ∀ K, o = some K → w.heap.size ≤ K := by
  have hsg := scanSign_some R m7 w hR (by decide) (by decide)
  rw [sg7] at hsg
  replace hsg := Hd.mk hsg
  have hns : Hd (∀ w1, RdTo w w1 R m7 1 → Calls Tryz.prog 281 #[.slice none 0 0, .iface 149 (ptr R), .int .i64 0, .bool false] w1 fun e w' => ∃ v, e = .returned (.tuple #[v, .int .i64 10, .int .i64 1, .nilIface]) ∧ Sc w1 w' R m7 2 v 7) := ⟨fun w1 h => by
    obtain ⟨pr, hp⟩ := h
    exact scan0_7 R E m7 w1 hRg (by rw [hp.size]; exact hRl) (by decide) (RdAt.of_put hp) ((hp.cell_other (by omega) 0).trans hE) (by decide)⟩
  have c0 := hB.cell 0
  have c1 := hB.cell 1
  simp only [List.getElem?_cons_succ, List.getElem?_cons_zero] at c0 c1
  have hfin : Hd (∀ w1 w2 w5 v o, RdTo w w1 R m7 1 → Sc w1 w2 R m7 2 v 7 → NatS w2 v 7 o → (∀ K, o = some K → w1.heap.size ≤ K) → Put w2 w5 B 106 [.bool true, v] → C2 w w5 B R ∧ RdAt w5 R m7 2 ∧ ∃ o, IntAt w5 B (-7) o ∧ ∀ K, o = some K → w.heap.size ≤ K) := ⟨fun w1 w2 w5 v o h1 h2 h3 h4 h5 => by
    have hsz : w1.heap.size = w.heap.size := h1.choose_spec.size
    refine ⟨(((C2.refl w B R).rd h1).sc h2).putB h5, ?_, o, ⟨v, ?_, ?_⟩, fun K hK => by rw [← hsz]; exact h4 K hK⟩
    · obtain ⟨pr, hb⟩ := h2.rd
      exact ⟨pr, h5.blk hb (fun e => hBR e.symm)⟩
    · exact h5.here
    · exact h3.of_heap fun K hK => h5.other K (by have := h4 K hK; have := hB.lt; omega)⟩
  replace hR := Hd.mk hR
  replace hE := Hd.mk hE
  replace hB := Hd.mk hB
  have hkB : Hd (∀ w1, RdTo w w1 R m7 1 → Blk w1 B 106 [.bool false, .slice none 0 0]) := ⟨fun w1 h => h.choose_spec.blk hB.out hBR⟩
  have hkB2 : Hd (∀ w1 w2 v, RdTo w w1 R m7 1 → Sc w1 w2 R m7 2 v 7 → Blk w2 B 106 [.bool false, .slice none 0 0]) := ⟨fun w1 w2 v h k => k.chg.blk (hkB.out w1 h) (by simp; omega)⟩
  have hm1 := methR
  have hnn := niln_nil
  have h71 := wl7
  generalize m7 = s at *
  go_enter Tryz.func242, Tryz.ntmps242
  go_wp2_with (first | (go_at_call 280; refine hsg.out.mono ?_; rintro e w1 ⟨rfl, hr1⟩; have hb1 := hkB.out w1 hr1; have d0 := hb1.cell 0; have d1 := hb1.cell 1; simp only [List.getElem?_cons_succ, List.getElem?_cons_zero] at d0 d1; have y0 := hb1.frozen 0; have y1 := hb1.frozen 1; replace hb1 := Hd.mk hb1; replace hr1 := Hd.mk hr1) | (go_at_call 281; refine (hns.out _ hr1.out).mono ?_; rintro e w2 ⟨v, rfl, hsc⟩; obtain ⟨o, hno, hoK⟩ := hsc.nat; replace hno := Hd.mk hno; obtain ⟨A, cap, rfl, hcl, _⟩ := hno.out; rw [h71] at hno; have hb2 := hkB2.out w1 w2 _ hr1.out hsc; have g0 := hb2.cell 0; have g1 := hb2.cell 1; simp only [List.getElem?_cons_succ, List.getElem?_cons_zero] at g0 g1; have q0 := hb2.frozen 0; have q1 := hb2.frozen 1; replace hb2 := Hd.mk hb2; rw [h71] at hsc; replace hsc := Hd.mk hsc; replace hoK := Hd.mk hoK))
  refine bodyPost_ret (v := .tuple #[ptr B, .int .i64 10, .nilIface]) (by simp [results, Tryz.results242, go_sem]) rfl ⟨rfl, hfin.out w1 w2 _ _ o hr1.out hsc.out hno.out hoK.out ?_⟩
  exact ((Put.refl hb2.out).set 1 _).set 0 _
set_option maxHeartbeats 4000000 in
theorem SFS0_7 (B R : Nat) (w : World) (hB : Blk w B 106 [.bool false, .slice none 0 0]) (hR : RdAt w R m7 0) (hBR : B ≠ R) (hRg : 16 ≤ R) (hBg : 16 ≤ B) (hRl : R < w.heap.size) (her : Er w) :
    Calls Tryz.prog 214 #[ptr B, .iface 149 (ptr R), .int .i64 0] w fun e w' => e = .returned (.tuple #[ptr B, .bool true]) ∧ C2 w w' B R ∧ ∃ o, IntAt w' B (-7) o ∧ ∀ K, o = some K → w.heap.size ≤ K := by
  obtain ⟨E, hE⟩ := her.eof
  have hsc := Hd.mk (IScan0_7 B R E w hB hR hBR hRg hBg hRl hE)
  have h2 : m7.size = 2 := rfl
  generalize m7 = s at *
  have hfin : Hd (∀ w1 w2 q, C2 w w1 B R → (∃ o, IntAt w1 B (-7) o ∧ ∀ K, o = some K → w.heap.size ≤ K) → RdTo w1 w2 R s q → C2 w w2 B R ∧ ∃ o, IntAt w2 B (-7) o ∧ ∀ K, o = some K → w.heap.size ≤ K) := ⟨fun w1 w2 q h1 h2 h3 => by
    obtain ⟨o, h4, h5⟩ := h2
    obtain ⟨pr, hp⟩ := h3
    exact ⟨h1.putR hp, o, h4.of_heap (hp.other B hBR) (fun K hK => hp.other K (by have := h5 K hK; omega)), h5⟩⟩
  have hEc : Hd (∀ w1, C2 w w1 B R → w1.cell? ⟨2, 0, none⟩ = some (errV E)) := ⟨fun w1 h => h.cell hE (by omega) (by omega)⟩
  have hEr : Hd (∀ w1 w2 q, w1.cell? ⟨2, 0, none⟩ = some (errV E) → RdTo w1 w2 R s q → w2.cell? ⟨2, 0, none⟩ = some (errV E)) := ⟨fun w1 w2 q h ⟨pr, hp⟩ => (hp.cell_other (by omega) 0).trans h⟩
  have hm1 := methR
  have hnn := niln_nil
  have hne := niln_err E
  have hee := errn_same E
  have hRg' := Hd.mk hRg
  clear her hB hR hE
  have hrb := Hd.mk fun w1 (h : RdAt w1 R s 2) (hE : w1.cell? ⟨2, 0, none⟩ = some (errV E)) => ReadByte_end R 2 s w1 _ h (by omega) (by omega) hE (by omega)
  replace h2 := Hd.mk h2
  go_enter Tryz.func214, Tryz.ntmps214
  go_wp2_with (first | (go_at_call 242; refine hsc.out.mono ?_; rintro e w1 ⟨rfl, hc1, hr1, hi1⟩; have hE1 := Hd.mk (hEc.out w1 hc1); replace hc1 := Hd.mk hc1; replace hr1 := Hd.mk hr1; replace hi1 := Hd.mk hi1) | (go_at_call 395; refine (hrb.out w1 hr1.out hE1.out).mono ?_; rintro e w2 ⟨rfl, hr2⟩; have hE2 := hEr.out w1 w2 _ hE1.out hr2; replace hr2 := Hd.mk hr2))
  go_ret2
  exact ⟨rfl, hfin.out w1 _ _ hc1.out hi1.out hr2.out⟩
set_option maxHeartbeats 4000000 in
theorem SetString0_7 (B : Nat) (w : World) (hB : Blk w B 106 [.bool false, .slice none 0 0]) (hBg : 16 ≤ B) (her : Er w) :
    Calls Tryz.prog 163 #[ptr B, .string m7, .int .i64 0] w fun e w' => e = .returned (.tuple #[ptr B, .bool true]) ∧ Chg w w' (some B) ∧ ∃ o, IntAt w' B (-7) o ∧ ∀ K, o = some K → w.heap.size ≤ K := by
  have hBl := hB.lt
  have hb1 : Below w.heap.size w (w.alloc (.cells #[.string m7, .int .i64 0, .int .i64 (-1)] 180)) := (Below.refl _ _).alloc (Nat.le_refl _) _
  have hsz : (w.alloc (.cells #[.string m7, .int .i64 0, .int .i64 (-1)] 180)).heap.size = w.heap.size + 1 := World.size_alloc _ _
  have hsf := Hd.mk (SFS0_7 B w.heap.size _ (hB.alloc _) ⟨-1, Blk.new w #[.string m7, .int .i64 0, .int .i64 (-1)] 180⟩ (by omega) (by omega) hBg (by omega) (her.below hb1))
  have hfin : Hd (∀ w', C2 (w.alloc (.cells #[.string m7, .int .i64 0, .int .i64 (-1)] 180)) w' B w.heap.size → (∃ o, IntAt w' B (-7) o ∧ ∀ K, o = some K → (w.alloc (.cells #[.string m7, .int .i64 0, .int .i64 (-1)] 180)).heap.size ≤ K) → Chg w w' (some B) ∧ ∃ o, IntAt w' B (-7) o ∧ ∀ K, o = some K → w.heap.size ≤ K) := ⟨fun w' h1 ⟨o, h2, h3⟩ => ⟨h1.chg (Nat.le_refl _) hb1 rfl hBl, o, h2, fun K hK => by have := h3 K hK; omega⟩⟩
  have hnr := Hd.mk (NewReader_any m7 w)
  generalize m7 = s at *
  clear hB hBg her hb1 hsz
  go_enter Tryz.func163, Tryz.ntmps163
  go_wp2_with (first | (go_at_call 215; refine hnr.out.mono ?_; rintro e w1 ⟨rfl, rfl⟩) | (go_at_call 214; refine hsf.out.mono ?_; rintro e w2 ⟨rfl, hc2, hi2⟩; replace hc2 := Hd.mk (hfin.out _ hc2 hi2); clear hi2))
  go_ret2
  exact ⟨rfl, hc2.out.1, hc2.out.2⟩
set_option maxHeartbeats 2000000 in
theorem newIFS_7 (w : World) (hok : Ok w) (her : Er w) :
    Calls Tryz.prog 226 #[.string m7] w fun e w' => ∃ B, e = .returned (.tuple #[ptr B, .bool true]) ∧ NewI w w' B (-7) := by
  have hb1 : Below w.heap.size w (w.alloc (.cells #[.bool false, .slice none 0 0] 106)) := (Below.refl _ _).alloc (Nat.le_refl _) _
  have hsz : (w.alloc (.cells #[.bool false, .slice none 0 0] 106)).heap.size = w.heap.size + 1 := World.size_alloc _ _
  have hss := Hd.mk (SetString0_7 w.heap.size _ (Blk.new w #[.bool false, .slice none 0 0] 106) (by have := hok.2; omega) (her.below hb1))
  have hfin : Hd (∀ w', Chg (w.alloc (.cells #[.bool false, .slice none 0 0] 106)) w' (some w.heap.size) → (∃ o, IntAt w' w.heap.size (-7) o ∧ ∀ K, o = some K → (w.alloc (.cells #[.bool false, .slice none 0 0] 106)).heap.size ≤ K) → NewI w w' w.heap.size (-7)) := ⟨fun w' hc ⟨o, h4, h5⟩ => ⟨Nat.le_refl _, ⟨hc.os.trans hb1.os, hc.tape.trans hb1.tape, hc.output.trans hb1.output, Nat.le_trans hb1.size hc.size, fun k hk => (hc.block k (by omega) (by simp; omega)).trans (hb1.block k hk)⟩, o, h4, fun K hK => by have := h5 K hK; omega⟩⟩
  generalize m7 = s at *
  clear hb1 hsz hok her
  go_enter Tryz.func226, Tryz.ntmps226
  go_wp2_with (go_at_call 163; refine hss.out.mono ?_; rintro e w2 ⟨rfl, hc2, hi2⟩; replace hc2 := Hd.mk (hfin.out _ hc2 hi2); clear hi2)
  go_ret2
  exact ⟨_, rfl, hc2.out⟩
end Go.Proofs.YtdbjdpooggaonaaGreatDoor
end

section
namespace Go.Proofs.YtdbjdpooggaonaaGreatDoor
open Go.RowKit
set_option maxRecDepth 100000
set_option maxHeartbeats 1000000 in
theorem cadd_any (P : Nat → Prop) (bx by_ : Nat) (x y : Int) (S : Nat → Option Int) (w : World) (hI : Ints P w S) (hx : S bx = some x) (hy : S by_ = some y) (hwx : wlen x.natAbs < 12) (hwy : wlen y.natAbs < 12) :
    Calls Tryz.prog 205 #[ptr bx, ptr by_] w fun e w' => ∃ B, e = .returned (ptr B) ∧ w.heap.size ≤ B ∧ Keep P w w' ∧ Ints P w' (upd S B (x + y)) := by
  have r0 := Hd.mk (Run.start hI)
  have hlx := hI.lt hx
  have hly := hI.lt hy
  have hlo := Hd.mk hI.low
  clear hI
  have r1 := Hd.mk (r0.out.new_int (NewI.of_new _))
  clear r0
  have hm := Hd.mk (IAdd_any _ w.heap.size bx by_ 0 x y _ _ r1.out.ints upd_same (by rw [upd_ne (by omega), hx]) (by rw [upd_ne (by omega), hy]) (by omega) (by omega))
  generalize x + y = z at *
  replace hx := Hd.mk hx
  replace hy := Hd.mk hy
  go_enter Tryz.func205, Tryz.ntmps205
  go_wp2_with fail
  refine (hm.out).mono ?_
  rintro e w2 ⟨rfl, hk2, hI2⟩
  have s2 := hk2.size
  try simp only [World.size_alloc] at s2
  have r2 := Hd.mk (r1.out.op hk2 hI2)
  clear hk2 hI2 r1
  go_wp2
  go_ret
  exact ⟨_, rfl, by omega, r2.out.fin.1, r2.out.fin.2.sub fun k z hk => by
    rcases upd_cases hk with ⟨rfl, rfl⟩ | ⟨hne, hk⟩
    · repeat first | exact upd_same | rw [upd_ne (by omega)]
    · have hkl := hlo.out.lt hk
      repeat rw [upd_ne (by first | exact hne | ((try simp only [World.size_alloc]); omega))]
      exact hk
    ⟩
set_option maxHeartbeats 2000000 in
theorem cSafeAdd_ok (P : Nat → Prop) (bx by_ : Nat) (x y z : Int) (S : Nat → Option Int) (w : World) (hI : Ints P w S) (hx : S bx = some x) (hy : S by_ = some y) (hwx : wlen x.natAbs < 12) (hwy : wlen y.natAbs < 12) (hz : z.natAbs < 2 ^ 256) (hzz : x + y = z) :
    Calls Tryz.prog 150 #[.agg #[ptr bx], .agg #[ptr by_]] w fun e w' => ∃ B, e = .returned (.tuple #[.agg #[ptr B], .nilIface]) ∧ w.heap.size ≤ B ∧ Keep P w w' ∧ Ints P w' (upd S B z) := by
  have r0 := Hd.mk (Run.start hI)
  have hlx := hI.lt hx
  have hly := hI.lt hy
  have hlo := Hd.mk hI.low
  clear hI
  have r1 := Hd.mk (r0.out.box #[ptr bx] 65)
  clear r0
  have r2 := Hd.mk (r1.out.box #[ptr by_] 65)
  clear r1
  simp only [World.size_alloc] at r2
  have r3 := Hd.mk (r2.out.box #[.pointer none] 65)
  clear r2
  simp only [World.size_alloc] at r3
  have ha := cadd_any _ bx by_ x y _ _ r3.out.ints hx hy hwx hwy
  rw [hzz] at ha
  replace ha := Hd.mk ha
  have hov := Hd.mk fun (Q : Nat → Prop) B S1 w1 (h : Ints Q w1 S1) (h1 : S1 B = some z) => overflows_no Q B z S1 w1 h h1 hz
  replace hx := Hd.mk hx
  replace hy := Hd.mk hy
  replace hz := Hd.mk hz
  replace hzz := Hd.mk hzz
  go_enter Tryz.func150, Tryz.ntmps150
  go_wp2_with (first
    | (go_at_call 205; refine ha.out.mono ?_; rintro e w4 ⟨B4, rfl, g4, hk4, hI4⟩; have r4 := Hd.mk (r3.out.op hk4 hI4); clear hk4 hI4; (try simp only [World.size_alloc] at g4); obtain ⟨c4, c4z, c4l⟩ := r4.out.cell (b := w.heap.size + 1 + 1) updX_same; have r5 := Hd.mk (r4.out.set1 (b := w.heap.size + 1 + 1) (v := .pointer none) (v' := ptr B4) updX_same))
    | (go_at_call 196; refine (hov.out _ B4 _ _ r5.out.ints upd_same).mono ?_; rintro e w5 ⟨rfl, rfl⟩))
  have r6 := r5.out.set1 (b := w.heap.size + 1 + 1) (v := ptr B4) (v' := ptr B4) updX_same
  refine bodyPost_ret (v := .tuple #[.agg #[ptr B4], .nilIface]) (by simp [results, Tryz.results150, go_sem, c4, c4z, c4l]) rfl ⟨_, rfl, by omega, r6.fin.1, r6.fin.2.sub fun k z hk => ?_⟩
  rcases upd_cases hk with ⟨rfl, rfl⟩ | ⟨hne, hk⟩
  · repeat first | exact upd_same | rw [upd_ne (by omega)]
  · have hkl := hlo.out.lt hk
    repeat rw [upd_ne (by first | exact hne | ((try simp only [World.size_alloc]); omega))]
    exact hk
set_option maxHeartbeats 2000000 in
theorem cAdd_ok (P : Nat → Prop) (bx by_ : Nat) (x y z : Int) (S : Nat → Option Int) (w : World) (hI : Ints P w S) (hx : S bx = some x) (hy : S by_ = some y) (hwx : wlen x.natAbs < 12) (hwy : wlen y.natAbs < 12) (hz : z.natAbs < 2 ^ 256) (hzz : x + y = z) :
    Calls Tryz.prog 59 #[.agg #[ptr bx], .agg #[ptr by_]] w fun e w' => ∃ B, e = .returned (.agg #[ptr B]) ∧ w.heap.size ≤ B ∧ Keep P w w' ∧ Ints P w' (upd S B z) := by
  have r0 := Hd.mk (Run.start hI)
  have hlx := hI.lt hx
  have hly := hI.lt hy
  have hlo := Hd.mk hI.low
  clear hI
  have r1 := Hd.mk (r0.out.box #[ptr bx] 65)
  clear r0
  have r2 := Hd.mk (r1.out.box #[ptr by_] 65)
  clear r1
  simp only [World.size_alloc] at r2
  have r3 := Hd.mk (r2.out.box #[.pointer none] 65)
  clear r2
  simp only [World.size_alloc] at r3
  have ha := Hd.mk (cSafeAdd_ok _ bx by_ x y z _ _ r3.out.ints hx hy hwx hwy hz hzz)
  have hnn := niln_nil
  replace hx := Hd.mk hx
  replace hy := Hd.mk hy
  replace hz := Hd.mk hz
  replace hzz := Hd.mk hzz
  go_enter Tryz.func59, Tryz.ntmps59
  go_wp2_with (go_at_call 150; refine ha.out.mono ?_; rintro e w4 ⟨B4, rfl, g4, hk4, hI4⟩; have r4 := Hd.mk (r3.out.op hk4 hI4); clear hk4 hI4; (try simp only [World.size_alloc] at g4); obtain ⟨c4, c4z, c4l⟩ := r4.out.cell (b := w.heap.size + 1 + 1) updX_same)
  have r7 := (r4.out.set1 (b := w.heap.size + 1 + 1) (v := .pointer none) (v' := ptr B4) updX_same).box #[ptr B4] 65
  refine bodyPost_ret (v := .agg #[ptr B4]) (by simp [results, Tryz.results59, go_sem, c4, c4z, c4l]) rfl ⟨_, rfl, by omega, r7.fin.1, r7.fin.2.sub fun k z hk => ?_⟩
  rcases upd_cases hk with ⟨rfl, rfl⟩ | ⟨hne, hk⟩
  · repeat first | exact upd_same | rw [upd_ne (by omega)]
  · have hkl := hlo.out.lt hk
    repeat rw [upd_ne (by first | exact hne | ((try simp only [World.size_alloc]); omega))]
    exact hk
set_option maxHeartbeats 1000000 in
theorem csub_any (P : Nat → Prop) (bx by_ : Nat) (x y : Int) (S : Nat → Option Int) (w : World) (hI : Ints P w S) (hx : S bx = some x) (hy : S by_ = some y) (hwx : wlen x.natAbs < 12) (hwy : wlen y.natAbs < 12) :
    Calls Tryz.prog 206 #[ptr bx, ptr by_] w fun e w' => ∃ B, e = .returned (ptr B) ∧ w.heap.size ≤ B ∧ Keep P w w' ∧ Ints P w' (upd S B (x - y)) := by
  have r0 := Hd.mk (Run.start hI)
  have hlx := hI.lt hx
  have hly := hI.lt hy
  have hlo := Hd.mk hI.low
  clear hI
  have r1 := Hd.mk (r0.out.new_int (NewI.of_new _))
  clear r0
  have hm := Hd.mk (ISub_any _ w.heap.size bx by_ 0 x y _ _ r1.out.ints upd_same (by rw [upd_ne (by omega), hx]) (by rw [upd_ne (by omega), hy]) (by omega) (by omega))
  generalize x - y = z at *
  replace hx := Hd.mk hx
  replace hy := Hd.mk hy
  go_enter Tryz.func206, Tryz.ntmps206
  go_wp2_with fail
  refine (hm.out).mono ?_
  rintro e w2 ⟨rfl, hk2, hI2⟩
  have s2 := hk2.size
  try simp only [World.size_alloc] at s2
  have r2 := Hd.mk (r1.out.op hk2 hI2)
  clear hk2 hI2 r1
  go_wp2
  go_ret
  exact ⟨_, rfl, by omega, r2.out.fin.1, r2.out.fin.2.sub fun k z hk => by
    rcases upd_cases hk with ⟨rfl, rfl⟩ | ⟨hne, hk⟩
    · repeat first | exact upd_same | rw [upd_ne (by omega)]
    · have hkl := hlo.out.lt hk
      repeat rw [upd_ne (by first | exact hne | ((try simp only [World.size_alloc]); omega))]
      exact hk
    ⟩
set_option maxHeartbeats 2000000 in
theorem cSafeSub_ok (P : Nat → Prop) (bx by_ : Nat) (x y z : Int) (S : Nat → Option Int) (w : World) (hI : Ints P w S) (hx : S bx = some x) (hy : S by_ = some y) (hwx : wlen x.natAbs < 12) (hwy : wlen y.natAbs < 12) (hz : z.natAbs < 2 ^ 256) (hzz : x - y = z) :
    Calls Tryz.prog 151 #[.agg #[ptr bx], .agg #[ptr by_]] w fun e w' => ∃ B, e = .returned (.tuple #[.agg #[ptr B], .nilIface]) ∧ w.heap.size ≤ B ∧ Keep P w w' ∧ Ints P w' (upd S B z) := by
  have r0 := Hd.mk (Run.start hI)
  have hlx := hI.lt hx
  have hly := hI.lt hy
  have hlo := Hd.mk hI.low
  clear hI
  have r1 := Hd.mk (r0.out.box #[ptr bx] 65)
  clear r0
  have r2 := Hd.mk (r1.out.box #[ptr by_] 65)
  clear r1
  simp only [World.size_alloc] at r2
  have r3 := Hd.mk (r2.out.box #[.pointer none] 65)
  clear r2
  simp only [World.size_alloc] at r3
  have ha := csub_any _ bx by_ x y _ _ r3.out.ints hx hy hwx hwy
  rw [hzz] at ha
  replace ha := Hd.mk ha
  have hov := Hd.mk fun (Q : Nat → Prop) B S1 w1 (h : Ints Q w1 S1) (h1 : S1 B = some z) => overflows_no Q B z S1 w1 h h1 hz
  replace hx := Hd.mk hx
  replace hy := Hd.mk hy
  replace hz := Hd.mk hz
  replace hzz := Hd.mk hzz
  go_enter Tryz.func151, Tryz.ntmps151
  go_wp2_with (first
    | (go_at_call 206; refine ha.out.mono ?_; rintro e w4 ⟨B4, rfl, g4, hk4, hI4⟩; have r4 := Hd.mk (r3.out.op hk4 hI4); clear hk4 hI4; (try simp only [World.size_alloc] at g4); obtain ⟨c4, c4z, c4l⟩ := r4.out.cell (b := w.heap.size + 1 + 1) updX_same; have r5 := Hd.mk (r4.out.set1 (b := w.heap.size + 1 + 1) (v := .pointer none) (v' := ptr B4) updX_same))
    | (go_at_call 196; refine (hov.out _ B4 _ _ r5.out.ints upd_same).mono ?_; rintro e w5 ⟨rfl, rfl⟩))
  have r6 := r5.out.set1 (b := w.heap.size + 1 + 1) (v := ptr B4) (v' := ptr B4) updX_same
  refine bodyPost_ret (v := .tuple #[.agg #[ptr B4], .nilIface]) (by simp [results, Tryz.results151, go_sem, c4, c4z, c4l]) rfl ⟨_, rfl, by omega, r6.fin.1, r6.fin.2.sub fun k z hk => ?_⟩
  rcases upd_cases hk with ⟨rfl, rfl⟩ | ⟨hne, hk⟩
  · repeat first | exact upd_same | rw [upd_ne (by omega)]
  · have hkl := hlo.out.lt hk
    repeat rw [upd_ne (by first | exact hne | ((try simp only [World.size_alloc]); omega))]
    exact hk
set_option maxHeartbeats 2000000 in
theorem cSub_ok (P : Nat → Prop) (bx by_ : Nat) (x y z : Int) (S : Nat → Option Int) (w : World) (hI : Ints P w S) (hx : S bx = some x) (hy : S by_ = some y) (hwx : wlen x.natAbs < 12) (hwy : wlen y.natAbs < 12) (hz : z.natAbs < 2 ^ 256) (hzz : x - y = z) :
    Calls Tryz.prog 61 #[.agg #[ptr bx], .agg #[ptr by_]] w fun e w' => ∃ B, e = .returned (.agg #[ptr B]) ∧ w.heap.size ≤ B ∧ Keep P w w' ∧ Ints P w' (upd S B z) := by
  have r0 := Hd.mk (Run.start hI)
  have hlx := hI.lt hx
  have hly := hI.lt hy
  have hlo := Hd.mk hI.low
  clear hI
  have r1 := Hd.mk (r0.out.box #[ptr bx] 65)
  clear r0
  have r2 := Hd.mk (r1.out.box #[ptr by_] 65)
  clear r1
  simp only [World.size_alloc] at r2
  have r3 := Hd.mk (r2.out.box #[.pointer none] 65)
  clear r2
  simp only [World.size_alloc] at r3
  have ha := Hd.mk (cSafeSub_ok _ bx by_ x y z _ _ r3.out.ints hx hy hwx hwy hz hzz)
  have hnn := niln_nil
  replace hx := Hd.mk hx
  replace hy := Hd.mk hy
  replace hz := Hd.mk hz
  replace hzz := Hd.mk hzz
  go_enter Tryz.func61, Tryz.ntmps61
  go_wp2_with (go_at_call 151; refine ha.out.mono ?_; rintro e w4 ⟨B4, rfl, g4, hk4, hI4⟩; have r4 := Hd.mk (r3.out.op hk4 hI4); clear hk4 hI4; (try simp only [World.size_alloc] at g4); obtain ⟨c4, c4z, c4l⟩ := r4.out.cell (b := w.heap.size + 1 + 1) updX_same)
  have r7 := (r4.out.set1 (b := w.heap.size + 1 + 1) (v := .pointer none) (v' := ptr B4) updX_same).box #[ptr B4] 65
  refine bodyPost_ret (v := .agg #[ptr B4]) (by simp [results, Tryz.results61, go_sem, c4, c4z, c4l]) rfl ⟨_, rfl, by omega, r7.fin.1, r7.fin.2.sub fun k z hk => ?_⟩
  rcases upd_cases hk with ⟨rfl, rfl⟩ | ⟨hne, hk⟩
  · repeat first | exact upd_same | rw [upd_ne (by omega)]
  · have hkl := hlo.out.lt hk
    repeat rw [upd_ne (by first | exact hne | ((try simp only [World.size_alloc]); omega))]
    exact hk
set_option maxHeartbeats 1000000 in
theorem cmul_any (P : Nat → Prop) (bx by_ : Nat) (x y : Int) (S : Nat → Option Int) (w : World) (hI : Ints P w S) (hx : S bx = some x) (hy : S by_ = some y) (hwx : wlen x.natAbs < 12) (hwy : wlen y.natAbs < 12) :
    Calls Tryz.prog 207 #[ptr bx, ptr by_] w fun e w' => ∃ B, e = .returned (ptr B) ∧ w.heap.size ≤ B ∧ Keep P w w' ∧ Ints P w' (upd S B (x * y)) := by
  have r0 := Hd.mk (Run.start hI)
  have hlx := hI.lt hx
  have hly := hI.lt hy
  have hlo := Hd.mk hI.low
  clear hI
  have r1 := Hd.mk (r0.out.new_int (NewI.of_new _))
  clear r0
  have hm := Hd.mk (IMul_any _ w.heap.size bx by_ 0 x y _ _ r1.out.ints upd_same (by rw [upd_ne (by omega), hx]) (by rw [upd_ne (by omega), hy]) (by omega) (by omega) (fun _ => hwx))
  generalize x * y = z at *
  replace hx := Hd.mk hx
  replace hy := Hd.mk hy
  go_enter Tryz.func207, Tryz.ntmps207
  go_wp2_with fail
  refine (hm.out).mono ?_
  rintro e w2 ⟨rfl, hk2, hI2⟩
  have s2 := hk2.size
  try simp only [World.size_alloc] at s2
  have r2 := Hd.mk (r1.out.op hk2 hI2)
  clear hk2 hI2 r1
  go_wp2
  go_ret
  exact ⟨_, rfl, by omega, r2.out.fin.1, r2.out.fin.2.sub fun k z hk => by
    rcases upd_cases hk with ⟨rfl, rfl⟩ | ⟨hne, hk⟩
    · repeat first | exact upd_same | rw [upd_ne (by omega)]
    · have hkl := hlo.out.lt hk
      repeat rw [upd_ne (by first | exact hne | ((try simp only [World.size_alloc]); omega))]
      exact hk
    ⟩
set_option maxHeartbeats 2000000 in
theorem cSafeMul_ok (P : Nat → Prop) (bx by_ : Nat) (x y z : Int) (S : Nat → Option Int) (w : World) (hI : Ints P w S) (hx : S bx = some x) (hy : S by_ = some y) (hwx : wlen x.natAbs < 12) (hwy : wlen y.natAbs < 12) (hz : z.natAbs < 2 ^ 256) (hzz : x * y = z) :
    Calls Tryz.prog 152 #[.agg #[ptr bx], .agg #[ptr by_]] w fun e w' => ∃ B, e = .returned (.tuple #[.agg #[ptr B], .nilIface]) ∧ w.heap.size ≤ B ∧ Keep P w w' ∧ Ints P w' (upd S B z) := by
  have r0 := Hd.mk (Run.start hI)
  have hlx := hI.lt hx
  have hly := hI.lt hy
  have hlo := Hd.mk hI.low
  clear hI
  have r1 := Hd.mk (r0.out.box #[ptr bx] 65)
  clear r0
  have r2 := Hd.mk (r1.out.box #[ptr by_] 65)
  clear r1
  simp only [World.size_alloc] at r2
  have r3 := Hd.mk (r2.out.box #[.pointer none] 65)
  clear r2
  simp only [World.size_alloc] at r3
  have ha := cmul_any _ bx by_ x y _ _ r3.out.ints hx hy hwx hwy
  rw [hzz] at ha
  replace ha := Hd.mk ha
  have hov := Hd.mk fun (Q : Nat → Prop) B S1 w1 (h : Ints Q w1 S1) (h1 : S1 B = some z) => overflows_no Q B z S1 w1 h h1 hz
  replace hx := Hd.mk hx
  replace hy := Hd.mk hy
  replace hz := Hd.mk hz
  replace hzz := Hd.mk hzz
  go_enter Tryz.func152, Tryz.ntmps152
  go_wp2_with (first
    | (go_at_call 207; refine ha.out.mono ?_; rintro e w4 ⟨B4, rfl, g4, hk4, hI4⟩; have r4 := Hd.mk (r3.out.op hk4 hI4); clear hk4 hI4; (try simp only [World.size_alloc] at g4); obtain ⟨c4, c4z, c4l⟩ := r4.out.cell (b := w.heap.size + 1 + 1) updX_same; have r5 := Hd.mk (r4.out.set1 (b := w.heap.size + 1 + 1) (v := .pointer none) (v' := ptr B4) updX_same))
    | (go_at_call 196; refine (hov.out _ B4 _ _ r5.out.ints upd_same).mono ?_; rintro e w5 ⟨rfl, rfl⟩))
  have r6 := r5.out.set1 (b := w.heap.size + 1 + 1) (v := ptr B4) (v' := ptr B4) updX_same
  refine bodyPost_ret (v := .tuple #[.agg #[ptr B4], .nilIface]) (by simp [results, Tryz.results152, go_sem, c4, c4z, c4l]) rfl ⟨_, rfl, by omega, r6.fin.1, r6.fin.2.sub fun k z hk => ?_⟩
  rcases upd_cases hk with ⟨rfl, rfl⟩ | ⟨hne, hk⟩
  · repeat first | exact upd_same | rw [upd_ne (by omega)]
  · have hkl := hlo.out.lt hk
    repeat rw [upd_ne (by first | exact hne | ((try simp only [World.size_alloc]); omega))]
    exact hk
set_option maxHeartbeats 2000000 in
theorem cMul_ok (P : Nat → Prop) (bx by_ : Nat) (x y z : Int) (S : Nat → Option Int) (w : World) (hI : Ints P w S) (hx : S bx = some x) (hy : S by_ = some y) (hwx : wlen x.natAbs < 12) (hwy : wlen y.natAbs < 12) (hz : z.natAbs < 2 ^ 256) (hzz : x * y = z) :
    Calls Tryz.prog 62 #[.agg #[ptr bx], .agg #[ptr by_]] w fun e w' => ∃ B, e = .returned (.agg #[ptr B]) ∧ w.heap.size ≤ B ∧ Keep P w w' ∧ Ints P w' (upd S B z) := by
  have r0 := Hd.mk (Run.start hI)
  have hlx := hI.lt hx
  have hly := hI.lt hy
  have hlo := Hd.mk hI.low
  clear hI
  have r1 := Hd.mk (r0.out.box #[ptr bx] 65)
  clear r0
  have r2 := Hd.mk (r1.out.box #[ptr by_] 65)
  clear r1
  simp only [World.size_alloc] at r2
  have r3 := Hd.mk (r2.out.box #[.pointer none] 65)
  clear r2
  simp only [World.size_alloc] at r3
  have ha := Hd.mk (cSafeMul_ok _ bx by_ x y z _ _ r3.out.ints hx hy hwx hwy hz hzz)
  have hnn := niln_nil
  replace hx := Hd.mk hx
  replace hy := Hd.mk hy
  replace hz := Hd.mk hz
  replace hzz := Hd.mk hzz
  go_enter Tryz.func62, Tryz.ntmps62
  go_wp2_with (go_at_call 152; refine ha.out.mono ?_; rintro e w4 ⟨B4, rfl, g4, hk4, hI4⟩; have r4 := Hd.mk (r3.out.op hk4 hI4); clear hk4 hI4; (try simp only [World.size_alloc] at g4); obtain ⟨c4, c4z, c4l⟩ := r4.out.cell (b := w.heap.size + 1 + 1) updX_same)
  have r7 := (r4.out.set1 (b := w.heap.size + 1 + 1) (v := .pointer none) (v' := ptr B4) updX_same).box #[ptr B4] 65
  refine bodyPost_ret (v := .agg #[ptr B4]) (by simp [results, Tryz.results62, go_sem, c4, c4z, c4l]) rfl ⟨_, rfl, by omega, r7.fin.1, r7.fin.2.sub fun k z hk => ?_⟩
  rcases upd_cases hk with ⟨rfl, rfl⟩ | ⟨hne, hk⟩
  · repeat first | exact upd_same | rw [upd_ne (by omega)]
  · have hkl := hlo.out.lt hk
    repeat rw [upd_ne (by first | exact hne | ((try simp only [World.size_alloc]); omega))]
    exact hk
end Go.Proofs.YtdbjdpooggaonaaGreatDoor
end

section
namespace Go.Proofs.YtdbjdpooggaonaaGreatDoor
open Go.RowKit
set_option maxRecDepth 100000
/-- The boxes of impl.IntDo. -/
abbrev idoW (w : World) (k : Int) (a : ByteArray) (b : ByteArray) : World := ((((w.alloc (.cells #[.int .i64 k] 3)).alloc (.cells #[.string a] 9)).alloc (.cells #[.string b] 9)).alloc (.cells #[.string (ByteArray.mk #[])] 9))
theorem idoW_size (w : World) (k : Int) (a : ByteArray) (b : ByteArray) : (idoW w k a b).heap.size = w.heap.size + 4 := by simp only [World.size_alloc]
theorem idoW_below (w : World) (k : Int) (a : ByteArray) (b : ByteArray) : Below w.heap.size w (idoW w k a b) :=
  (((((Below.refl _ _).alloc (Nat.le_refl _) _).alloc (by simp only [World.size_alloc]; omega) _).alloc (by simp only [World.size_alloc]; omega) _).alloc (by simp only [World.size_alloc]; omega) _)
theorem idoW_blk (w : World) (k : Int) (a : ByteArray) (b : ByteArray) : Blk (idoW w k a b) w.heap.size 3 [.int .i64 k] ∧ Blk (idoW w k a b) (w.heap.size + 1) 9 [.string a] ∧ Blk (idoW w k a b) (w.heap.size + 2) 9 [.string b] ∧ Blk (idoW w k a b) (w.heap.size + 3) 9 [.string (ByteArray.mk #[])] := by
  have h1 := Blk.new w #[.int .i64 k] 3
  have h2 := Blk.new (w.alloc (.cells #[.int .i64 k] 3)) #[.string a] 9
  have h3 := Blk.new ((w.alloc (.cells #[.int .i64 k] 3)).alloc (.cells #[.string a] 9)) #[.string b] 9
  have h4 := Blk.new (((w.alloc (.cells #[.int .i64 k] 3)).alloc (.cells #[.string a] 9)).alloc (.cells #[.string b] 9)) #[.string (ByteArray.mk #[])] 9
  simp only [World.size_alloc] at h1 h2 h3 h4
  exact ⟨(((h1.alloc _).alloc _).alloc _), ((h2.alloc _).alloc _), (h3.alloc _), h4⟩
/-- What the closure of impl.IntDo is asked. -/
def idoCl (k : Int) (a : ByteArray) (b : ByteArray) (R : Ending → World → Nat → Prop) : Prop := ∀ bk ba bb bu w, Ok w → Er w → Blk w bk 3 [.int .i64 k] → Blk w ba 9 [.string a] → Blk w bb 9 [.string b] → Blk w bu 9 [.string (ByteArray.mk #[])] →
  (bk ≠ bu ∧ ba ≠ bu ∧ bb ≠ bu) → 16 ≤ bu →
  Calls Tryz.prog 58 #[ptr ba, ptr bb, ptr bk, ptr bu] w fun e w' => Keep (fun k => k < w.heap.size ∧ k ≠ bu) w w' ∧ R e w' bu
set_option maxHeartbeats 2000000 in
theorem ido_ok (k : Int) (a : ByteArray) (b : ByteArray) (z : ByteArray) (w : World) (hok : Ok w) (her : Er w) (hcl : idoCl k a b fun e w' bu => e = .returned (.tuple #[]) ∧ Blk w' bu 9 [.string z]) :
    Calls Tryz.prog 21 #[.int .i64 k, .string a, .string b] w fun e w' => e = .returned (.tuple #[.string z, .bool true]) ∧ Below w.heap.size w w' := by
  obtain ⟨h1, h2, h3, h4⟩ := idoW_blk w k a b
  have hb1 := idoW_below w k a b
  have hs1 := idoW_size w k a b
  have h100 := hok.2
  generalize hW : idoW w k a b = w1 at *
  have hb2 : Below w1.heap.size w1 (okW w1) := (Below.refl _ _).alloc (Nat.le_refl _) _
  have hb3 := hb1.trans (hb2.mono hb1.size)
  have hs2 : (okW w1).heap.size = w1.heap.size + 1 := World.size_alloc _ _
  have hc := hcl w.heap.size (w.heap.size + 1) (w.heap.size + 2) (w.heap.size + 3) (okW w1) (hok.below hb3) (her.below hb3) (h1.alloc _) (h2.alloc _) (h3.alloc _) (h4.alloc _) (by omega) (by omega)
  have hsf := Hd.mk (safe_ok 58 _ w1 (fun w2 => Keep (fun k => k < (okW w1).heap.size ∧ k ≠ (w.heap.size + 3)) (okW w1) w2 ∧ Blk w2 (w.heap.size + 3) 9 [.string z]) (enters Tryz.func58 (by kernel_rfl) (by kernel_rfl)) (hc.mono fun e w2 ⟨q1, q2, q3⟩ => ⟨q2, q1.block _ ⟨by omega, by omega⟩ (by omega), q1, q3⟩))
  have hfin : Hd (∀ w2 w3, Keep (fun k => k < (okW w1).heap.size ∧ k ≠ (w.heap.size + 3)) (okW w1) w2 → Put w2 w3 w1.heap.size 4 [.bool true] → Below w.heap.size w w3) := ⟨fun w2 w3 q1 q2 => q2.bel (hb3.trans ⟨q1.os, q1.tape, q1.output, q1.size, fun k hk => q1.block k ⟨Nat.lt_of_lt_of_le hk hb3.size, by omega⟩ (Nat.lt_of_lt_of_le hk hb3.size)⟩) hb1.size⟩
  have hmf : ∀ (fn : Fn) (first cap : Array Value) (w : World), (Instr.makeFunc fn first cap).run Tryz.prog w = .ok (.func fn first cap) w := fun _ _ _ _ => rfl
  have hne : w.heap.size + 3 ≠ w1.heap.size := by omega
  clear hcl hc h1 h2 h3 h4 hb1 hb2 hb3 hok her
  go_enter Tryz.func21, Tryz.ntmps21
  go_wp2_with fail
  refine hsf.out.mono ?_
  rintro e w3 ⟨rfl, w2, ⟨hc2, hu2⟩, hp3⟩
  have hb3 := Hd.mk (hfin.out w2 w3 hc2 hp3)
  have hu3 := hp3.blk hu2 hne
  have cu : w3.cell? ⟨w.heap.size + 1 + 1 + 1, 0, none⟩ = some (.string z) := hu3.cell 0
  have zu : w3.frozen? ⟨w.heap.size + 1 + 1 + 1, 0, none⟩ = false := hu3.frozen 0
  have lu : w.heap.size + 1 + 1 + 1 < w3.heap.size := hu3.lt
  clear hu3 hu2 hc2 hp3 hsf hfin
  go_wp2
  refine bodyPost_ret (v := .tuple #[.string z, .bool true]) (by simp [results, Tryz.results21, go_sem, cu, zu, lu]) rfl ⟨rfl, ?_⟩
  (repeat first | exact hb3.out | refine Below.setCell ?_ (by dsimp only; omega) _)
end Go.Proofs.YtdbjdpooggaonaaGreatDoor
end
