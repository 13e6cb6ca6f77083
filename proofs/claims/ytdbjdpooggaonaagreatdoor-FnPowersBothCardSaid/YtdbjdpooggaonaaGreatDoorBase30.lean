/- The thin package: a decimal made of a whole number: the closure. The thin package: a decimal made of a whole number. Conditions: those that each theorem states. -/
import Derived.Test.YtdbjdpooggaonaaGreatDoorBase29
set_option linter.all false

section
namespace Go.Proofs.YtdbjdpooggaonaaGreatDoor
open Go.RowKit
set_option maxRecDepth 100000
set_option maxHeartbeats 2000000 in
theorem dSetInt64_any (P : Nat → Prop) (bd : Nat) (z x : Int) (S : Nat → Option Int) (w : World) (hI : Ints P w S) (hz : S bd = some z) (h1 : -9223372036854775808 ≤ x) (h2 : x ≤ 9223372036854775807) :
    Calls Tryz.prog 77 #[.agg #[ptr bd], .int .i64 x] w fun e w' => e = .returned (.agg #[ptr bd]) ∧ Keep P w w' ∧ Ints P w' (upd S bd (x * E18)) := by
  have r0 := Hd.mk (Run.start hI)
  have hlo := Hd.mk hI.low
  have hl := hI.lt hz
  clear hI
  have r1 := Hd.mk (r0.out.box #[ptr bd] 68)
  clear r0
  have r2 := Hd.mk (r1.out.box #[.pointer none] 68)
  clear r1
  simp only [World.size_alloc] at r2
  have hwx : wlen x.natAbs < 12 := wl (n := 1) (by unfold BB; omega) (by decide)
  have hm := Hd.mk (ISetInt64_any _ bd z x _ _ r2.out.ints hz h1 h2)
  replace hz := Hd.mk hz
  go_enter Tryz.func77, Tryz.ntmps77
  go_wp2_with fail
  refine (hm.out).mono ?_
  rintro e w3 ⟨rfl, hk3, hI3⟩
  have s3 := hk3.size
  try simp only [World.size_alloc] at s3
  have r3 := Hd.mk (r2.out.op hk3 hI3)
  clear hk3 hI3 r2
  obtain ⟨c3, c3z, c3l⟩ := r3.out.cell (b := w.heap.size) (by rw [updX_ne (by omega), updX_same])
  go_upto_region 2 with fail
  go_region_law (first
    | (go_simp; go_at_call 138; refine (precisionReuse_any _ r3.out.drew.ok).mono ?_; rintro e w4 ⟨B4, rfl, hn4⟩; have r4 := Hd.mk (r3.out.drew.new_int hn4); have g4 : w3.heap.size ≤ B4 := hn4.ge; have l4 := r4.out.ilt upd_same; obtain ⟨c4, c4z, c4l⟩ := r4.out.cell (b := w.heap.size) (by rw [updX_ne (by omega), updX_same]); obtain ⟨d4, d4z, d4l⟩ := r4.out.cell (b := w.heap.size + 1) updX_same; clear hn4)
    | (go_simp; go_at_call 160; refine (IMul_any _ bd bd B4 x x 1000000000000000000 _ w4 r4.out.ints (by rw [upd_ne (by omega), upd_same]) (by rw [upd_ne (by omega), upd_same]) upd_same (by omega) (lt_40 wl18) (fun _ => hwx)).mono ?_; rintro e w5 ⟨rfl, hk5, hI5⟩; have r5 := Hd.mk (r4.out.op hk5 hI5); obtain ⟨c5, c5z, c5l⟩ := r5.out.cell (b := w.heap.size) (by rw [updX_ne (by omega), updX_same]); obtain ⟨d5, d5z, d5l⟩ := r5.out.cell (b := w.heap.size + 1) updX_same; clear hk5 hI5))
  all_goals
    go_wp2
    have r6 := r5.out.set1 (b := w.heap.size + 1) (v := .pointer none) (v' := ptr bd) updX_same
    refine bodyPost_ret (v := .agg #[ptr bd]) (by simp [results, Tryz.results77, go_sem, d5, d5z, d5l]) rfl ⟨rfl, r6.fin.1, r6.fin.2.sub fun k v hk => ?_⟩
    rcases upd_cases hk with ⟨rfl, rfl⟩ | ⟨hne, hk⟩
    · exact upd_same
    · have hkl := hlo.out.lt hk
      rw [upd_ne hne, upd_ne (by omega), upd_ne hne]
      exact hk
set_option maxHeartbeats 4000000 in
theorem makK_0 (x z : Int) (p : Nat) (hp18 : p ≤ 18) (hz : wlen z.natAbs < 8) (h1 : -9223372036854775808 ≤ x) (h2 : x ≤ 9223372036854775807) (hzz : x * E18 = z) : makCl 0 (zT x) (p : Int) fun e w' bu => e = .returned (.tuple #[]) ∧ Blk w' bu 9 [.string (zT z)] := by
  intro bk bs bp bu w hok her hk hs hp hu hne hu1
  have r0 := Hd.mk (Run.start1 hok hu hu1)
  have hpz := Hd.mk fun (Q : Nat → Prop) B S1 w1 (h : Ints Q w1 S1) (h1 : S1 B = some z) => parts_ok Q B z S1 w1 h h1 (by omega)
  have ck := hk.cell 0
  have cs := hs.cell 0
  have cp := hp.cell 0
  simp only [List.getElem?_cons_zero] at ck cs cp
  have lk := hk.lt
  have ls := hs.lt
  have lp := hp.lt
  have lu := hu.lt
  have hPs := Hd.mk (p := bs < w.heap.size ∧ bs ≠ bu) ⟨hs.lt, hne.2.1⟩
  have hPp := Hd.mk (p := bp < w.heap.size ∧ bp ≠ bu) ⟨hp.lt, hne.2.2⟩
  have hbu : bu ≠ w.heap.size := by omega
  have r1 := Hd.mk (r0.out.box #[.pointer none] 68)
  clear r0
  have hb1 : Below w.heap.size w (w.alloc (.cells #[.pointer none] 68)) := (Below.refl _ _).alloc (Nat.le_refl _) _
  have hok1 := hok.below hb1
  have her1 := her.below hb1
  have hs1 := Hd.mk (small_ok x (w.alloc (.cells #[.pointer none] 68)) h1 h2)
  have hf1 := Hd.mk fun w1 (h : Ok w1) => NewDec_any x w1 h h1 h2
  rw [hzz] at hf1
  replace hzz := Hd.mk hzz
  generalize zT x = sx at *
  generalize zT z = sz at *
  replace hk := Hd.mk hk
  replace hs := Hd.mk hs
  replace hp := Hd.mk hp
  replace hu := Hd.mk hu
  replace hok1 := Hd.mk hok1
  replace her1 := Hd.mk her1
  clear hb1
  go_enter Tryz.func67, Tryz.ntmps67
  go_wp2_with fail
  refine hs1.out.mono ?_
  rintro e w2 ⟨rfl, hb2⟩
  have r2 := Hd.mk (r1.out.below hb2)
  clear hb2 r1
  go_wp2_with fail
  refine (hf1.out _ r2.out.ok).mono ?_
  rintro e w7 ⟨B7, rfl, hn7⟩
  have r7 := Hd.mk (r2.out.new_int hn7)
  have hB7 := Hd.mk (p := upd (fun _ => Option.none) B7 z B7 = some z) upd_same
  clear hn7 r2
  obtain ⟨c7, c7z, c7l⟩ := r7.out.cell (b := w.heap.size) updX_same
  have r8 := Hd.mk (r7.out.set1 (b := w.heap.size) (v := .pointer none) (v' := ptr B7) updX_same)
  have hm8 := Hd.mk (hpz.out _ B7 _ _ r8.out.ints hB7.out)
  go_wp2_with fail
  refine hm8.out.mono ?_
  rintro e w9 ⟨rfl, hk9, hI9⟩
  have r9 := Hd.mk (r8.out.op hk9 hI9)
  clear hk9 hI9 hm8 r8
  obtain ⟨u9, u9z, u9l⟩ := r9.out.cell (b := bu) (by rw [updX_ne hbu, updX_ne hbu, updX_same])
  have r10 := Hd.mk (r9.out.set1 (b := bu) (v' := .string sz) (by rw [updX_ne hbu, updX_ne hbu, updX_same]))
  have hkk := Hd.mk r10.out.keep
  have hub := Hd.mk (r10.out.bx bu _ _ updX_same)
  go_wp2
  go_end0
  exact ⟨hkk.out, rfl, hub.out⟩
set_option maxHeartbeats 4000000 in
theorem makK_1 (x z : Int) (p : Nat) (hp18 : p ≤ 18) (hz : wlen z.natAbs < 8) (h1 : -9223372036854775808 ≤ x) (h2 : x ≤ 9223372036854775807) (hzz : x * ((10 ^ (18 - p) : Nat) : Int) = z) : makCl 1 (zT x) (p : Int) fun e w' bu => e = .returned (.tuple #[]) ∧ Blk w' bu 9 [.string (zT z)] := by
  intro bk bs bp bu w hok her hk hs hp hu hne hu1
  have r0 := Hd.mk (Run.start1 hok hu hu1)
  have hpz := Hd.mk fun (Q : Nat → Prop) B S1 w1 (h : Ints Q w1 S1) (h1 : S1 B = some z) => parts_ok Q B z S1 w1 h h1 (by omega)
  have ck := hk.cell 0
  have cs := hs.cell 0
  have cp := hp.cell 0
  simp only [List.getElem?_cons_zero] at ck cs cp
  have lk := hk.lt
  have ls := hs.lt
  have lp := hp.lt
  have lu := hu.lt
  have hPs := Hd.mk (p := bs < w.heap.size ∧ bs ≠ bu) ⟨hs.lt, hne.2.1⟩
  have hPp := Hd.mk (p := bp < w.heap.size ∧ bp ≠ bu) ⟨hp.lt, hne.2.2⟩
  have hbu : bu ≠ w.heap.size := by omega
  have r1 := Hd.mk (r0.out.box #[.pointer none] 68)
  clear r0
  have hb1 : Below w.heap.size w (w.alloc (.cells #[.pointer none] 68)) := (Below.refl _ _).alloc (Nat.le_refl _) _
  have hok1 := hok.below hb1
  have her1 := her.below hb1
  have hs1 := Hd.mk (small_ok x (w.alloc (.cells #[.pointer none] 68)).drew h1 h2)
  have hf1 := Hd.mk fun w1 (h : Ok w1) => NewDecWP_any x p hp18 w1 h h1 h2
  rw [hzz] at hf1
  replace hzz := Hd.mk hzz
  generalize zT x = sx at *
  generalize zT z = sz at *
  replace hk := Hd.mk hk
  replace hs := Hd.mk hs
  replace hp := Hd.mk hp
  replace hu := Hd.mk hu
  replace hok1 := Hd.mk hok1
  replace her1 := Hd.mk her1
  clear hb1
  go_enter Tryz.func67, Tryz.ntmps67
  go_upto_region 5 with fail
  go_region_law (first
    | (go_simp; go_at_call 69; refine hs1.out.mono ?_; rintro e w2 ⟨rfl, hb2⟩; have r2 := Hd.mk (r1.out.drew.below hb2); clear hb2; have jp : w2.cell? ⟨bp, 0, none⟩ = some (.int .i64 p) := (r2.out.keep.blk hp.out hPp.out).cell 0; have lp2 : bp < w2.heap.size := Nat.lt_of_lt_of_le hPp.out.1 r2.out.ge)
    | (go_simp; go_at_call 70; refine (hf1.out _ r2.out.ok).mono ?_; rintro e w7 ⟨B7, rfl, hn7⟩; have r7 := Hd.mk (r2.out.new_int hn7); clear hn7; obtain ⟨c7, c7z, c7l⟩ := r7.out.cell (b := w.heap.size) updX_same))
  all_goals
    have hB7 := Hd.mk (p := upd (fun _ => Option.none) B7 z B7 = some z) upd_same
    have r8 := Hd.mk (r7.out.set1 (b := w.heap.size) (v := .pointer none) (v' := ptr B7) updX_same)
    have hm8 := Hd.mk (hpz.out _ B7 _ _ r8.out.ints hB7.out)
    go_wp2_with fail
    refine hm8.out.mono ?_
    rintro e w9 ⟨rfl, hk9, hI9⟩
    have r9 := Hd.mk (r8.out.op hk9 hI9)
    clear hk9 hI9 hm8 r8
    obtain ⟨u9, u9z, u9l⟩ := r9.out.cell (b := bu) (by rw [updX_ne hbu, updX_ne hbu, updX_same])
    have r10 := Hd.mk (r9.out.set1 (b := bu) (v' := .string sz) (by rw [updX_ne hbu, updX_ne hbu, updX_same]))
    have hkk := Hd.mk r10.out.keep
    have hub := Hd.mk (r10.out.bx bu _ _ updX_same)
    go_wp2
    go_end0
    exact ⟨hkk.out, rfl, hub.out⟩
set_option maxHeartbeats 4000000 in
theorem makK_2 (x z : Int) (p : Nat) (hp18 : p ≤ 18) (hz : wlen z.natAbs < 8) (hx : x.natAbs < 2 ^ 256) (hzz : x * E18 = z) : makCl 2 (zT x) (p : Int) fun e w' bu => e = .returned (.tuple #[]) ∧ Blk w' bu 9 [.string (zT z)] := by
  intro bk bs bp bu w hok her hk hs hp hu hne hu1
  have r0 := Hd.mk (Run.start1 hok hu hu1)
  have hpz := Hd.mk fun (Q : Nat → Prop) B S1 w1 (h : Ints Q w1 S1) (h1 : S1 B = some z) => parts_ok Q B z S1 w1 h h1 (by omega)
  have ck := hk.cell 0
  have cs := hs.cell 0
  have cp := hp.cell 0
  simp only [List.getElem?_cons_zero] at ck cs cp
  have lk := hk.lt
  have ls := hs.lt
  have lp := hp.lt
  have lu := hu.lt
  have hPs := Hd.mk (p := bs < w.heap.size ∧ bs ≠ bu) ⟨hs.lt, hne.2.1⟩
  have hPp := Hd.mk (p := bp < w.heap.size ∧ bp ≠ bu) ⟨hp.lt, hne.2.2⟩
  have hbu : bu ≠ w.heap.size := by omega
  have r1 := Hd.mk (r0.out.box #[.pointer none] 68)
  clear r0
  have hb1 : Below w.heap.size w (w.alloc (.cells #[.pointer none] 68)) := (Below.refl _ _).alloc (Nat.le_refl _) _
  have hok1 := hok.below hb1
  have her1 := her.below hb1
  have hs1 := Hd.mk (integer_ok x _ hok1 her1 hx)
  have hf1 := Hd.mk fun (Q : Nat → Prop) B S1 w1 (h : Ints Q w1 S1) (h1 : S1 B = some x) => NewDecFI_any Q B x S1 w1 h h1 (by have := wl256 hx; omega)
  rw [hzz] at hf1
  replace hzz := Hd.mk hzz
  replace hx := Hd.mk hx
  generalize zT x = sx at *
  generalize zT z = sz at *
  replace hk := Hd.mk hk
  replace hs := Hd.mk hs
  replace hp := Hd.mk hp
  replace hu := Hd.mk hu
  replace hok1 := Hd.mk hok1
  replace her1 := Hd.mk her1
  clear hb1
  go_enter Tryz.func67, Tryz.ntmps67
  go_wp2_with fail
  refine hs1.out.mono ?_
  rintro e w2 ⟨B2, rfl, hn2⟩
  have r2 := Hd.mk (r1.out.new_int hn2)
  clear hn2 r1
  have hm2 := Hd.mk (hf1.out _ B2 _ _ r2.out.ints upd_same)
  go_wp2_with fail
  refine hm2.out.mono ?_
  rintro e w7 ⟨B7, rfl, g7, hk7, hI7⟩
  have r7 := Hd.mk (r2.out.op hk7 hI7)
  have hB7 := Hd.mk (p := upd (upd (fun _ => Option.none) B2 x) B7 z B7 = some z) upd_same
  clear hk7 hI7 r2 hm2
  obtain ⟨c7, c7z, c7l⟩ := r7.out.cell (b := w.heap.size) updX_same
  have r8 := Hd.mk (r7.out.set1 (b := w.heap.size) (v := .pointer none) (v' := ptr B7) updX_same)
  have hm8 := Hd.mk (hpz.out _ B7 _ _ r8.out.ints hB7.out)
  go_wp2_with fail
  refine hm8.out.mono ?_
  rintro e w9 ⟨rfl, hk9, hI9⟩
  have r9 := Hd.mk (r8.out.op hk9 hI9)
  clear hk9 hI9 hm8 r8
  obtain ⟨u9, u9z, u9l⟩ := r9.out.cell (b := bu) (by rw [updX_ne hbu, updX_ne hbu, updX_same])
  have r10 := Hd.mk (r9.out.set1 (b := bu) (v' := .string sz) (by rw [updX_ne hbu, updX_ne hbu, updX_same]))
  have hkk := Hd.mk r10.out.keep
  have hub := Hd.mk (r10.out.bx bu _ _ updX_same)
  go_wp2
  go_end0
  exact ⟨hkk.out, rfl, hub.out⟩
set_option maxHeartbeats 4000000 in
theorem makK_4 (x z : Int) (p : Nat) (hp18 : p ≤ 18) (hz : wlen z.natAbs < 8) (hx : x.natAbs < 2 ^ 256) (hzz : x * E18 = z) : makCl 4 (zT x) (p : Int) fun e w' bu => e = .returned (.tuple #[]) ∧ Blk w' bu 9 [.string (zT z)] := by
  intro bk bs bp bu w hok her hk hs hp hu hne hu1
  have r0 := Hd.mk (Run.start1 hok hu hu1)
  have hpz := Hd.mk fun (Q : Nat → Prop) B S1 w1 (h : Ints Q w1 S1) (h1 : S1 B = some z) => parts_ok Q B z S1 w1 h h1 (by omega)
  have ck := hk.cell 0
  have cs := hs.cell 0
  have cp := hp.cell 0
  simp only [List.getElem?_cons_zero] at ck cs cp
  have lk := hk.lt
  have ls := hs.lt
  have lp := hp.lt
  have lu := hu.lt
  have hPs := Hd.mk (p := bs < w.heap.size ∧ bs ≠ bu) ⟨hs.lt, hne.2.1⟩
  have hPp := Hd.mk (p := bp < w.heap.size ∧ bp ≠ bu) ⟨hp.lt, hne.2.2⟩
  have hbu : bu ≠ w.heap.size := by omega
  have r1 := Hd.mk (r0.out.box #[.pointer none] 68)
  clear r0
  have hb1 : Below w.heap.size w (w.alloc (.cells #[.pointer none] 68)) := (Below.refl _ _).alloc (Nat.le_refl _) _
  have hok1 := hok.below hb1
  have her1 := her.below hb1
  have hs1 := Hd.mk (number_ok x _ hok1 her1 (Nat.lt_trans hx (by decide)))
  have hf1 := Hd.mk fun (Q : Nat → Prop) B S1 w1 (h : Ints Q w1 S1) (h1 : S1 B = some x) => NewDecBig_any Q B x S1 w1 h h1 (by have := wl256 hx; omega)
  rw [hzz] at hf1
  replace hzz := Hd.mk hzz
  replace hx := Hd.mk hx
  generalize zT x = sx at *
  generalize zT z = sz at *
  replace hk := Hd.mk hk
  replace hs := Hd.mk hs
  replace hp := Hd.mk hp
  replace hu := Hd.mk hu
  replace hok1 := Hd.mk hok1
  replace her1 := Hd.mk her1
  clear hb1
  go_enter Tryz.func67, Tryz.ntmps67
  go_wp2_with fail
  refine hs1.out.mono ?_
  rintro e w2 ⟨B2, rfl, hn2⟩
  have r2 := Hd.mk (r1.out.new_int hn2)
  clear hn2 r1
  have hm2 := Hd.mk (hf1.out _ B2 _ _ r2.out.ints upd_same)
  go_wp2_with fail
  refine hm2.out.mono ?_
  rintro e w7 ⟨B7, rfl, g7, hk7, hI7⟩
  have r7 := Hd.mk (r2.out.op hk7 hI7)
  have hB7 := Hd.mk (p := upd (upd (fun _ => Option.none) B2 x) B7 z B7 = some z) upd_same
  clear hk7 hI7 r2 hm2
  obtain ⟨c7, c7z, c7l⟩ := r7.out.cell (b := w.heap.size) updX_same
  have r8 := Hd.mk (r7.out.set1 (b := w.heap.size) (v := .pointer none) (v' := ptr B7) updX_same)
  have hm8 := Hd.mk (hpz.out _ B7 _ _ r8.out.ints hB7.out)
  go_wp2_with fail
  refine hm8.out.mono ?_
  rintro e w9 ⟨rfl, hk9, hI9⟩
  have r9 := Hd.mk (r8.out.op hk9 hI9)
  clear hk9 hI9 hm8 r8
  obtain ⟨u9, u9z, u9l⟩ := r9.out.cell (b := bu) (by rw [updX_ne hbu, updX_ne hbu, updX_same])
  have r10 := Hd.mk (r9.out.set1 (b := bu) (v' := .string sz) (by rw [updX_ne hbu, updX_ne hbu, updX_same]))
  have hkk := Hd.mk r10.out.keep
  have hub := Hd.mk (r10.out.bx bu _ _ updX_same)
  go_wp2
  go_end0
  exact ⟨hkk.out, rfl, hub.out⟩
set_option maxHeartbeats 4000000 in
theorem makK_7 (x z : Int) (p : Nat) (hp18 : p ≤ 18) (hz : wlen z.natAbs < 8) (hx : x.natAbs < 2 ^ 256) (hzz : x * E18 = z) : makCl 7 (zT x) (p : Int) fun e w' bu => e = .returned (.tuple #[]) ∧ Blk w' bu 9 [.string (zT z)] := by
  intro bk bs bp bu w hok her hk hs hp hu hne hu1
  have r0 := Hd.mk (Run.start1 hok hu hu1)
  have hpz := Hd.mk fun (Q : Nat → Prop) B S1 w1 (h : Ints Q w1 S1) (h1 : S1 B = some z) => parts_ok Q B z S1 w1 h h1 (by omega)
  have ck := hk.cell 0
  have cs := hs.cell 0
  have cp := hp.cell 0
  simp only [List.getElem?_cons_zero] at ck cs cp
  have lk := hk.lt
  have ls := hs.lt
  have lp := hp.lt
  have lu := hu.lt
  have hPs := Hd.mk (p := bs < w.heap.size ∧ bs ≠ bu) ⟨hs.lt, hne.2.1⟩
  have hPp := Hd.mk (p := bp < w.heap.size ∧ bp ≠ bu) ⟨hp.lt, hne.2.2⟩
  have hbu : bu ≠ w.heap.size := by omega
  have r1 := Hd.mk (r0.out.box #[.pointer none] 68)
  clear r0
  have hb1 : Below w.heap.size w (w.alloc (.cells #[.pointer none] 68)) := (Below.refl _ _).alloc (Nat.le_refl _) _
  have hok1 := hok.below hb1
  have her1 := her.below hb1
  have hs1 := Hd.mk (integer_ok x _ hok1 her1 hx)
  have hf1 := Hd.mk fun (Q : Nat → Prop) B S1 w1 (h : Ints Q w1 S1) (h1 : S1 B = some x) => ToDec_any Q B x S1 w1 h h1 (by have := wl256 hx; omega)
  rw [hzz] at hf1
  replace hzz := Hd.mk hzz
  replace hx := Hd.mk hx
  generalize zT x = sx at *
  generalize zT z = sz at *
  replace hk := Hd.mk hk
  replace hs := Hd.mk hs
  replace hp := Hd.mk hp
  replace hu := Hd.mk hu
  replace hok1 := Hd.mk hok1
  replace her1 := Hd.mk her1
  clear hb1
  go_enter Tryz.func67, Tryz.ntmps67
  go_wp2_with fail
  refine hs1.out.mono ?_
  rintro e w2 ⟨B2, rfl, hn2⟩
  have r2 := Hd.mk (r1.out.new_int hn2)
  clear hn2 r1
  have hm2 := Hd.mk (hf1.out _ B2 _ _ r2.out.ints upd_same)
  go_wp2_with fail
  refine hm2.out.mono ?_
  rintro e w7 ⟨B7, rfl, g7, hk7, hI7⟩
  have r7 := Hd.mk (r2.out.op hk7 hI7)
  have hB7 := Hd.mk (p := upd (upd (fun _ => Option.none) B2 x) B7 z B7 = some z) upd_same
  clear hk7 hI7 r2 hm2
  obtain ⟨c7, c7z, c7l⟩ := r7.out.cell (b := w.heap.size) updX_same
  have r8 := Hd.mk (r7.out.set1 (b := w.heap.size) (v := .pointer none) (v' := ptr B7) updX_same)
  have hm8 := Hd.mk (hpz.out _ B7 _ _ r8.out.ints hB7.out)
  go_wp2_with fail
  refine hm8.out.mono ?_
  rintro e w9 ⟨rfl, hk9, hI9⟩
  have r9 := Hd.mk (r8.out.op hk9 hI9)
  clear hk9 hI9 hm8 r8
  obtain ⟨u9, u9z, u9l⟩ := r9.out.cell (b := bu) (by rw [updX_ne hbu, updX_ne hbu, updX_same])
  have r10 := Hd.mk (r9.out.set1 (b := bu) (v' := .string sz) (by rw [updX_ne hbu, updX_ne hbu, updX_same]))
  have hkk := Hd.mk r10.out.keep
  have hub := Hd.mk (r10.out.bx bu _ _ updX_same)
  go_wp2
  go_end0
  exact ⟨hkk.out, rfl, hub.out⟩
set_option maxHeartbeats 4000000 in
theorem makK_3 (x z : Int) (p : Nat) (hp18 : p ≤ 18) (hz : wlen z.natAbs < 8) (hx : x.natAbs < 2 ^ 256) (hzz : x * ((10 ^ (18 - p) : Nat) : Int) = z) : makCl 3 (zT x) (p : Int) fun e w' bu => e = .returned (.tuple #[]) ∧ Blk w' bu 9 [.string (zT z)] := by
  intro bk bs bp bu w hok her hk hs hp hu hne hu1
  have r0 := Hd.mk (Run.start1 hok hu hu1)
  have hpz := Hd.mk fun (Q : Nat → Prop) B S1 w1 (h : Ints Q w1 S1) (h1 : S1 B = some z) => parts_ok Q B z S1 w1 h h1 (by omega)
  have ck := hk.cell 0
  have cs := hs.cell 0
  have cp := hp.cell 0
  simp only [List.getElem?_cons_zero] at ck cs cp
  have lk := hk.lt
  have ls := hs.lt
  have lp := hp.lt
  have lu := hu.lt
  have hPs := Hd.mk (p := bs < w.heap.size ∧ bs ≠ bu) ⟨hs.lt, hne.2.1⟩
  have hPp := Hd.mk (p := bp < w.heap.size ∧ bp ≠ bu) ⟨hp.lt, hne.2.2⟩
  have hbu : bu ≠ w.heap.size := by omega
  have r1 := Hd.mk (r0.out.box #[.pointer none] 68)
  clear r0
  have hb1 : Below w.heap.size w (w.alloc (.cells #[.pointer none] 68)) := (Below.refl _ _).alloc (Nat.le_refl _) _
  have hok1 := hok.below hb1
  have her1 := her.below hb1
  have hs1 := Hd.mk (integer_ok x _ (hok1.below (below_drew _)) (her1.below (below_drew _)) hx)
  have hf1 := Hd.mk fun (Q : Nat → Prop) B S1 w1 (h : Ints Q w1 S1) (h1 : S1 B = some x) => NewDecFIP_any Q B p x S1 w1 h h1 hp18 (by have := wl256 hx; omega)
  rw [hzz] at hf1
  replace hzz := Hd.mk hzz
  replace hx := Hd.mk hx
  generalize zT x = sx at *
  generalize zT z = sz at *
  replace hk := Hd.mk hk
  replace hs := Hd.mk hs
  replace hp := Hd.mk hp
  replace hu := Hd.mk hu
  replace hok1 := Hd.mk hok1
  replace her1 := Hd.mk her1
  clear hb1
  go_enter Tryz.func67, Tryz.ntmps67
  go_upto_region 9 with fail
  go_region_law (first
    | (go_simp; go_at_call 35; refine hs1.out.mono ?_; rintro e w2 ⟨B2, rfl, hn2⟩; have r2 := Hd.mk (r1.out.drew.new_int hn2); clear hn2; have jp : w2.cell? ⟨bp, 0, none⟩ = some (.int .i64 p) := (r2.out.keep.blk hp.out hPp.out).cell 0; have lp2 : bp < w2.heap.size := Nat.lt_of_lt_of_le hPp.out.1 r2.out.ge)
    | (go_simp; go_at_call 72; refine (hf1.out _ B2 _ _ r2.out.ints upd_same).mono ?_; rintro e w7 ⟨B7, rfl, g7, hk7, hI7⟩; have r7 := Hd.mk (r2.out.op hk7 hI7); clear hk7 hI7; obtain ⟨c7, c7z, c7l⟩ := r7.out.cell (b := w.heap.size) updX_same))
  all_goals
    have hB7 := Hd.mk (p := upd (upd (fun _ => Option.none) B2 x) B7 z B7 = some z) upd_same
    have r8 := Hd.mk (r7.out.set1 (b := w.heap.size) (v := .pointer none) (v' := ptr B7) updX_same)
    have hm8 := Hd.mk (hpz.out _ B7 _ _ r8.out.ints hB7.out)
    go_wp2_with fail
    refine hm8.out.mono ?_
    rintro e w9 ⟨rfl, hk9, hI9⟩
    have r9 := Hd.mk (r8.out.op hk9 hI9)
    clear hk9 hI9 hm8 r8
    obtain ⟨u9, u9z, u9l⟩ := r9.out.cell (b := bu) (by rw [updX_ne hbu, updX_ne hbu, updX_same])
    have r10 := Hd.mk (r9.out.set1 (b := bu) (v' := .string sz) (by rw [updX_ne hbu, updX_ne hbu, updX_same]))
    have hkk := Hd.mk r10.out.keep
    have hub := Hd.mk (r10.out.bx bu _ _ updX_same)
    go_wp2
    go_end0
    exact ⟨hkk.out, rfl, hub.out⟩
set_option maxHeartbeats 4000000 in
theorem makK_5 (x z : Int) (p : Nat) (hp18 : p ≤ 18) (hz : wlen z.natAbs < 8) (hx : x.natAbs < 2 ^ 256) (hzz : x * ((10 ^ (18 - p) : Nat) : Int) = z) : makCl 5 (zT x) (p : Int) fun e w' bu => e = .returned (.tuple #[]) ∧ Blk w' bu 9 [.string (zT z)] := by
  intro bk bs bp bu w hok her hk hs hp hu hne hu1
  have r0 := Hd.mk (Run.start1 hok hu hu1)
  have hpz := Hd.mk fun (Q : Nat → Prop) B S1 w1 (h : Ints Q w1 S1) (h1 : S1 B = some z) => parts_ok Q B z S1 w1 h h1 (by omega)
  have ck := hk.cell 0
  have cs := hs.cell 0
  have cp := hp.cell 0
  simp only [List.getElem?_cons_zero] at ck cs cp
  have lk := hk.lt
  have ls := hs.lt
  have lp := hp.lt
  have lu := hu.lt
  have hPs := Hd.mk (p := bs < w.heap.size ∧ bs ≠ bu) ⟨hs.lt, hne.2.1⟩
  have hPp := Hd.mk (p := bp < w.heap.size ∧ bp ≠ bu) ⟨hp.lt, hne.2.2⟩
  have hbu : bu ≠ w.heap.size := by omega
  have r1 := Hd.mk (r0.out.box #[.pointer none] 68)
  clear r0
  have hb1 : Below w.heap.size w (w.alloc (.cells #[.pointer none] 68)) := (Below.refl _ _).alloc (Nat.le_refl _) _
  have hok1 := hok.below hb1
  have her1 := her.below hb1
  have hs1 := Hd.mk (number_ok x _ (hok1.below (below_drew _)) (her1.below (below_drew _)) (Nat.lt_trans hx (by decide)))
  have hf1 := Hd.mk fun (Q : Nat → Prop) B S1 w1 (h : Ints Q w1 S1) (h1 : S1 B = some x) => NewDecPrec_any Q B p x S1 w1 h h1 hp18 (by have := wl256 hx; omega)
  rw [hzz] at hf1
  replace hzz := Hd.mk hzz
  replace hx := Hd.mk hx
  generalize zT x = sx at *
  generalize zT z = sz at *
  replace hk := Hd.mk hk
  replace hs := Hd.mk hs
  replace hp := Hd.mk hp
  replace hu := Hd.mk hu
  replace hok1 := Hd.mk hok1
  replace her1 := Hd.mk her1
  clear hb1
  go_enter Tryz.func67, Tryz.ntmps67
  go_upto_region 13 with fail
  go_region_law (first
    | (go_simp; go_at_call 74; refine hs1.out.mono ?_; rintro e w2 ⟨B2, rfl, hn2⟩; have r2 := Hd.mk (r1.out.drew.new_int hn2); clear hn2; have jp : w2.cell? ⟨bp, 0, none⟩ = some (.int .i64 p) := (r2.out.keep.blk hp.out hPp.out).cell 0; have lp2 : bp < w2.heap.size := Nat.lt_of_lt_of_le hPp.out.1 r2.out.ge)
    | (go_simp; go_at_call 75; refine (hf1.out _ B2 _ _ r2.out.ints upd_same).mono ?_; rintro e w7 ⟨B7, rfl, g7, hk7, hI7⟩; have r7 := Hd.mk (r2.out.op hk7 hI7); clear hk7 hI7; obtain ⟨c7, c7z, c7l⟩ := r7.out.cell (b := w.heap.size) updX_same))
  all_goals
    have hB7 := Hd.mk (p := upd (upd (fun _ => Option.none) B2 x) B7 z B7 = some z) upd_same
    have r8 := Hd.mk (r7.out.set1 (b := w.heap.size) (v := .pointer none) (v' := ptr B7) updX_same)
    have hm8 := Hd.mk (hpz.out _ B7 _ _ r8.out.ints hB7.out)
    go_wp2_with fail
    refine hm8.out.mono ?_
    rintro e w9 ⟨rfl, hk9, hI9⟩
    have r9 := Hd.mk (r8.out.op hk9 hI9)
    clear hk9 hI9 hm8 r8
    obtain ⟨u9, u9z, u9l⟩ := r9.out.cell (b := bu) (by rw [updX_ne hbu, updX_ne hbu, updX_same])
    have r10 := Hd.mk (r9.out.set1 (b := bu) (v' := .string sz) (by rw [updX_ne hbu, updX_ne hbu, updX_same]))
    have hkk := Hd.mk r10.out.keep
    have hub := Hd.mk (r10.out.bx bu _ _ updX_same)
    go_wp2
    go_end0
    exact ⟨hkk.out, rfl, hub.out⟩
set_option maxHeartbeats 4000000 in
theorem makK_6 (x z : Int) (p : Nat) (hp18 : p ≤ 18) (hz : wlen z.natAbs < 8) (h1 : -9223372036854775808 ≤ x) (h2 : x ≤ 9223372036854775807) (hzz : x * E18 = z) : makCl 6 (zT x) (p : Int) fun e w' bu => e = .returned (.tuple #[]) ∧ Blk w' bu 9 [.string (zT z)] := by
  intro bk bs bp bu w hok her hk hs hp hu hne hu1
  have r0 := Hd.mk (Run.start1 hok hu hu1)
  have hpz := Hd.mk fun (Q : Nat → Prop) B S1 w1 (h : Ints Q w1 S1) (h1 : S1 B = some z) => parts_ok Q B z S1 w1 h h1 (by omega)
  have ck := hk.cell 0
  have cs := hs.cell 0
  have cp := hp.cell 0
  simp only [List.getElem?_cons_zero] at ck cs cp
  have lk := hk.lt
  have ls := hs.lt
  have lp := hp.lt
  have lu := hu.lt
  have hPs := Hd.mk (p := bs < w.heap.size ∧ bs ≠ bu) ⟨hs.lt, hne.2.1⟩
  have hPp := Hd.mk (p := bp < w.heap.size ∧ bp ≠ bu) ⟨hp.lt, hne.2.2⟩
  have hbu : bu ≠ w.heap.size := by omega
  have r1 := Hd.mk (r0.out.box #[.pointer none] 68)
  clear r0
  have hb1 : Below w.heap.size w (w.alloc (.cells #[.pointer none] 68)) := (Below.refl _ _).alloc (Nat.le_refl _) _
  have hok1 := hok.below hb1
  have her1 := her.below hb1
  have hs1 := Hd.mk fun w1 => small_ok x w1 h1 h2
  have ho1 := Hd.mk OneDec_any
  have hf1 := Hd.mk fun (Q : Nat → Prop) B S1 w1 (h : Ints Q w1 S1) (h3 : S1 B = some 1000000000000000000) => dSetInt64_any Q B _ x S1 w1 h h3 h1 h2
  rw [hzz] at hf1
  replace hzz := Hd.mk hzz
  generalize zT x = sx at *
  generalize zT z = sz at *
  replace hk := Hd.mk hk
  replace hs := Hd.mk hs
  replace hp := Hd.mk hp
  replace hu := Hd.mk hu
  replace hok1 := Hd.mk hok1
  replace her1 := Hd.mk her1
  clear hb1
  go_enter Tryz.func67, Tryz.ntmps67
  go_upto_region 15 with fail
  go_region_law (first
    | (go_simp; go_at_call 77; first
        | (refine (hf1.out _ B2 _ _ r4.out.ints upd_same).mono ?_; rintro e w7 ⟨rfl, hk7, hI7⟩; have r7 := Hd.mk (r4.out.op hk7 hI7); clear hk7 hI7; obtain ⟨c7, c7z, c7l⟩ := r7.out.cell (b := w.heap.size) updX_same)
        | (refine (hf1.out _ B5 _ _ r5.out.ints upd_same).mono ?_; rintro e w7 ⟨rfl, hk7, hI7⟩; have r7 := Hd.mk (r5.out.op hk7 hI7); clear hk7 hI7; obtain ⟨c7, c7z, c7l⟩ := r7.out.cell (b := w.heap.size) updX_same))
    | (go_simp; go_at_call 69; first
        | (with_reducible exact r2; fail)
        | (refine (hs1.out w2).mono ?_; rintro e w4 ⟨rfl, hb4⟩; have r4 := Hd.mk (r2.out.below hb4); clear hb4)
        | (refine (hs1.out _).mono ?_; rintro e w3 ⟨rfl, hb3⟩; have r3 := Hd.mk (r1.out.drew.below hb3); clear hb3))
    | (go_simp; go_at_call 76; first
        | (refine (ho1.out w3 r3.out.ok).mono ?_; rintro e w5 ⟨B5, rfl, hn5⟩; have r5 := Hd.mk (r3.out.new_int hn5); clear hn5)
        | (refine (ho1.out _ r1.out.drew.ok).mono ?_; rintro e w2 ⟨B2, rfl, hn2⟩; have r2 := Hd.mk (r1.out.drew.new_int hn2); have js : w2.cell? ⟨bs, 0, none⟩ = some (.string sx) := (r2.out.keep.blk hs.out hPs.out).cell 0; have ls2 : bs < w2.heap.size := Nat.lt_of_lt_of_le hPs.out.1 r2.out.ge; clear hn2)))
  all_goals
    try (generalize hBB : B2 = B7 at *)
    try (generalize hBB : B5 = B7 at *)
    have hB7 := Hd.mk (p := upd (upd (fun _ => Option.none) B7 1000000000000000000) B7 z B7 = some z) upd_same
    have r8 := Hd.mk (r7.out.set1 (b := w.heap.size) (v := .pointer none) (v' := ptr B7) updX_same)
    have hm8 := Hd.mk (hpz.out _ B7 _ _ r8.out.ints hB7.out)
    go_wp2_with fail
    refine hm8.out.mono ?_
    rintro e w9 ⟨rfl, hk9, hI9⟩
    have r9 := Hd.mk (r8.out.op hk9 hI9)
    clear hk9 hI9 hm8 r8
    obtain ⟨u9, u9z, u9l⟩ := r9.out.cell (b := bu) (by rw [updX_ne hbu, updX_ne hbu, updX_same])
    have r10 := Hd.mk (r9.out.set1 (b := bu) (v' := .string sz) (by rw [updX_ne hbu, updX_ne hbu, updX_same]))
    have hkk := Hd.mk r10.out.keep
    have hub := Hd.mk (r10.out.bx bu _ _ updX_same)
    go_wp2
    go_end0
    exact ⟨hkk.out, rfl, hub.out⟩
end Go.Proofs.YtdbjdpooggaonaaGreatDoor
end

section
namespace Go.Proofs.YtdbjdpooggaonaaGreatDoor
open Go.RowKit
set_option maxRecDepth 100000
/-- The decimal that is made of a whole number. -/
def makV (k p : Nat) (x : Int) : Int := if k = 1 ∨ k = 3 ∨ k = 5 then x * ((10 ^ (18 - p) : Nat) : Int) else x * E18
theorem makV_bd (k p : Nat) (x : Int) : (makV k p x).natAbs ≤ x.natAbs * 10 ^ 18 := by
  unfold makV
  split
  · rw [Int.natAbs_mul, Int.natAbs_natCast]
    exact Nat.mul_le_mul_left _ (Nat.pow_le_pow_right (by decide) (by omega))
  · rw [Int.natAbs_mul]
    exact Nat.le_refl _
theorem makV_wl {k p : Nat} {x : Int} (h : x.natAbs < 2 ^ 256) : wlen (makV k p x).natAbs < 8 := by
  have h1 := makV_bd k p x
  have h2 : x.natAbs * 10 ^ 18 < BB ^ 6 := Nat.lt_of_lt_of_le (Nat.mul_lt_mul_of_pos_right h (by decide)) (by decide)
  exact wl (n := 6) (by omega) (by decide)
theorem makV_130 {k p : Nat} {x : Int} (h : x.natAbs < 10 ^ 80) : (makV k p x).natAbs < 10 ^ 130 := by
  have h1 := makV_bd k p x
  have h2 : x.natAbs * 10 ^ 18 < 10 ^ 130 := Nat.lt_of_lt_of_le (Nat.mul_lt_mul_of_pos_right h (by decide)) (by decide)
  omega
theorem DecMake_ok (k : Nat) (hk : k < 8) (p : Nat) (hp : p ≤ 18) (x : Int) (w : World) (hok : Ok w) (her : Er w) (hx : x.natAbs < 2 ^ 256) (hs : k = 0 ∨ k = 1 ∨ k = 6 → is64 x = true) :
    Calls Tryz.prog 22 #[.int .i64 (k : Int), .string (zT x), .int .i64 (p : Int)] w fun e w' => e = .returned (.tuple #[.string (zT (makV k p x)), .bool true]) ∧ Below w.heap.size w w' := by
  have hz := makV_wl (k := k) (p := p) hx
  refine mak_ok (k : Int) (zT x) (p : Int) (zT (makV k p x)) w hok her ?_
  match k, hk with
  | 0, _ => have h64 := of_decide_eq_true (hs (by omega)); exact makK_0 x _ p hp hz h64.1 h64.2 rfl
  | 1, _ => have h64 := of_decide_eq_true (hs (by omega)); exact makK_1 x _ p hp hz h64.1 h64.2 rfl
  | 2, _ => exact makK_2 x _ p hp hz hx rfl
  | 3, _ => exact makK_3 x _ p hp hz hx rfl
  | 4, _ => exact makK_4 x _ p hp hz hx rfl
  | 5, _ => exact makK_5 x _ p hp hz hx rfl
  | 6, _ => have h64 := of_decide_eq_true (hs (by omega)); exact makK_6 x _ p hp hz h64.1 h64.2 rfl
  | 7, _ => exact makK_7 x _ p hp hz hx rfl
end Go.Proofs.YtdbjdpooggaonaaGreatDoor
end
