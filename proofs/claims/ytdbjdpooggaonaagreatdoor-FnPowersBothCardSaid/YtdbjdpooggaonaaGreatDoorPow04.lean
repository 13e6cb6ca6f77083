/- The thin package: a power of a decimal. Conditions: those that each theorem states. -/
import Derived.Test.YtdbjdpooggaonaaGreatDoorBase29
set_option linter.all false

namespace Go.Proofs.YtdbjdpooggaonaaGreatDoor
open Go.RowKit
set_option maxRecDepth 100000
/-- A function that raises a decimal to the power n: its result, or a panic. -/
def PowC (f n : Nat) (x : Int) (res : Option Int) : Prop := ∀ (Q : Nat → Prop) (BA : Nat) (S : Nat → Option Int) (w1 : World), Ints Q w1 S → S BA = some x →
  Calls Tryz.prog f #[.agg #[ptr BA], .int .u64 (n : Int)] w1 fun e w' => (∃ z B9 S', res = some z ∧ e = .returned (.agg #[ptr B9]) ∧ Keep Q w1 w' ∧ Ints Q w' S' ∧ S' B9 = some z) ∨ (res = none ∧ Pan e ∧ Keep Q w1 w')
theorem powC_mut {n : Nat} {x : Int} {res : Option Int} (hx : inR x = true) (hn : n < 18446744073709551616) (hres : pwD n x = res) : PowC 52 n x res :=
  fun Q BA S w1 h1 h2 => (PowerMut_any Q BA n x S w1 h1 h2 hx hn res hres).mono fun e w' h => by
    rcases h with ⟨z, hz, he, hk, hI⟩ | h
    · exact .inl ⟨z, BA, _, hz, he, hk, hI, upd_same⟩
    · exact .inr h
set_option maxHeartbeats 2000000 in
theorem powC_new {n : Nat} {x : Int} {res : Option Int} (hx : inR x = true) (hn : n < 18446744073709551616) (hres : pwD n x = res) : PowC 53 n x res := by
  intro P bd S w hI hxS
  have r0 := Hd.mk (Run.start hI)
  have hlo := Hd.mk hI.low
  have hl := hI.lt hxS
  have hwx := inR_wl hx
  clear hI
  have r1 := Hd.mk (r0.out.box #[ptr bd] 68)
  clear r0
  have r2 := Hd.mk (r1.out.box #[.pointer none] 68)
  clear r1
  have r3 := Hd.mk (r2.out.new_int (NewI.of_new _))
  clear r2
  simp only [World.size_alloc] at r3
  have hm := Hd.mk (ISet_any _ (w.heap.size + 1 + 1) bd 0 x _ _ r3.out.ints upd_same (by rw [upd_ne (by omega)]; exact hxS) (by omega))
  have hpw := Hd.mk fun Q B S1 w1 (h : Ints Q w1 S1) (h1 : S1 B = some x) => PowerMut_any Q B n x S1 w1 h h1 hx hn res hres
  replace hx := Hd.mk hx
  replace hxS := Hd.mk hxS
  go_enter Tryz.func53, Tryz.ntmps53
  go_wp2_with fail
  refine (hm.out).mono ?_
  rintro e w4 ⟨rfl, hk4, hI4⟩
  have s4 := hk4.size
  try simp only [World.size_alloc] at s4
  have r4 := Hd.mk (r3.out.op hk4 hI4)
  clear hk4 hI4 r3
  have r5 := Hd.mk (r4.out.box #[ptr (w.heap.size + 1 + 1)] 68)
  clear r4
  have hp5 := Hd.mk (hpw.out _ (w.heap.size + 1 + 1) _ _ r5.out.ints upd_same)
  clear hpw
  cases res with
  | some z =>
    go_wp2_with fail
    refine hp5.out.mono ?_
    rintro e w6 (⟨z', hz', rfl, hk6, hI6⟩ | ⟨hz', -⟩)
    · obtain rfl : z = z' := Option.some.inj hz'
      have r6 := r5.out.op hk6 hI6
      rw [upd_upd] at r6
      clear hk6 hI6 hz'
      obtain ⟨e6, e6z, e6l⟩ := r6.cell (b := w.heap.size + 1) (by rw [updX_ne (by omega), updX_same])
      have r7 := r6.set1 (b := w.heap.size + 1) (v := .pointer none) (v' := ptr (w.heap.size + 1 + 1)) (by rw [updX_ne (by omega), updX_same])
      have hf := Hd.mk r7.fin
      clear r6 r7
      go_wp2
      refine bodyPost_ret (v := .agg #[ptr (w.heap.size + 1 + 1)]) (by simp [results, Tryz.results53, go_sem, e6, e6z, e6l]) rfl (.inl ⟨_, _, _, rfl, rfl, hf.out.1, hf.out.2, upd_same⟩)
    · cases hz'
  | none =>
    go_wp2_with fail
    refine hp5.out.mono ?_
    rintro e w6 (⟨z', hz', -⟩ | ⟨-, ⟨u6, v6, rfl⟩, hk6⟩)
    · cases hz'
    · have hf := Hd.mk (r5.out.keep.trans (hk6.sub fun k hk => .inl hk))
      clear hk6
      first | exact .inr ⟨rfl, ⟨_, _, rfl⟩, hf.out⟩ | exact ⟨rfl, .inr ⟨rfl, ⟨_, _, rfl⟩, hf.out⟩⟩ | (go_wp2; exact ⟨rfl, .inr ⟨rfl, ⟨_, _, rfl⟩, hf.out⟩⟩)
set_option maxHeartbeats 4000000 in
theorem powK_PowerMut_ok (n : Nat) (x : Int) (hx : inR x = true) (z : Int) (hz : inR z = true) (hop : PowC 52 n x (some z)) : powCl (zT x) (n : Int) true fun e w' bu => e = .returned (.tuple #[]) ∧ Blk w' bu 9 [.string (zT z)] := by
  intro ba bn bm bu w hok her ha hn hm hu hne hu1
  have r0 := Hd.mk (Run.start1 hok hu hu1)
  have hd0 := Hd.mk (decimal_ok x w.drew (hok.below (below_drew w)) (her.below (below_drew w)) (inR_130 hx))
  have hpz := Hd.mk fun (Q : Nat → Prop) B S1 w1 (h : Ints Q w1 S1) (h1 : S1 B = some z) => parts_ok Q B z S1 w1 h h1 (Nat.le_of_lt (inR_wl hz))
  have ca := ha.cell 0
  have cn := hn.cell 0
  have cm := hm.cell 0
  simp only [List.getElem?_cons_zero] at ca cn cm
  have la := ha.lt
  have ln := hn.lt
  have lu := hu.lt
  have hPa := Hd.mk (p := ba < w.heap.size ∧ ba ≠ bu) ⟨ha.lt, hne.1⟩
  have hPn := Hd.mk (p := bn < w.heap.size ∧ bn ≠ bu) ⟨hn.lt, hne.2.1⟩
  generalize zT x = sx at *
  generalize zT z = sz at *
  replace hop := Hd.mk hop
  replace ha := Hd.mk ha
  replace hn := Hd.mk hn
  replace hm := Hd.mk hm
  replace hu := Hd.mk hu
  go_enter Tryz.func50, Tryz.ntmps50
  go_upto_region 1 with fail
  go_region_law (first
    | (go_simp; go_at_call 42; refine hd0.out.mono ?_; rintro e w2 ⟨B2, rfl, hn2⟩; have r2 := Hd.mk (r0.out.drew.new_int hn2); have l2 : bn < w2.heap.size ∧ ba < w2.heap.size := (by have h := hn2.bel.size; change w.heap.size ≤ w2.heap.size at h; exact ⟨Nat.lt_of_lt_of_le ln h, Nat.lt_of_lt_of_le la h⟩); clear hn2; obtain ⟨ja, jn⟩ : w2.cell? ⟨ba, 0, none⟩ = some (.string sx) ∧ w2.cell? ⟨bn, 0, none⟩ = some (.int .u64 n) := ⟨(r2.out.keep.blk ha.out hPa.out).cell 0, (r2.out.keep.blk hn.out hPn.out).cell 0⟩)
    | (go_simp; go_at_call 52; refine (hop.out _ B2 _ _ r2.out.ints upd_same).mono ?_; rintro e w3 (⟨z', B3, S3, hz', rfl, hk3, hI3, hB3⟩ | ⟨hz', -⟩); rotate_left; (focus cases hz'); have r3 := Hd.mk (r2.out.op hk3 hI3); replace hB3 := Hd.mk hB3; obtain rfl := Option.some.inj hz'; clear hk3 hI3 hz')
    | (go_simp; go_at_call 51; refine (hpz.out _ B3 _ _ r3.out.ints hB3.out).mono ?_; rintro e w4 ⟨rfl, hk4, hI4⟩; have r4 := Hd.mk (r3.out.op hk4 hI4); clear hk4 hI4; obtain ⟨u4, u4z, u4l⟩ := r4.out.cell (b := bu) updX_same))
  all_goals
    have r8 := Hd.mk (r4.out.set1 (b := bu) (v' := .string sz) updX_same)
    have hkk := Hd.mk r8.out.keep
    have hub8 := Hd.mk (r8.out.bx bu _ _ updX_same)
    go_wp2
    go_end0
    exact ⟨hkk.out, rfl, hub8.out⟩
set_option maxHeartbeats 4000000 in
theorem powK_PowerMut_pan (n : Nat) (x : Int) (hx : inR x = true)  (hop : PowC 52 n x none) : powCl (zT x) (n : Int) true fun e w' bu => Pan e ∧ ∃ z, Blk w' bu 9 [.string z] := by
  intro ba bn bm bu w hok her ha hn hm hu hne hu1
  have r0 := Hd.mk (Run.start1 hok hu hu1)
  have hd0 := Hd.mk (decimal_ok x w.drew (hok.below (below_drew w)) (her.below (below_drew w)) (inR_130 hx))
  have ca := ha.cell 0
  have cn := hn.cell 0
  have cm := hm.cell 0
  simp only [List.getElem?_cons_zero] at ca cn cm
  have la := ha.lt
  have ln := hn.lt
  have lu := hu.lt
  have hPa := Hd.mk (p := ba < w.heap.size ∧ ba ≠ bu) ⟨ha.lt, hne.1⟩
  have hPn := Hd.mk (p := bn < w.heap.size ∧ bn ≠ bu) ⟨hn.lt, hne.2.1⟩
  generalize zT x = sx at *
  skip
  replace hop := Hd.mk hop
  replace ha := Hd.mk ha
  replace hn := Hd.mk hn
  replace hm := Hd.mk hm
  replace hu := Hd.mk hu
  go_enter Tryz.func50, Tryz.ntmps50
  go_upto_region 1 with fail
  refine wp_region_any (by kernel_rfl) ?_
  refine wpAny_ready (rs := [0, 2]) (by kernel_rfl) (by simp) ?_
  refine AllReady.cons rfl (fun K hK => ?_) (AllReady.cons rfl (fun K hK => ?_) (AllReady.nil))
  · go_simp
    refine hK _ _ ?_; clear hK K
    refine wpAny_ready (rs := [1, 2]) (by kernel_rfl) (by simp) ?_
    refine AllReady.cons rfl (fun K hK => ?_) (AllReady.cons rfl (fun K hK => ?_) (AllReady.nil))
    · go_simp; go_at_call 42; refine hd0.out.mono ?_; rintro e w2 ⟨B2, rfl, hn2⟩; have r2 := Hd.mk (r0.out.drew.new_int hn2); have l2 : bn < w2.heap.size ∧ ba < w2.heap.size := (by have h := hn2.bel.size; change w.heap.size ≤ w2.heap.size at h; exact ⟨Nat.lt_of_lt_of_le ln h, Nat.lt_of_lt_of_le la h⟩); clear hn2; obtain ⟨ja, jn⟩ : w2.cell? ⟨ba, 0, none⟩ = some (.string sx) ∧ w2.cell? ⟨bn, 0, none⟩ = some (.int .u64 n) := ⟨(r2.out.keep.blk ha.out hPa.out).cell 0, (r2.out.keep.blk hn.out hPn.out).cell 0⟩
      refine hK _ _ ?_; clear hK K
      refine wpAny_ready (rs := [2]) (by kernel_rfl) (by simp) ?_
      refine AllReady.cons rfl (fun K hK => ?_) (AllReady.nil)
      go_simp
      refine hK _ _ ?_; clear hK K
      refine wpAny_ready (rs := [3]) (by kernel_rfl) (by simp) ?_
      refine AllReady.cons rfl (fun K hK => ?_) (AllReady.nil)
      go_simp; go_at_call 52; refine (hop.out _ B2 _ _ r2.out.ints upd_same).mono ?_; rintro e w3 (⟨z', B3, S3, hz', -⟩ | ⟨-, ⟨u3, v3, rfl⟩, hk3⟩); (focus cases hz'); have r3 := Hd.mk (p := Keep _ _ _ ∧ Blk w3 bu _ _) (by exact ⟨r2.out.keep.trans (hk3.sub fun k hk => .inl hk), hk3.blk (r2.out.bx bu _ _ updX_same) (.inr (by rw [updX_same]; exact fun h => by cases h))⟩); clear hk3; exact ⟨rfl, r3.out.1, ⟨_, _, rfl⟩, ⟨_, r3.out.2⟩⟩
    · go_simp
      refine hK _ _ ?_; clear hK K
      refine wpAny_ready (rs := [1]) (by kernel_rfl) (by simp) ?_
      refine AllReady.cons rfl (fun K hK => ?_) (AllReady.nil)
      go_simp; go_at_call 42; refine hd0.out.mono ?_; rintro e w2 ⟨B2, rfl, hn2⟩; have r2 := Hd.mk (r0.out.drew.new_int hn2); have l2 : bn < w2.heap.size ∧ ba < w2.heap.size := (by have h := hn2.bel.size; change w.heap.size ≤ w2.heap.size at h; exact ⟨Nat.lt_of_lt_of_le ln h, Nat.lt_of_lt_of_le la h⟩); clear hn2; obtain ⟨ja, jn⟩ : w2.cell? ⟨ba, 0, none⟩ = some (.string sx) ∧ w2.cell? ⟨bn, 0, none⟩ = some (.int .u64 n) := ⟨(r2.out.keep.blk ha.out hPa.out).cell 0, (r2.out.keep.blk hn.out hPn.out).cell 0⟩
      refine hK _ _ ?_; clear hK K
      refine wpAny_ready (rs := [3]) (by kernel_rfl) (by simp) ?_
      refine AllReady.cons rfl (fun K hK => ?_) (AllReady.nil)
      go_simp; go_at_call 52; refine (hop.out _ B2 _ _ r2.out.ints upd_same).mono ?_; rintro e w3 (⟨z', B3, S3, hz', -⟩ | ⟨-, ⟨u3, v3, rfl⟩, hk3⟩); (focus cases hz'); have r3 := Hd.mk (p := Keep _ _ _ ∧ Blk w3 bu _ _) (by exact ⟨r2.out.keep.trans (hk3.sub fun k hk => .inl hk), hk3.blk (r2.out.bx bu _ _ updX_same) (.inr (by rw [updX_same]; exact fun h => by cases h))⟩); clear hk3; exact ⟨rfl, r3.out.1, ⟨_, _, rfl⟩, ⟨_, r3.out.2⟩⟩
  · go_simp
    refine hK _ _ ?_; clear hK K
    refine wpAny_ready (rs := [0]) (by kernel_rfl) (by simp) ?_
    refine AllReady.cons rfl (fun K hK => ?_) (AllReady.nil)
    go_simp
    refine hK _ _ ?_; clear hK K
    refine wpAny_ready (rs := [1]) (by kernel_rfl) (by simp) ?_
    refine AllReady.cons rfl (fun K hK => ?_) (AllReady.nil)
    go_simp; go_at_call 42; refine hd0.out.mono ?_; rintro e w2 ⟨B2, rfl, hn2⟩; have r2 := Hd.mk (r0.out.drew.new_int hn2); have l2 : bn < w2.heap.size ∧ ba < w2.heap.size := (by have h := hn2.bel.size; change w.heap.size ≤ w2.heap.size at h; exact ⟨Nat.lt_of_lt_of_le ln h, Nat.lt_of_lt_of_le la h⟩); clear hn2; obtain ⟨ja, jn⟩ : w2.cell? ⟨ba, 0, none⟩ = some (.string sx) ∧ w2.cell? ⟨bn, 0, none⟩ = some (.int .u64 n) := ⟨(r2.out.keep.blk ha.out hPa.out).cell 0, (r2.out.keep.blk hn.out hPn.out).cell 0⟩
    refine hK _ _ ?_; clear hK K
    refine wpAny_ready (rs := [3]) (by kernel_rfl) (by simp) ?_
    refine AllReady.cons rfl (fun K hK => ?_) (AllReady.nil)
    go_simp; go_at_call 52; refine (hop.out _ B2 _ _ r2.out.ints upd_same).mono ?_; rintro e w3 (⟨z', B3, S3, hz', -⟩ | ⟨-, ⟨u3, v3, rfl⟩, hk3⟩); (focus cases hz'); have r3 := Hd.mk (p := Keep _ _ _ ∧ Blk w3 bu _ _) (by exact ⟨r2.out.keep.trans (hk3.sub fun k hk => .inl hk), hk3.blk (r2.out.bx bu _ _ updX_same) (.inr (by rw [updX_same]; exact fun h => by cases h))⟩); clear hk3; exact ⟨rfl, r3.out.1, ⟨_, _, rfl⟩, ⟨_, r3.out.2⟩⟩
set_option maxHeartbeats 4000000 in
theorem powK_Power_ok (n : Nat) (x : Int) (hx : inR x = true) (z : Int) (hz : inR z = true) (hop : PowC 53 n x (some z)) : powCl (zT x) (n : Int) false fun e w' bu => e = .returned (.tuple #[]) ∧ Blk w' bu 9 [.string (zT z)] := by
  intro ba bn bm bu w hok her ha hn hm hu hne hu1
  have r0 := Hd.mk (Run.start1 hok hu hu1)
  have hd0 := Hd.mk (decimal_ok x w.drew (hok.below (below_drew w)) (her.below (below_drew w)) (inR_130 hx))
  have hpz := Hd.mk fun (Q : Nat → Prop) B S1 w1 (h : Ints Q w1 S1) (h1 : S1 B = some z) => parts_ok Q B z S1 w1 h h1 (Nat.le_of_lt (inR_wl hz))
  have ca := ha.cell 0
  have cn := hn.cell 0
  have cm := hm.cell 0
  simp only [List.getElem?_cons_zero] at ca cn cm
  have la := ha.lt
  have ln := hn.lt
  have lu := hu.lt
  have hPa := Hd.mk (p := ba < w.heap.size ∧ ba ≠ bu) ⟨ha.lt, hne.1⟩
  have hPn := Hd.mk (p := bn < w.heap.size ∧ bn ≠ bu) ⟨hn.lt, hne.2.1⟩
  generalize zT x = sx at *
  generalize zT z = sz at *
  replace hop := Hd.mk hop
  replace ha := Hd.mk ha
  replace hn := Hd.mk hn
  replace hm := Hd.mk hm
  replace hu := Hd.mk hu
  go_enter Tryz.func50, Tryz.ntmps50
  go_upto_region 2 with fail
  go_region_law (first
    | (go_simp; go_at_call 42; refine hd0.out.mono ?_; rintro e w2 ⟨B2, rfl, hn2⟩; have r2 := Hd.mk (r0.out.drew.new_int hn2); have l2 : bn < w2.heap.size ∧ ba < w2.heap.size := (by have h := hn2.bel.size; change w.heap.size ≤ w2.heap.size at h; exact ⟨Nat.lt_of_lt_of_le ln h, Nat.lt_of_lt_of_le la h⟩); clear hn2; obtain ⟨ja, jn⟩ : w2.cell? ⟨ba, 0, none⟩ = some (.string sx) ∧ w2.cell? ⟨bn, 0, none⟩ = some (.int .u64 n) := ⟨(r2.out.keep.blk ha.out hPa.out).cell 0, (r2.out.keep.blk hn.out hPn.out).cell 0⟩)
    | (go_simp; go_at_call 53; refine (hop.out _ B2 _ _ r2.out.ints upd_same).mono ?_; rintro e w3 (⟨z', B3, S3, hz', rfl, hk3, hI3, hB3⟩ | ⟨hz', -⟩); rotate_left; (focus cases hz'); have r3 := Hd.mk (r2.out.op hk3 hI3); replace hB3 := Hd.mk hB3; obtain rfl := Option.some.inj hz'; clear hk3 hI3 hz')
    | (go_simp; go_at_call 51; refine (hpz.out _ B3 _ _ r3.out.ints hB3.out).mono ?_; rintro e w4 ⟨rfl, hk4, hI4⟩; have r4 := Hd.mk (r3.out.op hk4 hI4); clear hk4 hI4; obtain ⟨u4, u4z, u4l⟩ := r4.out.cell (b := bu) updX_same))
  all_goals
    have r8 := Hd.mk (r4.out.set1 (b := bu) (v' := .string sz) updX_same)
    have hkk := Hd.mk r8.out.keep
    have hub8 := Hd.mk (r8.out.bx bu _ _ updX_same)
    go_wp2
    go_end0
    exact ⟨hkk.out, rfl, hub8.out⟩
set_option maxHeartbeats 4000000 in
theorem powK_Power_pan (n : Nat) (x : Int) (hx : inR x = true)  (hop : PowC 53 n x none) : powCl (zT x) (n : Int) false fun e w' bu => Pan e ∧ ∃ z, Blk w' bu 9 [.string z] := by
  intro ba bn bm bu w hok her ha hn hm hu hne hu1
  have r0 := Hd.mk (Run.start1 hok hu hu1)
  have hd0 := Hd.mk (decimal_ok x w.drew (hok.below (below_drew w)) (her.below (below_drew w)) (inR_130 hx))
  have ca := ha.cell 0
  have cn := hn.cell 0
  have cm := hm.cell 0
  simp only [List.getElem?_cons_zero] at ca cn cm
  have la := ha.lt
  have ln := hn.lt
  have lu := hu.lt
  have hPa := Hd.mk (p := ba < w.heap.size ∧ ba ≠ bu) ⟨ha.lt, hne.1⟩
  have hPn := Hd.mk (p := bn < w.heap.size ∧ bn ≠ bu) ⟨hn.lt, hne.2.1⟩
  generalize zT x = sx at *
  skip
  replace hop := Hd.mk hop
  replace ha := Hd.mk ha
  replace hn := Hd.mk hn
  replace hm := Hd.mk hm
  replace hu := Hd.mk hu
  go_enter Tryz.func50, Tryz.ntmps50
  go_upto_region 2 with fail
  refine wp_region_any (by kernel_rfl) ?_
  refine wpAny_ready (rs := [0, 2]) (by kernel_rfl) (by simp) ?_
  refine AllReady.cons rfl (fun K hK => ?_) (AllReady.cons rfl (fun K hK => ?_) (AllReady.nil))
  · go_simp
    refine hK _ _ ?_; clear hK K
    refine wpAny_ready (rs := [1, 2]) (by kernel_rfl) (by simp) ?_
    refine AllReady.cons rfl (fun K hK => ?_) (AllReady.cons rfl (fun K hK => ?_) (AllReady.nil))
    · go_simp; go_at_call 42; refine hd0.out.mono ?_; rintro e w2 ⟨B2, rfl, hn2⟩; have r2 := Hd.mk (r0.out.drew.new_int hn2); have l2 : bn < w2.heap.size ∧ ba < w2.heap.size := (by have h := hn2.bel.size; change w.heap.size ≤ w2.heap.size at h; exact ⟨Nat.lt_of_lt_of_le ln h, Nat.lt_of_lt_of_le la h⟩); clear hn2; obtain ⟨ja, jn⟩ : w2.cell? ⟨ba, 0, none⟩ = some (.string sx) ∧ w2.cell? ⟨bn, 0, none⟩ = some (.int .u64 n) := ⟨(r2.out.keep.blk ha.out hPa.out).cell 0, (r2.out.keep.blk hn.out hPn.out).cell 0⟩
      refine hK _ _ ?_; clear hK K
      refine wpAny_ready (rs := [2]) (by kernel_rfl) (by simp) ?_
      refine AllReady.cons rfl (fun K hK => ?_) (AllReady.nil)
      go_simp
      refine hK _ _ ?_; clear hK K
      refine wpAny_ready (rs := [3]) (by kernel_rfl) (by simp) ?_
      refine AllReady.cons rfl (fun K hK => ?_) (AllReady.nil)
      go_simp; go_at_call 53; refine (hop.out _ B2 _ _ r2.out.ints upd_same).mono ?_; rintro e w3 (⟨z', B3, S3, hz', -⟩ | ⟨-, ⟨u3, v3, rfl⟩, hk3⟩); (focus cases hz'); have r3 := Hd.mk (p := Keep _ _ _ ∧ Blk w3 bu _ _) (by exact ⟨r2.out.keep.trans (hk3.sub fun k hk => .inl hk), hk3.blk (r2.out.bx bu _ _ updX_same) (.inr (by rw [updX_same]; exact fun h => by cases h))⟩); clear hk3; exact ⟨rfl, r3.out.1, ⟨_, _, rfl⟩, ⟨_, r3.out.2⟩⟩
    · go_simp
      refine hK _ _ ?_; clear hK K
      refine wpAny_ready (rs := [1]) (by kernel_rfl) (by simp) ?_
      refine AllReady.cons rfl (fun K hK => ?_) (AllReady.nil)
      go_simp; go_at_call 42; refine hd0.out.mono ?_; rintro e w2 ⟨B2, rfl, hn2⟩; have r2 := Hd.mk (r0.out.drew.new_int hn2); have l2 : bn < w2.heap.size ∧ ba < w2.heap.size := (by have h := hn2.bel.size; change w.heap.size ≤ w2.heap.size at h; exact ⟨Nat.lt_of_lt_of_le ln h, Nat.lt_of_lt_of_le la h⟩); clear hn2; obtain ⟨ja, jn⟩ : w2.cell? ⟨ba, 0, none⟩ = some (.string sx) ∧ w2.cell? ⟨bn, 0, none⟩ = some (.int .u64 n) := ⟨(r2.out.keep.blk ha.out hPa.out).cell 0, (r2.out.keep.blk hn.out hPn.out).cell 0⟩
      refine hK _ _ ?_; clear hK K
      refine wpAny_ready (rs := [3]) (by kernel_rfl) (by simp) ?_
      refine AllReady.cons rfl (fun K hK => ?_) (AllReady.nil)
      go_simp; go_at_call 53; refine (hop.out _ B2 _ _ r2.out.ints upd_same).mono ?_; rintro e w3 (⟨z', B3, S3, hz', -⟩ | ⟨-, ⟨u3, v3, rfl⟩, hk3⟩); (focus cases hz'); have r3 := Hd.mk (p := Keep _ _ _ ∧ Blk w3 bu _ _) (by exact ⟨r2.out.keep.trans (hk3.sub fun k hk => .inl hk), hk3.blk (r2.out.bx bu _ _ updX_same) (.inr (by rw [updX_same]; exact fun h => by cases h))⟩); clear hk3; exact ⟨rfl, r3.out.1, ⟨_, _, rfl⟩, ⟨_, r3.out.2⟩⟩
  · go_simp
    refine hK _ _ ?_; clear hK K
    refine wpAny_ready (rs := [0]) (by kernel_rfl) (by simp) ?_
    refine AllReady.cons rfl (fun K hK => ?_) (AllReady.nil)
    go_simp
    refine hK _ _ ?_; clear hK K
    refine wpAny_ready (rs := [1]) (by kernel_rfl) (by simp) ?_
    refine AllReady.cons rfl (fun K hK => ?_) (AllReady.nil)
    go_simp; go_at_call 42; refine hd0.out.mono ?_; rintro e w2 ⟨B2, rfl, hn2⟩; have r2 := Hd.mk (r0.out.drew.new_int hn2); have l2 : bn < w2.heap.size ∧ ba < w2.heap.size := (by have h := hn2.bel.size; change w.heap.size ≤ w2.heap.size at h; exact ⟨Nat.lt_of_lt_of_le ln h, Nat.lt_of_lt_of_le la h⟩); clear hn2; obtain ⟨ja, jn⟩ : w2.cell? ⟨ba, 0, none⟩ = some (.string sx) ∧ w2.cell? ⟨bn, 0, none⟩ = some (.int .u64 n) := ⟨(r2.out.keep.blk ha.out hPa.out).cell 0, (r2.out.keep.blk hn.out hPn.out).cell 0⟩
    refine hK _ _ ?_; clear hK K
    refine wpAny_ready (rs := [3]) (by kernel_rfl) (by simp) ?_
    refine AllReady.cons rfl (fun K hK => ?_) (AllReady.nil)
    go_simp; go_at_call 53; refine (hop.out _ B2 _ _ r2.out.ints upd_same).mono ?_; rintro e w3 (⟨z', B3, S3, hz', -⟩ | ⟨-, ⟨u3, v3, rfl⟩, hk3⟩); (focus cases hz'); have r3 := Hd.mk (p := Keep _ _ _ ∧ Blk w3 bu _ _) (by exact ⟨r2.out.keep.trans (hk3.sub fun k hk => .inl hk), hk3.blk (r2.out.bx bu _ _ updX_same) (.inr (by rw [updX_same]; exact fun h => by cases h))⟩); clear hk3; exact ⟨rfl, r3.out.1, ⟨_, _, rfl⟩, ⟨_, r3.out.2⟩⟩
end Go.Proofs.YtdbjdpooggaonaaGreatDoor
