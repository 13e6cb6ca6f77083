/- Decimals: an operation done to a copy. Conditions: those that each theorem states. -/
import Derived.Test.YtdbjdpooggaonaaGreatDoorBase13
set_option linter.all false

namespace Go.Proofs.YtdbjdpooggaonaaGreatDoor
open Go.RowKit
set_option maxRecDepth 100000
theorem enters {f : Nat} {fn : Func} (h : Tryz.prog.funcs[f]? = some fn) (hn : (fn.name == "runtime.NumGoroutine") = false) (hb : fn.body.isSome = true) (args : Array Value) (w : World) : (callFunc f args).run Tryz.prog w = .ok (.enter f args) w := by
  obtain ⟨c, hc⟩ := Option.isSome_iff_exists.1 hb
  simp [callFunc, h, hc]
  simpa using hn
/-- A function's value. -/
abbrev fnv (f : Nat) : Value := .func (.func f) #[] #[]
set_option maxHeartbeats 2000000 in
theorem Immut_ok (P : Nat → Prop) (bd be f : Nat) (x y v : Int) (S : Nat → Option Int) (w : World) (hI : Ints P w S) (hx : S bd = some x) (hy : S be = some y) (hwx : wlen x.natAbs < 800) (hcf : ∀ args w, (callFunc f args).run Tryz.prog w = .ok (.enter f args) w)
    (hop : ∀ Q w1 S1 B, Ints Q w1 S1 → S1 B = some x → S1 be = some y → B ≠ be → Calls Tryz.prog f #[.agg #[ptr B], .agg #[ptr be]] w1 fun e w' => e = .returned (.agg #[ptr B]) ∧ Keep Q w1 w' ∧ Ints Q w' (upd S1 B v)) :
    Calls Tryz.prog 183 #[.agg #[ptr bd], fnv f, .agg #[ptr be]] w fun e w' => ∃ B, e = .returned (.agg #[ptr B]) ∧ w.heap.size ≤ B ∧ Keep P w w' ∧ Ints P w' (upd S B v) := by
  have r0 := Hd.mk (Run.start hI)
  have hlo := Hd.mk hI.low
  have hl := hI.lt hx
  have hle := hI.lt hy
  clear hI
  have r1 := Hd.mk (r0.out.box #[ptr bd] 68)
  clear r0
  have r2 := Hd.mk (r1.out.box #[ptr be] 68)
  clear r1
  have r3 := Hd.mk (r2.out.box #[.pointer none] 68)
  clear r2
  simp only [World.size_alloc] at r3
  replace hop := Hd.mk hop
  have hxk := Hd.mk hx
  have hyk := Hd.mk hy
  clear hx hy
  go_enter Tryz.func183, Tryz.ntmps183
  go_wp2
  go_region_law (first | (go_simp; go_at_call 223; refine (dClone_any _ bd x _ _ r3.out.drew.ints hxk.out hwx).mono ?_; rintro e w4 ⟨B4, rfl, g4, hk4, hI4⟩; change (((w.alloc _).alloc _).alloc _).heap.size ≤ B4 at g4; simp only [World.size_alloc] at g4; have r4 := Hd.mk (r3.out.drew.op hk4 hI4); have l4 := r4.out.ilt upd_same; obtain ⟨c4, c4z, c4l⟩ := r4.out.cell (b := w.heap.size) (by rw [updX_ne (by omega), updX_ne (by omega), updX_same]); obtain ⟨d4, d4z, d4l⟩ := r4.out.cell (b := w.heap.size + 1) (by rw [updX_ne (by omega), updX_same]); clear hk4 hI4) | (go_simp; refine (hop.out _ w4 _ B4 r4.out.ints upd_same (by rw [upd_ne (by omega)]; exact hyk.out) (by omega)).mono ?_; rintro e w5 ⟨rfl, hk5, hI5⟩; have r5 := Hd.mk (r4.out.op hk5 hI5); obtain ⟨e5, e5z, e5l⟩ := r5.out.cell (b := w.heap.size + 1 + 1) updX_same; clear hk5 hI5))
  all_goals
    go_wp2
    have r6 := r5.out.store updX_same (put1 (r5.out.bx _ _ _ updX_same) (v' := ptr B4))
    refine bodyPost_ret (v := .agg #[ptr B4]) (by simp [results, Tryz.results183, go_sem, e5, e5z, e5l]) rfl ⟨_, rfl, by omega, r6.fin.1, r6.fin.2.sub fun k z hk => ?_⟩
    rcases upd_cases hk with ⟨rfl, rfl⟩ | ⟨hne, hk⟩
    · repeat first | exact upd_same | rw [upd_ne (by omega)]
    · have hkl := hlo.out.lt hk
      repeat rw [upd_ne (by first | exact hne | ((try simp only [World.size_alloc]); omega))]
      exact hk
set_option maxHeartbeats 2000000 in
theorem Immut_pan (P : Nat → Prop) (bd be f : Nat) (x y : Int) (S : Nat → Option Int) (w : World) (hI : Ints P w S) (hx : S bd = some x) (hy : S be = some y) (hwx : wlen x.natAbs < 800) (hcf : ∀ args w, (callFunc f args).run Tryz.prog w = .ok (.enter f args) w)
    (hop : ∀ Q w1 S1 B, Ints Q w1 S1 → S1 B = some x → S1 be = some y → B ≠ be → Calls Tryz.prog f #[.agg #[ptr B], .agg #[ptr be]] w1 fun e w' => Pan e ∧ Keep Q w1 w') :
    Calls Tryz.prog 183 #[.agg #[ptr bd], fnv f, .agg #[ptr be]] w fun e w' => Pan e ∧ Keep P w w' := by
  have r0 := Hd.mk (Run.start hI)
  have hlo := Hd.mk hI.low
  have hl := hI.lt hx
  have hle := hI.lt hy
  clear hI
  have r1 := Hd.mk (r0.out.box #[ptr bd] 68)
  clear r0
  have r2 := Hd.mk (r1.out.box #[ptr be] 68)
  clear r1
  have r3 := Hd.mk (r2.out.box #[.pointer none] 68)
  clear r2
  simp only [World.size_alloc] at r3
  replace hop := Hd.mk hop
  have hxk := Hd.mk hx
  have hyk := Hd.mk hy
  clear hx hy
  go_enter Tryz.func183, Tryz.ntmps183
  go_wp2
  have hpo : Hd (Keep P w w → True) := ⟨fun _ => trivial⟩
  obtain ⟨c3, c3z, c3l⟩ := r3.out.drew.cell (b := w.heap.size) (by rw [updX_ne (by omega), updX_ne (by omega), updX_same])
  obtain ⟨d3, d3z, d3l⟩ := r3.out.drew.cell (b := w.heap.size + 1) (by rw [updX_ne (by omega), updX_same])
  refine wp_region_any (by kernel_rfl) ?_
  change wpAny _ _ _ _ _ _ _ (World.drew _)
  refine wpAny_take (i := 0) (v := fnv f) rfl (by kernel_rfl) (by kernel_rfl) (by kernel_rfl) (fun _ _ _ h => h) (Or.inl ⟨by rfl, ?_⟩) ?_
  · intro w
    go_simp
  refine wpAny_ready (rs := [1, 3]) (by kernel_rfl) (by simp) ?_
  refine AllReady.cons rfl (fun K hK => ?_) (AllReady.cons rfl (fun K hK => ?_) AllReady.nil)
  · go_simp
    refine hK _ _ ?_; clear hK K
    refine wpAny_ready (rs := [2, 3]) (by kernel_rfl) (by simp) ?_
    refine AllReady.cons rfl (fun K hK => ?_) (AllReady.cons rfl (fun K hK => ?_) AllReady.nil)
    · go_simp; go_at_call 223; refine (dClone_any _ bd x _ _ r3.out.drew.ints hxk.out hwx).mono ?_; rintro e w4 ⟨B4, rfl, g4, hk4, hI4⟩; change (((w.alloc _).alloc _).alloc _).heap.size ≤ B4 at g4; simp only [World.size_alloc] at g4; have r4 := Hd.mk (r3.out.drew.op hk4 hI4); have l4 := r4.out.ilt upd_same; obtain ⟨c4, c4z, c4l⟩ := r4.out.cell (b := w.heap.size) (by rw [updX_ne (by omega), updX_ne (by omega), updX_same]); obtain ⟨d4, d4z, d4l⟩ := r4.out.cell (b := w.heap.size + 1) (by rw [updX_ne (by omega), updX_same]); clear hk4 hI4
      refine hK _ _ ?_; clear hK K
      refine wpAny_ready (rs := [3]) (by kernel_rfl) (by simp) ?_
      refine AllReady.cons rfl (fun K hK => ?_) AllReady.nil
      go_simp
      refine hK _ _ ?_; clear hK K
      refine wpAny_ready (rs := [4]) (by kernel_rfl) (by simp) ?_
      refine AllReady.cons rfl (fun K hK => ?_) AllReady.nil
      go_simp; refine (hop.out _ w4 _ B4 r4.out.ints upd_same (by rw [upd_ne (by omega)]; exact hyk.out) (by omega)).mono ?_; rintro e w5 ⟨⟨u5, v5, rfl⟩, hk5⟩; have hf := Hd.mk (r4.out.keep.trans (hk5.sub fun k hk => .inl hk)); exact ⟨rfl, ⟨_, _, rfl⟩, hf.out⟩
    · go_simp
      refine hK _ _ ?_; clear hK K
      refine wpAny_ready (rs := [2]) (by kernel_rfl) (by simp) ?_
      refine AllReady.cons rfl (fun K hK => ?_) AllReady.nil
      go_simp; go_at_call 223; refine (dClone_any _ bd x _ _ r3.out.drew.ints hxk.out hwx).mono ?_; rintro e w4 ⟨B4, rfl, g4, hk4, hI4⟩; change (((w.alloc _).alloc _).alloc _).heap.size ≤ B4 at g4; simp only [World.size_alloc] at g4; have r4 := Hd.mk (r3.out.drew.op hk4 hI4); have l4 := r4.out.ilt upd_same; obtain ⟨c4, c4z, c4l⟩ := r4.out.cell (b := w.heap.size) (by rw [updX_ne (by omega), updX_ne (by omega), updX_same]); obtain ⟨d4, d4z, d4l⟩ := r4.out.cell (b := w.heap.size + 1) (by rw [updX_ne (by omega), updX_same]); clear hk4 hI4
      refine hK _ _ ?_; clear hK K
      refine wpAny_ready (rs := [4]) (by kernel_rfl) (by simp) ?_
      refine AllReady.cons rfl (fun K hK => ?_) AllReady.nil
      go_simp; refine (hop.out _ w4 _ B4 r4.out.ints upd_same (by rw [upd_ne (by omega)]; exact hyk.out) (by omega)).mono ?_; rintro e w5 ⟨⟨u5, v5, rfl⟩, hk5⟩; have hf := Hd.mk (r4.out.keep.trans (hk5.sub fun k hk => .inl hk)); exact ⟨rfl, ⟨_, _, rfl⟩, hf.out⟩
  · go_simp
    refine hK _ _ ?_; clear hK K
    refine wpAny_ready (rs := [1]) (by kernel_rfl) (by simp) ?_
    refine AllReady.cons rfl (fun K hK => ?_) AllReady.nil
    go_simp
    refine hK _ _ ?_; clear hK K
    refine wpAny_ready (rs := [2]) (by kernel_rfl) (by simp) ?_
    refine AllReady.cons rfl (fun K hK => ?_) AllReady.nil
    go_simp; go_at_call 223; refine (dClone_any _ bd x _ _ r3.out.drew.ints hxk.out hwx).mono ?_; rintro e w4 ⟨B4, rfl, g4, hk4, hI4⟩; change (((w.alloc _).alloc _).alloc _).heap.size ≤ B4 at g4; simp only [World.size_alloc] at g4; have r4 := Hd.mk (r3.out.drew.op hk4 hI4); have l4 := r4.out.ilt upd_same; obtain ⟨c4, c4z, c4l⟩ := r4.out.cell (b := w.heap.size) (by rw [updX_ne (by omega), updX_ne (by omega), updX_same]); obtain ⟨d4, d4z, d4l⟩ := r4.out.cell (b := w.heap.size + 1) (by rw [updX_ne (by omega), updX_same]); clear hk4 hI4
    refine hK _ _ ?_; clear hK K
    refine wpAny_ready (rs := [4]) (by kernel_rfl) (by simp) ?_
    refine AllReady.cons rfl (fun K hK => ?_) AllReady.nil
    go_simp; refine (hop.out _ w4 _ B4 r4.out.ints upd_same (by rw [upd_ne (by omega)]; exact hyk.out) (by omega)).mono ?_; rintro e w5 ⟨⟨u5, v5, rfl⟩, hk5⟩; have hf := Hd.mk (r4.out.keep.trans (hk5.sub fun k hk => .inl hk)); exact ⟨rfl, ⟨_, _, rfl⟩, hf.out⟩
set_option maxHeartbeats 2000000 in
theorem dAdd_ok (P : Nat → Prop) (bd be : Nat) (x y : Int) (S : Nat → Option Int) (w : World) (hI : Ints P w S) (hx : S bd = some x) (hy : S be = some y) (hwx : wlen x.natAbs < 100) (hwy : wlen y.natAbs < 100) (hr : inR (x + y) = true) :
    Calls Tryz.prog 97 #[.agg #[ptr bd], .agg #[ptr be]] w fun e w' => ∃ B, e = .returned (.agg #[ptr B]) ∧ w.heap.size ≤ B ∧ Keep P w w' ∧ Ints P w' (upd S B (x + y)) := by
  have r0 := Hd.mk (Run.start hI)
  have hlo := Hd.mk hI.low
  have hl := hI.lt hx
  have hle := hI.lt hy
  clear hI
  have r1 := Hd.mk (r0.out.box #[ptr bd] 68)
  clear r0
  have r2 := Hd.mk (r1.out.box #[ptr be] 68)
  clear r1
  have r3 := Hd.mk (r2.out.box #[.pointer none] 68)
  clear r2
  simp only [World.size_alloc] at r3
  have hm := Hd.mk (Immut_ok _ bd be 96 x y (x + y) _ _ r3.out.ints hx hy (by omega) (enters Tryz.func96 (by kernel_rfl) (by kernel_rfl)) (fun Q w1 S1 B h1 h2 h3 h4 => AddMut_ok Q B be x y S1 w1 h1 h2 h3 hwx hwy hr))
  replace hx := Hd.mk hx
  replace hy := Hd.mk hy
  go_enter Tryz.func97, Tryz.ntmps97
  go_wp2_with fail
  refine (hm.out).mono ?_
  rintro e w4 ⟨B4, rfl, g4, hk4, hI4⟩
  have s4 := hk4.size
  try simp only [World.size_alloc] at g4 s4
  have r4 := Hd.mk (r3.out.op hk4 hI4)
  have l4 := r4.out.ilt upd_same
  clear hk4 hI4 r3
  obtain ⟨e4, e4z, e4l⟩ := r4.out.cell (b := (w.heap.size + 1 + 1)) updX_same
  go_wp2
  have r9 := r4.out.store updX_same (put1 (r4.out.bx _ _ _ updX_same) (v' := ptr B4))
  refine bodyPost_ret (v := .agg #[ptr B4]) (by simp [results, Tryz.results97, go_sem, e4, e4z, e4l]) rfl ⟨_, rfl, by omega, r9.fin.1, r9.fin.2.sub fun k z hk => ?_⟩
  rcases upd_cases hk with ⟨rfl, rfl⟩ | ⟨hne, hk⟩
  · repeat first | exact upd_same | rw [upd_ne (by omega)]
  · have hkl := hlo.out.lt hk
    repeat rw [upd_ne (by first | exact hne | ((try simp only [World.size_alloc]); omega))]
    exact hk
set_option maxHeartbeats 2000000 in
theorem dAdd_pan (P : Nat → Prop) (bd be : Nat) (x y : Int) (S : Nat → Option Int) (w : World) (hI : Ints P w S) (hx : S bd = some x) (hy : S be = some y) (hwx : wlen x.natAbs < 100) (hwy : wlen y.natAbs < 100) (hr : inR (x + y) = false) :
    Calls Tryz.prog 97 #[.agg #[ptr bd], .agg #[ptr be]] w fun e w' => Pan e ∧ Keep P w w' := by
  have r0 := Hd.mk (Run.start hI)
  have hlo := Hd.mk hI.low
  have hl := hI.lt hx
  have hle := hI.lt hy
  clear hI
  have r1 := Hd.mk (r0.out.box #[ptr bd] 68)
  clear r0
  have r2 := Hd.mk (r1.out.box #[ptr be] 68)
  clear r1
  have r3 := Hd.mk (r2.out.box #[.pointer none] 68)
  clear r2
  simp only [World.size_alloc] at r3
  have hm := Hd.mk (Immut_pan _ bd be 96 x y _ _ r3.out.ints hx hy (by omega) (enters Tryz.func96 (by kernel_rfl) (by kernel_rfl)) (fun Q w1 S1 B h1 h2 h3 h4 => AddMut_pan Q B be x y S1 w1 h1 h2 h3 hwx hwy hr))
  replace hx := Hd.mk hx
  replace hy := Hd.mk hy
  go_enter Tryz.func97, Tryz.ntmps97
  go_wp2_with fail
  refine hm.out.mono ?_
  rintro e w4 ⟨⟨u4, v4, rfl⟩, hk4⟩
  have hf := Hd.mk (r3.out.keep.trans (hk4.sub fun k hk => .inl hk))
  clear hk4
  first | exact ⟨⟨_, _, rfl⟩, hf.out⟩ | exact ⟨rfl, ⟨_, _, rfl⟩, hf.out⟩ | (go_wp2; exact ⟨rfl, ⟨_, _, rfl⟩, hf.out⟩)
set_option maxHeartbeats 2000000 in
theorem dSub_ok (P : Nat → Prop) (bd be : Nat) (x y : Int) (S : Nat → Option Int) (w : World) (hI : Ints P w S) (hx : S bd = some x) (hy : S be = some y) (hwx : wlen x.natAbs < 100) (hwy : wlen y.natAbs < 100) (hr : inR (x - y) = true) :
    Calls Tryz.prog 99 #[.agg #[ptr bd], .agg #[ptr be]] w fun e w' => ∃ B, e = .returned (.agg #[ptr B]) ∧ w.heap.size ≤ B ∧ Keep P w w' ∧ Ints P w' (upd S B (x - y)) := by
  have r0 := Hd.mk (Run.start hI)
  have hlo := Hd.mk hI.low
  have hl := hI.lt hx
  have hle := hI.lt hy
  clear hI
  have r1 := Hd.mk (r0.out.box #[ptr bd] 68)
  clear r0
  have r2 := Hd.mk (r1.out.box #[ptr be] 68)
  clear r1
  have r3 := Hd.mk (r2.out.box #[.pointer none] 68)
  clear r2
  simp only [World.size_alloc] at r3
  have hm := Hd.mk (Immut_ok _ bd be 98 x y (x - y) _ _ r3.out.ints hx hy (by omega) (enters Tryz.func98 (by kernel_rfl) (by kernel_rfl)) (fun Q w1 S1 B h1 h2 h3 h4 => SubMut_ok Q B be x y S1 w1 h1 h2 h3 hwx hwy hr))
  replace hx := Hd.mk hx
  replace hy := Hd.mk hy
  go_enter Tryz.func99, Tryz.ntmps99
  go_wp2_with fail
  refine (hm.out).mono ?_
  rintro e w4 ⟨B4, rfl, g4, hk4, hI4⟩
  have s4 := hk4.size
  try simp only [World.size_alloc] at g4 s4
  have r4 := Hd.mk (r3.out.op hk4 hI4)
  have l4 := r4.out.ilt upd_same
  clear hk4 hI4 r3
  obtain ⟨e4, e4z, e4l⟩ := r4.out.cell (b := (w.heap.size + 1 + 1)) updX_same
  go_wp2
  have r9 := r4.out.store updX_same (put1 (r4.out.bx _ _ _ updX_same) (v' := ptr B4))
  refine bodyPost_ret (v := .agg #[ptr B4]) (by simp [results, Tryz.results99, go_sem, e4, e4z, e4l]) rfl ⟨_, rfl, by omega, r9.fin.1, r9.fin.2.sub fun k z hk => ?_⟩
  rcases upd_cases hk with ⟨rfl, rfl⟩ | ⟨hne, hk⟩
  · repeat first | exact upd_same | rw [upd_ne (by omega)]
  · have hkl := hlo.out.lt hk
    repeat rw [upd_ne (by first | exact hne | ((try simp only [World.size_alloc]); omega))]
    exact hk
set_option maxHeartbeats 2000000 in
theorem dSub_pan (P : Nat → Prop) (bd be : Nat) (x y : Int) (S : Nat → Option Int) (w : World) (hI : Ints P w S) (hx : S bd = some x) (hy : S be = some y) (hwx : wlen x.natAbs < 100) (hwy : wlen y.natAbs < 100) (hr : inR (x - y) = false) :
    Calls Tryz.prog 99 #[.agg #[ptr bd], .agg #[ptr be]] w fun e w' => Pan e ∧ Keep P w w' := by
  have r0 := Hd.mk (Run.start hI)
  have hlo := Hd.mk hI.low
  have hl := hI.lt hx
  have hle := hI.lt hy
  clear hI
  have r1 := Hd.mk (r0.out.box #[ptr bd] 68)
  clear r0
  have r2 := Hd.mk (r1.out.box #[ptr be] 68)
  clear r1
  have r3 := Hd.mk (r2.out.box #[.pointer none] 68)
  clear r2
  simp only [World.size_alloc] at r3
  have hm := Hd.mk (Immut_pan _ bd be 98 x y _ _ r3.out.ints hx hy (by omega) (enters Tryz.func98 (by kernel_rfl) (by kernel_rfl)) (fun Q w1 S1 B h1 h2 h3 h4 => SubMut_pan Q B be x y S1 w1 h1 h2 h3 hwx hwy hr))
  replace hx := Hd.mk hx
  replace hy := Hd.mk hy
  go_enter Tryz.func99, Tryz.ntmps99
  go_wp2_with fail
  refine hm.out.mono ?_
  rintro e w4 ⟨⟨u4, v4, rfl⟩, hk4⟩
  have hf := Hd.mk (r3.out.keep.trans (hk4.sub fun k hk => .inl hk))
  clear hk4
  first | exact ⟨⟨_, _, rfl⟩, hf.out⟩ | exact ⟨rfl, ⟨_, _, rfl⟩, hf.out⟩ | (go_wp2; exact ⟨rfl, ⟨_, _, rfl⟩, hf.out⟩)
end Go.Proofs.YtdbjdpooggaonaaGreatDoor
