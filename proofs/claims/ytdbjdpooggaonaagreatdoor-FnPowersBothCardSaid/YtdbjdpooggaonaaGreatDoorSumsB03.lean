/- Decimals: products of copies; the greater, the less; what an operation's closure is asked, for those that divide by no decimal. Cells of numbers in a state, put apart. Conditions: those that each theorem states. -/
import Derived.Test.YtdbjdpooggaonaaGreatDoorSumsB01
import Derived.Test.YtdbjdpooggaonaaGreatDoorBase14
import Derived.Test.YtdbjdpooggaonaaGreatDoorJoin03
import Derived.Test.YtdbjdpooggaonaaGreatDoorBase28
set_option linter.all false

section
namespace Go.Proofs.YtdbjdpooggaonaaGreatDoor
open Go.RowKit
set_option maxRecDepth 100000
set_option maxHeartbeats 2000000 in
theorem dMul_ok (P : Nat → Prop) (bd be : Nat) (x y : Int) (S : Nat → Option Int) (w : World) (hI : Ints P w S) (hx : S bd = some x) (hy : S be = some y) (hwx : wlen x.natAbs < 12) (hwy : wlen y.natAbs < 12) (hr : inR (chopR (x * y)) = true) :
    Calls Tryz.prog 101 #[.agg #[ptr bd], .agg #[ptr be]] w fun e w' => ∃ B, e = .returned (.agg #[ptr B]) ∧ w.heap.size ≤ B ∧ Keep P w w' ∧ Ints P w' (upd S B (chopR (x * y))) := by
  have r0 := Hd.mk (Run.start hI)
  have hlo := Hd.mk hI.low
  have hl := hI.lt hx
  have hle := hI.lt hy
  clear hI
  have r1 := Hd.mk (r0.out.box #[ptr bd] 68)
  clear r0
  have r2 := Hd.mk (r1.out.box #[ptr be] 68)
  clear r1
  have r3 := Hd.mk (r2.out.box #[.pointer none] 68)
  clear r2
  simp only [World.size_alloc] at r3
  have hm := Hd.mk (Immut_ok _ bd be 100 x y (chopR (x * y)) _ _ r3.out.ints hx hy (by omega) (enters Tryz.func100 (by kernel_rfl) (by kernel_rfl)) (fun Q w1 S1 B h1 h2 h3 h4 => MulMut_ok Q B be x y S1 w1 h1 h2 h3 hwx hwy hr))
  replace hx := Hd.mk hx
  replace hy := Hd.mk hy
  go_enter Tryz.func101, Tryz.ntmps101
  go_wp2_with fail
  refine (hm.out).mono ?_
  rintro e w4 ⟨B4, rfl, g4, hk4, hI4⟩
  have s4 := hk4.size
  try simp only [World.size_alloc] at g4 s4
  have r4 := Hd.mk (r3.out.op hk4 hI4)
  have l4 := r4.out.ilt upd_same
  clear hk4 hI4 r3
  obtain ⟨e4, e4z, e4l⟩ := r4.out.cell (b := (w.heap.size + 1 + 1)) updX_same
  go_wp2
  have r9 := r4.out.store updX_same (put1 (r4.out.bx _ _ _ updX_same) (v' := ptr B4))
  refine bodyPost_ret (v := .agg #[ptr B4]) (by simp [results, Tryz.results101, go_sem, e4, e4z, e4l]) rfl ⟨_, rfl, by omega, r9.fin.1, r9.fin.2.sub fun k z hk => ?_⟩
  rcases upd_cases hk with ⟨rfl, rfl⟩ | ⟨hne, hk⟩
  · repeat first | exact upd_same | rw [upd_ne (by omega)]
  · have hkl := hlo.out.lt hk
    repeat rw [upd_ne (by first | exact hne | ((try simp only [World.size_alloc]); omega))]
    exact hk
set_option maxHeartbeats 2000000 in
theorem dMul_pan (P : Nat → Prop) (bd be : Nat) (x y : Int) (S : Nat → Option Int) (w : World) (hI : Ints P w S) (hx : S bd = some x) (hy : S be = some y) (hwx : wlen x.natAbs < 12) (hwy : wlen y.natAbs < 12) (hr : inR (chopR (x * y)) = false) :
    Calls Tryz.prog 101 #[.agg #[ptr bd], .agg #[ptr be]] w fun e w' => Pan e ∧ Keep P w w' := by
  have r0 := Hd.mk (Run.start hI)
  have hlo := Hd.mk hI.low
  have hl := hI.lt hx
  have hle := hI.lt hy
  clear hI
  have r1 := Hd.mk (r0.out.box #[ptr bd] 68)
  clear r0
  have r2 := Hd.mk (r1.out.box #[ptr be] 68)
  clear r1
  have r3 := Hd.mk (r2.out.box #[.pointer none] 68)
  clear r2
  simp only [World.size_alloc] at r3
  have hm := Hd.mk (Immut_pan _ bd be 100 x y _ _ r3.out.ints hx hy (by omega) (enters Tryz.func100 (by kernel_rfl) (by kernel_rfl)) (fun Q w1 S1 B h1 h2 h3 h4 => MulMut_pan Q B be x y S1 w1 h1 h2 h3 hwx hwy hr))
  replace hx := Hd.mk hx
  replace hy := Hd.mk hy
  go_enter Tryz.func101, Tryz.ntmps101
  go_wp2_with fail
  refine hm.out.mono ?_
  rintro e w4 ⟨⟨u4, v4, rfl⟩, hk4⟩
  have hf := Hd.mk (r3.out.keep.trans (hk4.sub fun k hk => .inl hk))
  clear hk4
  first | exact ⟨⟨_, _, rfl⟩, hf.out⟩ | exact ⟨rfl, ⟨_, _, rfl⟩, hf.out⟩ | (go_wp2; exact ⟨rfl, ⟨_, _, rfl⟩, hf.out⟩)
set_option maxHeartbeats 2000000 in
theorem dMulTruncate_ok (P : Nat → Prop) (bd be : Nat) (x y : Int) (S : Nat → Option Int) (w : World) (hI : Ints P w S) (hx : S bd = some x) (hy : S be = some y) (hwx : wlen x.natAbs < 12) (hwy : wlen y.natAbs < 12) (hr : inR ((x * y).tdiv E18) = true) :
    Calls Tryz.prog 103 #[.agg #[ptr bd], .agg #[ptr be]] w fun e w' => ∃ B, e = .returned (.agg #[ptr B]) ∧ w.heap.size ≤ B ∧ Keep P w w' ∧ Ints P w' (upd S B ((x * y).tdiv E18)) := by
  have r0 := Hd.mk (Run.start hI)
  have hlo := Hd.mk hI.low
  have hl := hI.lt hx
  have hle := hI.lt hy
  clear hI
  have r1 := Hd.mk (r0.out.box #[ptr bd] 68)
  clear r0
  have r2 := Hd.mk (r1.out.box #[ptr be] 68)
  clear r1
  have r3 := Hd.mk (r2.out.box #[.pointer none] 68)
  clear r2
  simp only [World.size_alloc] at r3
  have hm := Hd.mk (Immut_ok _ bd be 102 x y ((x * y).tdiv E18) _ _ r3.out.ints hx hy (by omega) (enters Tryz.func102 (by kernel_rfl) (by kernel_rfl)) (fun Q w1 S1 B h1 h2 h3 h4 => MulTruncateMut_ok Q B be x y S1 w1 h1 h2 h3 hwx hwy hr))
  replace hx := Hd.mk hx
  replace hy := Hd.mk hy
  go_enter Tryz.func103, Tryz.ntmps103
  go_wp2_with fail
  refine (hm.out).mono ?_
  rintro e w4 ⟨B4, rfl, g4, hk4, hI4⟩
  have s4 := hk4.size
  try simp only [World.size_alloc] at g4 s4
  have r4 := Hd.mk (r3.out.op hk4 hI4)
  have l4 := r4.out.ilt upd_same
  clear hk4 hI4 r3
  obtain ⟨e4, e4z, e4l⟩ := r4.out.cell (b := (w.heap.size + 1 + 1)) updX_same
  go_wp2
  have r9 := r4.out.store updX_same (put1 (r4.out.bx _ _ _ updX_same) (v' := ptr B4))
  refine bodyPost_ret (v := .agg #[ptr B4]) (by simp [results, Tryz.results103, go_sem, e4, e4z, e4l]) rfl ⟨_, rfl, by omega, r9.fin.1, r9.fin.2.sub fun k z hk => ?_⟩
  rcases upd_cases hk with ⟨rfl, rfl⟩ | ⟨hne, hk⟩
  · repeat first | exact upd_same | rw [upd_ne (by omega)]
  · have hkl := hlo.out.lt hk
    repeat rw [upd_ne (by first | exact hne | ((try simp only [World.size_alloc]); omega))]
    exact hk
set_option maxHeartbeats 2000000 in
theorem dMulTruncate_pan (P : Nat → Prop) (bd be : Nat) (x y : Int) (S : Nat → Option Int) (w : World) (hI : Ints P w S) (hx : S bd = some x) (hy : S be = some y) (hwx : wlen x.natAbs < 12) (hwy : wlen y.natAbs < 12) (hr : inR ((x * y).tdiv E18) = false) :
    Calls Tryz.prog 103 #[.agg #[ptr bd], .agg #[ptr be]] w fun e w' => Pan e ∧ Keep P w w' := by
  have r0 := Hd.mk (Run.start hI)
  have hlo := Hd.mk hI.low
  have hl := hI.lt hx
  have hle := hI.lt hy
  clear hI
  have r1 := Hd.mk (r0.out.box #[ptr bd] 68)
  clear r0
  have r2 := Hd.mk (r1.out.box #[ptr be] 68)
  clear r1
  have r3 := Hd.mk (r2.out.box #[.pointer none] 68)
  clear r2
  simp only [World.size_alloc] at r3
  have hm := Hd.mk (Immut_pan _ bd be 102 x y _ _ r3.out.ints hx hy (by omega) (enters Tryz.func102 (by kernel_rfl) (by kernel_rfl)) (fun Q w1 S1 B h1 h2 h3 h4 => MulTruncateMut_pan Q B be x y S1 w1 h1 h2 h3 hwx hwy hr))
  replace hx := Hd.mk hx
  replace hy := Hd.mk hy
  go_enter Tryz.func103, Tryz.ntmps103
  go_wp2_with fail
  refine hm.out.mono ?_
  rintro e w4 ⟨⟨u4, v4, rfl⟩, hk4⟩
  have hf := Hd.mk (r3.out.keep.trans (hk4.sub fun k hk => .inl hk))
  clear hk4
  first | exact ⟨⟨_, _, rfl⟩, hf.out⟩ | exact ⟨rfl, ⟨_, _, rfl⟩, hf.out⟩ | (go_wp2; exact ⟨rfl, ⟨_, _, rfl⟩, hf.out⟩)
set_option maxHeartbeats 2000000 in
theorem dMulRoundUp_ok (P : Nat → Prop) (bd be : Nat) (x y : Int) (S : Nat → Option Int) (w : World) (hI : Ints P w S) (hx : S bd = some x) (hy : S be = some y) (hwx : wlen x.natAbs < 12) (hwy : wlen y.natAbs < 12) (hr : inR (chopU (x * y)) = true) :
    Calls Tryz.prog 105 #[.agg #[ptr bd], .agg #[ptr be]] w fun e w' => ∃ B, e = .returned (.agg #[ptr B]) ∧ w.heap.size ≤ B ∧ Keep P w w' ∧ Ints P w' (upd S B (chopU (x * y))) := by
  have r0 := Hd.mk (Run.start hI)
  have hlo := Hd.mk hI.low
  have hl := hI.lt hx
  have hle := hI.lt hy
  clear hI
  have r1 := Hd.mk (r0.out.box #[ptr bd] 68)
  clear r0
  have r2 := Hd.mk (r1.out.box #[ptr be] 68)
  clear r1
  have r3 := Hd.mk (r2.out.box #[.pointer none] 68)
  clear r2
  simp only [World.size_alloc] at r3
  have hm := Hd.mk (Immut_ok _ bd be 104 x y (chopU (x * y)) _ _ r3.out.ints hx hy (by omega) (enters Tryz.func104 (by kernel_rfl) (by kernel_rfl)) (fun Q w1 S1 B h1 h2 h3 h4 => MulRoundUpMut_ok Q B be x y S1 w1 h1 h2 h3 hwx hwy hr))
  replace hx := Hd.mk hx
  replace hy := Hd.mk hy
  go_enter Tryz.func105, Tryz.ntmps105
  go_wp2_with fail
  refine (hm.out).mono ?_
  rintro e w4 ⟨B4, rfl, g4, hk4, hI4⟩
  have s4 := hk4.size
  try simp only [World.size_alloc] at g4 s4
  have r4 := Hd.mk (r3.out.op hk4 hI4)
  have l4 := r4.out.ilt upd_same
  clear hk4 hI4 r3
  obtain ⟨e4, e4z, e4l⟩ := r4.out.cell (b := (w.heap.size + 1 + 1)) updX_same
  go_wp2
  have r9 := r4.out.store updX_same (put1 (r4.out.bx _ _ _ updX_same) (v' := ptr B4))
  refine bodyPost_ret (v := .agg #[ptr B4]) (by simp [results, Tryz.results105, go_sem, e4, e4z, e4l]) rfl ⟨_, rfl, by omega, r9.fin.1, r9.fin.2.sub fun k z hk => ?_⟩
  rcases upd_cases hk with ⟨rfl, rfl⟩ | ⟨hne, hk⟩
  · repeat first | exact upd_same | rw [upd_ne (by omega)]
  · have hkl := hlo.out.lt hk
    repeat rw [upd_ne (by first | exact hne | ((try simp only [World.size_alloc]); omega))]
    exact hk
set_option maxHeartbeats 2000000 in
theorem dMulRoundUp_pan (P : Nat → Prop) (bd be : Nat) (x y : Int) (S : Nat → Option Int) (w : World) (hI : Ints P w S) (hx : S bd = some x) (hy : S be = some y) (hwx : wlen x.natAbs < 12) (hwy : wlen y.natAbs < 12) (hr : inR (chopU (x * y)) = false) :
    Calls Tryz.prog 105 #[.agg #[ptr bd], .agg #[ptr be]] w fun e w' => Pan e ∧ Keep P w w' := by
  have r0 := Hd.mk (Run.start hI)
  have hlo := Hd.mk hI.low
  have hl := hI.lt hx
  have hle := hI.lt hy
  clear hI
  have r1 := Hd.mk (r0.out.box #[ptr bd] 68)
  clear r0
  have r2 := Hd.mk (r1.out.box #[ptr be] 68)
  clear r1
  have r3 := Hd.mk (r2.out.box #[.pointer none] 68)
  clear r2
  simp only [World.size_alloc] at r3
  have hm := Hd.mk (Immut_pan _ bd be 104 x y _ _ r3.out.ints hx hy (by omega) (enters Tryz.func104 (by kernel_rfl) (by kernel_rfl)) (fun Q w1 S1 B h1 h2 h3 h4 => MulRoundUpMut_pan Q B be x y S1 w1 h1 h2 h3 hwx hwy hr))
  replace hx := Hd.mk hx
  replace hy := Hd.mk hy
  go_enter Tryz.func105, Tryz.ntmps105
  go_wp2_with fail
  refine hm.out.mono ?_
  rintro e w4 ⟨⟨u4, v4, rfl⟩, hk4⟩
  have hf := Hd.mk (r3.out.keep.trans (hk4.sub fun k hk => .inl hk))
  clear hk4
  first | exact ⟨⟨_, _, rfl⟩, hf.out⟩ | exact ⟨rfl, ⟨_, _, rfl⟩, hf.out⟩ | (go_wp2; exact ⟨rfl, ⟨_, _, rfl⟩, hf.out⟩)
set_option maxHeartbeats 2000000 in
theorem dMax_lt (P : Nat → Prop) (bd be : Nat) (x y : Int) (S : Nat → Option Int) (w : World) (hI : Ints P w S) (hx : S bd = some x) (hy : S be = some y) (hwx : wlen x.natAbs < 100) (hr : x < y) :
    Calls Tryz.prog 112 #[.agg #[ptr bd], .agg #[ptr be]] w fun e w' => e = .returned (.agg #[ptr be]) ∧ Keep P w w' ∧ Ints P w' S := by
  have r0 := Hd.mk (Run.start hI)
  clear hI
  have r1 := Hd.mk (r0.out.box #[ptr bd] 68)
  clear r0
  have r2 := Hd.mk (r1.out.box #[ptr be] 68)
  clear r1
  have r3 := Hd.mk (r2.out.box #[.pointer none] 68)
  clear r2
  simp only [World.size_alloc] at r3
  have hm := Hd.mk (dLT_any _ bd be x y _ _ r3.out.ints hx hy (by omega))
  rw [decide_eq_true hr] at hm
  replace hr := Hd.mk hr
  replace hx := Hd.mk hx
  replace hy := Hd.mk hy
  go_enter Tryz.func112, Tryz.ntmps112
  go_wp2_with fail
  refine (hm.out).mono ?_
  rintro e w4 ⟨rfl, hk4, hI4⟩
  have s4 := hk4.size
  try simp only [World.size_alloc] at s4
  have r4 := Hd.mk (r3.out.op hk4 hI4)
  clear hk4 hI4 r3
  obtain ⟨c4, c4z, c4l⟩ := r4.out.cell (b := w.heap.size) (by rw [updX_ne (by omega), updX_ne (by omega), updX_same])
  obtain ⟨d4, d4z, d4l⟩ := r4.out.cell (b := w.heap.size + 1) (by rw [updX_ne (by omega), updX_same])
  obtain ⟨e4, e4z, e4l⟩ := r4.out.cell (b := (w.heap.size + 1 + 1)) updX_same
  go_wp2
  have r9 := r4.out.store updX_same (put1 (r4.out.bx _ _ _ updX_same) (v' := ptr be))
  exact bodyPost_ret (v := .agg #[ptr be]) (by simp [results, Tryz.results112, go_sem, e4, e4z, e4l]) rfl ⟨rfl, r9.fin.1, r9.fin.2⟩
set_option maxHeartbeats 2000000 in
theorem dMax_ge (P : Nat → Prop) (bd be : Nat) (x y : Int) (S : Nat → Option Int) (w : World) (hI : Ints P w S) (hx : S bd = some x) (hy : S be = some y) (hwx : wlen x.natAbs < 100) (hr : ¬ x < y) :
    Calls Tryz.prog 112 #[.agg #[ptr bd], .agg #[ptr be]] w fun e w' => e = .returned (.agg #[ptr bd]) ∧ Keep P w w' ∧ Ints P w' S := by
  have r0 := Hd.mk (Run.start hI)
  clear hI
  have r1 := Hd.mk (r0.out.box #[ptr bd] 68)
  clear r0
  have r2 := Hd.mk (r1.out.box #[ptr be] 68)
  clear r1
  have r3 := Hd.mk (r2.out.box #[.pointer none] 68)
  clear r2
  simp only [World.size_alloc] at r3
  have hm := Hd.mk (dLT_any _ bd be x y _ _ r3.out.ints hx hy (by omega))
  rw [decide_eq_false hr] at hm
  replace hr := Hd.mk hr
  replace hx := Hd.mk hx
  replace hy := Hd.mk hy
  go_enter Tryz.func112, Tryz.ntmps112
  go_wp2_with fail
  refine (hm.out).mono ?_
  rintro e w4 ⟨rfl, hk4, hI4⟩
  have s4 := hk4.size
  try simp only [World.size_alloc] at s4
  have r4 := Hd.mk (r3.out.op hk4 hI4)
  clear hk4 hI4 r3
  obtain ⟨c4, c4z, c4l⟩ := r4.out.cell (b := w.heap.size) (by rw [updX_ne (by omega), updX_ne (by omega), updX_same])
  obtain ⟨d4, d4z, d4l⟩ := r4.out.cell (b := w.heap.size + 1) (by rw [updX_ne (by omega), updX_same])
  obtain ⟨e4, e4z, e4l⟩ := r4.out.cell (b := (w.heap.size + 1 + 1)) updX_same
  go_wp2
  have r9 := r4.out.store updX_same (put1 (r4.out.bx _ _ _ updX_same) (v' := ptr bd))
  exact bodyPost_ret (v := .agg #[ptr bd]) (by simp [results, Tryz.results112, go_sem, e4, e4z, e4l]) rfl ⟨rfl, r9.fin.1, r9.fin.2⟩
set_option maxHeartbeats 2000000 in
theorem dMin_lt (P : Nat → Prop) (bd be : Nat) (x y : Int) (S : Nat → Option Int) (w : World) (hI : Ints P w S) (hx : S bd = some x) (hy : S be = some y) (hwx : wlen x.natAbs < 100) (hr : x < y) :
    Calls Tryz.prog 113 #[.agg #[ptr bd], .agg #[ptr be]] w fun e w' => e = .returned (.agg #[ptr bd]) ∧ Keep P w w' ∧ Ints P w' S := by
  have r0 := Hd.mk (Run.start hI)
  clear hI
  have r1 := Hd.mk (r0.out.box #[ptr bd] 68)
  clear r0
  have r2 := Hd.mk (r1.out.box #[ptr be] 68)
  clear r1
  have r3 := Hd.mk (r2.out.box #[.pointer none] 68)
  clear r2
  simp only [World.size_alloc] at r3
  have hm := Hd.mk (dLT_any _ bd be x y _ _ r3.out.ints hx hy (by omega))
  rw [decide_eq_true hr] at hm
  replace hr := Hd.mk hr
  replace hx := Hd.mk hx
  replace hy := Hd.mk hy
  go_enter Tryz.func113, Tryz.ntmps113
  go_wp2_with fail
  refine (hm.out).mono ?_
  rintro e w4 ⟨rfl, hk4, hI4⟩
  have s4 := hk4.size
  try simp only [World.size_alloc] at s4
  have r4 := Hd.mk (r3.out.op hk4 hI4)
  clear hk4 hI4 r3
  obtain ⟨c4, c4z, c4l⟩ := r4.out.cell (b := w.heap.size) (by rw [updX_ne (by omega), updX_ne (by omega), updX_same])
  obtain ⟨d4, d4z, d4l⟩ := r4.out.cell (b := w.heap.size + 1) (by rw [updX_ne (by omega), updX_same])
  obtain ⟨e4, e4z, e4l⟩ := r4.out.cell (b := (w.heap.size + 1 + 1)) updX_same
  go_wp2
  have r9 := r4.out.store updX_same (put1 (r4.out.bx _ _ _ updX_same) (v' := ptr bd))
  exact bodyPost_ret (v := .agg #[ptr bd]) (by simp [results, Tryz.results113, go_sem, e4, e4z, e4l]) rfl ⟨rfl, r9.fin.1, r9.fin.2⟩
set_option maxHeartbeats 2000000 in
theorem dMin_ge (P : Nat → Prop) (bd be : Nat) (x y : Int) (S : Nat → Option Int) (w : World) (hI : Ints P w S) (hx : S bd = some x) (hy : S be = some y) (hwx : wlen x.natAbs < 100) (hr : ¬ x < y) :
    Calls Tryz.prog 113 #[.agg #[ptr bd], .agg #[ptr be]] w fun e w' => e = .returned (.agg #[ptr be]) ∧ Keep P w w' ∧ Ints P w' S := by
  have r0 := Hd.mk (Run.start hI)
  clear hI
  have r1 := Hd.mk (r0.out.box #[ptr bd] 68)
  clear r0
  have r2 := Hd.mk (r1.out.box #[ptr be] 68)
  clear r1
  have r3 := Hd.mk (r2.out.box #[.pointer none] 68)
  clear r2
  simp only [World.size_alloc] at r3
  have hm := Hd.mk (dLT_any _ bd be x y _ _ r3.out.ints hx hy (by omega))
  rw [decide_eq_false hr] at hm
  replace hr := Hd.mk hr
  replace hx := Hd.mk hx
  replace hy := Hd.mk hy
  go_enter Tryz.func113, Tryz.ntmps113
  go_wp2_with fail
  refine (hm.out).mono ?_
  rintro e w4 ⟨rfl, hk4, hI4⟩
  have s4 := hk4.size
  try simp only [World.size_alloc] at s4
  have r4 := Hd.mk (r3.out.op hk4 hI4)
  clear hk4 hI4 r3
  obtain ⟨c4, c4z, c4l⟩ := r4.out.cell (b := w.heap.size) (by rw [updX_ne (by omega), updX_ne (by omega), updX_same])
  obtain ⟨d4, d4z, d4l⟩ := r4.out.cell (b := w.heap.size + 1) (by rw [updX_ne (by omega), updX_same])
  obtain ⟨e4, e4z, e4l⟩ := r4.out.cell (b := (w.heap.size + 1 + 1)) updX_same
  go_wp2
  have r9 := r4.out.store updX_same (put1 (r4.out.bx _ _ _ updX_same) (v' := ptr be))
  exact bodyPost_ret (v := .agg #[ptr be]) (by simp [results, Tryz.results113, go_sem, e4, e4z, e4l]) rfl ⟨rfl, r9.fin.1, r9.fin.2⟩
/-- The result of an operation that divides by no decimal. -/
def opz (k : Nat) (x y : Int) : Int := if k = 0 then x + y else if k = 1 then x - y else if k = 2 then chopR (x * y) else if k = 3 then (x * y).tdiv E18 else if k = 4 then chopU (x * y) else if k = 8 then (if x < y then y else x) else (if x < y then x else y)
theorem opAdd_ok {x y : Int} (hx : inR x = true) (hy : inR y = true) (hz : inR (x + y) = true) (m : Bool) : OpC 0 m x y (x + y) := by
  have wx := inR_wl hx
  have wy := inR_wl hy
  intro Q BA BB S w1 hI h1 h2 hne
  have lA := hI.lt h1
  have lB := hI.lt h2
  cases m
  · refine (show Calls Tryz.prog 97 _ w1 _ from (dAdd_ok Q BA BB x y S w1 hI h1 h2 (by omega) (by omega) hz).mono ?_)
    rintro e w' ⟨B, rfl, hB, hk, hI'⟩
    exact ⟨B, _, rfl, hk, hI', upd_same, by rw [upd_ne (by omega)]; exact h2, by rw [upd_ne (by omega)]; exact h1⟩
  · refine (show Calls Tryz.prog 96 _ w1 _ from (AddMut_ok Q BA BB x y S w1 hI h1 h2 (by omega) (by omega) hz).mono ?_)
    rintro e w' ⟨rfl, hk, hI'⟩
    exact ⟨BA, _, rfl, hk, hI', upd_same, by rw [upd_ne (fun e => hne e.symm)]; exact h2, upd_same⟩
theorem opAdd_pan {x y : Int} (hx : inR x = true) (hy : inR y = true) (hz : inR (x + y) = false) (m : Bool) : OpP 0 m x y := by
  have wx := inR_wl hx
  have wy := inR_wl hy
  intro Q BA BB S w1 hI h1 h2 hne
  cases m
  · exact (show Calls Tryz.prog 97 _ w1 _ from dAdd_pan Q BA BB x y S w1 hI h1 h2 (by omega) (by omega) hz)
  · exact (show Calls Tryz.prog 96 _ w1 _ from AddMut_pan Q BA BB x y S w1 hI h1 h2 (by omega) (by omega) hz)
theorem opSub_ok {x y : Int} (hx : inR x = true) (hy : inR y = true) (hz : inR (x - y) = true) (m : Bool) : OpC 1 m x y (x - y) := by
  have wx := inR_wl hx
  have wy := inR_wl hy
  intro Q BA BB S w1 hI h1 h2 hne
  have lA := hI.lt h1
  have lB := hI.lt h2
  cases m
  · refine (show Calls Tryz.prog 99 _ w1 _ from (dSub_ok Q BA BB x y S w1 hI h1 h2 (by omega) (by omega) hz).mono ?_)
    rintro e w' ⟨B, rfl, hB, hk, hI'⟩
    exact ⟨B, _, rfl, hk, hI', upd_same, by rw [upd_ne (by omega)]; exact h2, by rw [upd_ne (by omega)]; exact h1⟩
  · refine (show Calls Tryz.prog 98 _ w1 _ from (SubMut_ok Q BA BB x y S w1 hI h1 h2 (by omega) (by omega) hz).mono ?_)
    rintro e w' ⟨rfl, hk, hI'⟩
    exact ⟨BA, _, rfl, hk, hI', upd_same, by rw [upd_ne (fun e => hne e.symm)]; exact h2, upd_same⟩
theorem opSub_pan {x y : Int} (hx : inR x = true) (hy : inR y = true) (hz : inR (x - y) = false) (m : Bool) : OpP 1 m x y := by
  have wx := inR_wl hx
  have wy := inR_wl hy
  intro Q BA BB S w1 hI h1 h2 hne
  cases m
  · exact (show Calls Tryz.prog 99 _ w1 _ from dSub_pan Q BA BB x y S w1 hI h1 h2 (by omega) (by omega) hz)
  · exact (show Calls Tryz.prog 98 _ w1 _ from SubMut_pan Q BA BB x y S w1 hI h1 h2 (by omega) (by omega) hz)
theorem opMul_ok {x y : Int} (hx : inR x = true) (hy : inR y = true) (hz : inR (chopR (x * y)) = true) (m : Bool) : OpC 2 m x y (chopR (x * y)) := by
  have wx := inR_wl hx
  have wy := inR_wl hy
  intro Q BA BB S w1 hI h1 h2 hne
  have lA := hI.lt h1
  have lB := hI.lt h2
  cases m
  · refine (show Calls Tryz.prog 101 _ w1 _ from (dMul_ok Q BA BB x y S w1 hI h1 h2 (by omega) (by omega) hz).mono ?_)
    rintro e w' ⟨B, rfl, hB, hk, hI'⟩
    exact ⟨B, _, rfl, hk, hI', upd_same, by rw [upd_ne (by omega)]; exact h2, by rw [upd_ne (by omega)]; exact h1⟩
  · refine (show Calls Tryz.prog 100 _ w1 _ from (MulMut_ok Q BA BB x y S w1 hI h1 h2 (by omega) (by omega) hz).mono ?_)
    rintro e w' ⟨rfl, hk, hI'⟩
    exact ⟨BA, _, rfl, hk, hI', upd_same, by rw [upd_ne (fun e => hne e.symm)]; exact h2, upd_same⟩
theorem opMul_pan {x y : Int} (hx : inR x = true) (hy : inR y = true) (hz : inR (chopR (x * y)) = false) (m : Bool) : OpP 2 m x y := by
  have wx := inR_wl hx
  have wy := inR_wl hy
  intro Q BA BB S w1 hI h1 h2 hne
  cases m
  · exact (show Calls Tryz.prog 101 _ w1 _ from dMul_pan Q BA BB x y S w1 hI h1 h2 (by omega) (by omega) hz)
  · exact (show Calls Tryz.prog 100 _ w1 _ from MulMut_pan Q BA BB x y S w1 hI h1 h2 (by omega) (by omega) hz)
theorem opMulTruncate_ok {x y : Int} (hx : inR x = true) (hy : inR y = true) (hz : inR ((x * y).tdiv E18) = true) (m : Bool) : OpC 3 m x y ((x * y).tdiv E18) := by
  have wx := inR_wl hx
  have wy := inR_wl hy
  intro Q BA BB S w1 hI h1 h2 hne
  have lA := hI.lt h1
  have lB := hI.lt h2
  cases m
  · refine (show Calls Tryz.prog 103 _ w1 _ from (dMulTruncate_ok Q BA BB x y S w1 hI h1 h2 (by omega) (by omega) hz).mono ?_)
    rintro e w' ⟨B, rfl, hB, hk, hI'⟩
    exact ⟨B, _, rfl, hk, hI', upd_same, by rw [upd_ne (by omega)]; exact h2, by rw [upd_ne (by omega)]; exact h1⟩
  · refine (show Calls Tryz.prog 102 _ w1 _ from (MulTruncateMut_ok Q BA BB x y S w1 hI h1 h2 (by omega) (by omega) hz).mono ?_)
    rintro e w' ⟨rfl, hk, hI'⟩
    exact ⟨BA, _, rfl, hk, hI', upd_same, by rw [upd_ne (fun e => hne e.symm)]; exact h2, upd_same⟩
theorem opMulTruncate_pan {x y : Int} (hx : inR x = true) (hy : inR y = true) (hz : inR ((x * y).tdiv E18) = false) (m : Bool) : OpP 3 m x y := by
  have wx := inR_wl hx
  have wy := inR_wl hy
  intro Q BA BB S w1 hI h1 h2 hne
  cases m
  · exact (show Calls Tryz.prog 103 _ w1 _ from dMulTruncate_pan Q BA BB x y S w1 hI h1 h2 (by omega) (by omega) hz)
  · exact (show Calls Tryz.prog 102 _ w1 _ from MulTruncateMut_pan Q BA BB x y S w1 hI h1 h2 (by omega) (by omega) hz)
theorem opMulRoundUp_ok {x y : Int} (hx : inR x = true) (hy : inR y = true) (hz : inR (chopU (x * y)) = true) (m : Bool) : OpC 4 m x y (chopU (x * y)) := by
  have wx := inR_wl hx
  have wy := inR_wl hy
  intro Q BA BB S w1 hI h1 h2 hne
  have lA := hI.lt h1
  have lB := hI.lt h2
  cases m
  · refine (show Calls Tryz.prog 105 _ w1 _ from (dMulRoundUp_ok Q BA BB x y S w1 hI h1 h2 (by omega) (by omega) hz).mono ?_)
    rintro e w' ⟨B, rfl, hB, hk, hI'⟩
    exact ⟨B, _, rfl, hk, hI', upd_same, by rw [upd_ne (by omega)]; exact h2, by rw [upd_ne (by omega)]; exact h1⟩
  · refine (show Calls Tryz.prog 104 _ w1 _ from (MulRoundUpMut_ok Q BA BB x y S w1 hI h1 h2 (by omega) (by omega) hz).mono ?_)
    rintro e w' ⟨rfl, hk, hI'⟩
    exact ⟨BA, _, rfl, hk, hI', upd_same, by rw [upd_ne (fun e => hne e.symm)]; exact h2, upd_same⟩
theorem opMulRoundUp_pan {x y : Int} (hx : inR x = true) (hy : inR y = true) (hz : inR (chopU (x * y)) = false) (m : Bool) : OpP 4 m x y := by
  have wx := inR_wl hx
  have wy := inR_wl hy
  intro Q BA BB S w1 hI h1 h2 hne
  cases m
  · exact (show Calls Tryz.prog 105 _ w1 _ from dMulRoundUp_pan Q BA BB x y S w1 hI h1 h2 (by omega) (by omega) hz)
  · exact (show Calls Tryz.prog 104 _ w1 _ from MulRoundUpMut_pan Q BA BB x y S w1 hI h1 h2 (by omega) (by omega) hz)
theorem opMax_ok {x y : Int} (hx : inR x = true) (m : Bool) : OpC 8 m x y (if x < y then y else x) := by
  have wx := inR_wl hx
  intro Q BA BB S w1 hI h1 h2 hne
  have hkk : (m && decide ((8 : Int) < 8)) = false := by cases m <;> rfl
  by_cases hr : x < y
  · rw [if_pos hr]
    have h := (dMax_lt Q BA BB x y S w1 hI h1 h2 (by omega) hr).mono (R' := fun e w' => ∃ B9 S', e = .returned (.agg #[ptr B9]) ∧ Keep Q w1 w' ∧ Ints Q w' S' ∧ S' B9 = some y ∧ S' BB = some y ∧ S' BA = some (if (m && decide (((8 : Nat) : Int) < 8)) = true then y else x)) (fun e w' ⟨he, hk, hI'⟩ => ⟨_, S, he, hk, hI', h2, h2, by rw [if_neg (by rw [show (m && decide (((8 : Nat) : Int) < 8)) = false from hkk]; simp)]; exact h1⟩)
    cases m
    · exact h
    · exact h
  · rw [if_neg hr]
    have h := (dMax_ge Q BA BB x y S w1 hI h1 h2 (by omega) hr).mono (R' := fun e w' => ∃ B9 S', e = .returned (.agg #[ptr B9]) ∧ Keep Q w1 w' ∧ Ints Q w' S' ∧ S' B9 = some x ∧ S' BB = some y ∧ S' BA = some (if (m && decide (((8 : Nat) : Int) < 8)) = true then x else x)) (fun e w' ⟨he, hk, hI'⟩ => ⟨_, S, he, hk, hI', h1, h2, by rw [if_neg (by rw [show (m && decide (((8 : Nat) : Int) < 8)) = false from hkk]; simp)]; exact h1⟩)
    cases m
    · exact h
    · exact h
theorem opMin_ok {x y : Int} (hx : inR x = true) (m : Bool) : OpC 9 m x y (if x < y then x else y) := by
  have wx := inR_wl hx
  intro Q BA BB S w1 hI h1 h2 hne
  have hkk : (m && decide ((9 : Int) < 8)) = false := by cases m <;> rfl
  by_cases hr : x < y
  · rw [if_pos hr]
    have h := (dMin_lt Q BA BB x y S w1 hI h1 h2 (by omega) hr).mono (R' := fun e w' => ∃ B9 S', e = .returned (.agg #[ptr B9]) ∧ Keep Q w1 w' ∧ Ints Q w' S' ∧ S' B9 = some x ∧ S' BB = some y ∧ S' BA = some (if (m && decide (((9 : Nat) : Int) < 8)) = true then x else x)) (fun e w' ⟨he, hk, hI'⟩ => ⟨_, S, he, hk, hI', h1, h2, by rw [if_neg (by rw [show (m && decide (((9 : Nat) : Int) < 8)) = false from hkk]; simp)]; exact h1⟩)
    cases m
    · exact h
    · exact h
  · rw [if_neg hr]
    have h := (dMin_ge Q BA BB x y S w1 hI h1 h2 (by omega) hr).mono (R' := fun e w' => ∃ B9 S', e = .returned (.agg #[ptr B9]) ∧ Keep Q w1 w' ∧ Ints Q w' S' ∧ S' B9 = some y ∧ S' BB = some y ∧ S' BA = some (if (m && decide (((9 : Nat) : Int) < 8)) = true then y else x)) (fun e w' ⟨he, hk, hI'⟩ => ⟨_, S, he, hk, hI', h2, h2, by rw [if_neg (by rw [show (m && decide (((9 : Nat) : Int) < 8)) = false from hkk]; simp)]; exact h1⟩)
    cases m
    · exact h
    · exact h
end Go.Proofs.YtdbjdpooggaonaaGreatDoor
end

section
namespace Go.Proofs.YtdbjdpooggaonaaGreatDoor
theorem updC_off {C : Nat → Option (List Value)} {b k : Nat} {vs : List Value} (h : k ≠ b) : updC C b vs k = C k := if_neg h
end Go.Proofs.YtdbjdpooggaonaaGreatDoor
end
