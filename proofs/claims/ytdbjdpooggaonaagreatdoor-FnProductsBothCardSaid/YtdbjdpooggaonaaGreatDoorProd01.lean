/- A decimal times a whole number. The thin package: a decimal and a whole number: the function by its closure. The thin package: a decimal times a whole number. Conditions: those that each theorem states. -/
import Derived.Test.YtdbjdpooggaonaaGreatDoorBase29
import Derived.Test.YtdbjdpooggaonaaGreatDoorBase28
import Derived.Test.YtdbjdpooggaonaaGreatDoorBase25
import Derived.Test.YtdbjdpooggaonaaGreatDoorBase27
set_option linter.all false

section
namespace Go.Proofs.YtdbjdpooggaonaaGreatDoor
open Go.RowKit
set_option maxRecDepth 100000
set_option maxHeartbeats 2000000 in
theorem ImmutI_ok (P : Nat → Prop) (bd be f : Nat) (x y v : Int) (S : Nat → Option Int) (w : World) (hI : Ints P w S) (hx : S bd = some x) (hy : S be = some y) (hwx : wlen x.natAbs < 800) (hcf : ∀ args w, (callFunc f args).run Tryz.prog w = .ok (.enter f args) w)
    (hop : ∀ Q w1 S1 B, Ints Q w1 S1 → S1 B = some x → S1 be = some y → B ≠ be → Calls Tryz.prog f #[.agg #[ptr B], .agg #[ptr be]] w1 fun e w' => e = .returned (.agg #[ptr B]) ∧ Keep Q w1 w' ∧ Ints Q w' (upd S1 B v)) :
    Calls Tryz.prog 192 #[.agg #[ptr bd], fnv f, .agg #[ptr be]] w fun e w' => ∃ B, e = .returned (.agg #[ptr B]) ∧ w.heap.size ≤ B ∧ Keep P w w' ∧ Ints P w' (upd S B v) := by
  have r0 := Hd.mk (Run.start hI)
  have hlo := Hd.mk hI.low
  have hl := hI.lt hx
  have hle := hI.lt hy
  clear hI
  have r1 := Hd.mk (r0.out.box #[ptr bd] 68)
  clear r0
  have r2 := Hd.mk (r1.out.box #[ptr be] 65)
  clear r1
  have r3 := Hd.mk (r2.out.box #[.pointer none] 68)
  clear r2
  simp only [World.size_alloc] at r3
  replace hop := Hd.mk hop
  have hxk := Hd.mk hx
  have hyk := Hd.mk hy
  clear hx hy
  go_enter Tryz.func192, Tryz.ntmps192
  go_wp2
  go_region_law (first | (go_simp; go_at_call 223; refine (dClone_any _ bd x _ _ r3.out.drew.ints hxk.out hwx).mono ?_; rintro e w4 ⟨B4, rfl, g4, hk4, hI4⟩; change (((w.alloc _).alloc _).alloc _).heap.size ≤ B4 at g4; simp only [World.size_alloc] at g4; have r4 := Hd.mk (r3.out.drew.op hk4 hI4); have l4 := r4.out.ilt upd_same; obtain ⟨c4, c4z, c4l⟩ := r4.out.cell (b := w.heap.size) (by rw [updX_ne (by omega), updX_ne (by omega), updX_same]); obtain ⟨d4, d4z, d4l⟩ := r4.out.cell (b := w.heap.size + 1) (by rw [updX_ne (by omega), updX_same]); clear hk4 hI4) | (go_simp; refine (hop.out _ w4 _ B4 r4.out.ints upd_same (by rw [upd_ne (by omega)]; exact hyk.out) (by omega)).mono ?_; rintro e w5 ⟨rfl, hk5, hI5⟩; have r5 := Hd.mk (r4.out.op hk5 hI5); obtain ⟨e5, e5z, e5l⟩ := r5.out.cell (b := w.heap.size + 1 + 1) updX_same; clear hk5 hI5))
  all_goals
    go_wp2
    have r6 := r5.out.store updX_same (put1 (r5.out.bx _ _ _ updX_same) (v' := ptr B4))
    refine bodyPost_ret (v := .agg #[ptr B4]) (by simp [results, Tryz.results192, go_sem, e5, e5z, e5l]) rfl ⟨_, rfl, by omega, r6.fin.1, r6.fin.2.sub fun k z hk => ?_⟩
    rcases upd_cases hk with ⟨rfl, rfl⟩ | ⟨hne, hk⟩
    · repeat first | exact upd_same | rw [upd_ne (by omega)]
    · have hkl := hlo.out.lt hk
      repeat rw [upd_ne (by first | exact hne | ((try simp only [World.size_alloc]); omega))]
      exact hk
set_option maxHeartbeats 4000000 in
theorem MulIntMut_ok (P : Nat → Prop) (bd be : Nat) (x y : Int) (S : Nat → Option Int) (w : World) (hI : Ints P w S) (hx : S bd = some x) (hy : S be = some y) (hwx : wlen x.natAbs < 12) (hwy : wlen y.natAbs < 12) (hr : inR (x * y) = true) :
    Calls Tryz.prog 116 #[.agg #[ptr bd], .agg #[ptr be]] w fun e w' => e = .returned (.agg #[ptr bd]) ∧ Keep P w w' ∧ Ints P w' (upd S bd (x * y)) := by
  have r0 := Hd.mk (Run.start hI)
  have hlo := Hd.mk hI.low
  have hl := hI.lt hx
  have hle := hI.lt hy
  clear hI
  have r1 := Hd.mk (r0.out.box #[ptr bd] 68)
  clear r0
  have r2 := Hd.mk (r1.out.box #[ptr be] 65)
  clear r1
  have r3 := Hd.mk (r2.out.box #[.pointer none] 68)
  clear r2
  simp only [World.size_alloc] at r3
  have hbm := Hd.mk fun (Q : Nat → Prop) S1 w1 (h : Ints Q w1 S1) (h1 : S1 be = some y) => BigIntMut_any Q be y S1 w1 h h1
  have hm := Hd.mk fun (Q : Nat → Prop) S1 w1 (h : Ints Q w1 S1) (h1 : S1 bd = some x) (h2 : S1 be = some y) => IMul_any Q bd bd be x x y S1 w1 h h1 h1 h2 (by omega) (by omega) (fun _ => hwx)
  have hwm := wl_mul hwx hwy
  replace hx := Hd.mk hx
  replace hy := Hd.mk hy
  generalize x * y = z at *
  go_enter Tryz.func116, Tryz.ntmps116
  go_upto_region 1 with fail
  obtain ⟨c3, c3z, c3l⟩ := r3.out.drew.cell (b := w.heap.size) (by rw [updX_ne (by omega), updX_ne (by omega), updX_same])
  obtain ⟨d3, d3z, d3l⟩ := r3.out.drew.cell (b := w.heap.size + 1) (by rw [updX_ne (by omega), updX_same])
  go_region_held3 (fun wx => wx.cell? ⟨w.heap.size, 0, none⟩ = some (ptr bd) ∧ wx.cell? ⟨w.heap.size + 1, 0, none⟩ = some (ptr be)) (first | with_reducible exact ⟨c3, d3⟩ | with_reducible exact ⟨c4, d4⟩ | with_reducible exact ⟨c5, d5⟩) (first
    | (go_at_call 162; refine (hbm.out _ _ _ r3.out.drew.ints hy.out).mono ?_; rintro e w4 ⟨rfl, hk4, hI4⟩; have r4 := Hd.mk (r3.out.drew.op hk4 hI4); clear hk4 hI4; obtain ⟨c4, c4z, c4l⟩ := r4.out.cell (b := w.heap.size) (by rw [updX_ne (by omega), updX_ne (by omega), updX_same]); obtain ⟨d4, d4z, d4l⟩ := r4.out.cell (b := w.heap.size + 1) (by rw [updX_ne (by omega), updX_same]))
    | (go_at_call 160; refine (hm.out _ _ _ r4.out.ints hx.out hy.out).mono ?_; rintro e w5 ⟨rfl, hk5, hI5⟩; have r5 := Hd.mk (r4.out.op hk5 hI5); clear hk5 hI5; obtain ⟨c5, c5z, c5l⟩ := r5.out.cell (b := w.heap.size) (by rw [updX_ne (by omega), updX_ne (by omega), updX_same]); obtain ⟨d5, d5z, d5l⟩ := r5.out.cell (b := w.heap.size + 1) (by rw [updX_ne (by omega), updX_same])))
  all_goals
    have ha := Hd.mk (assertIn_any _ bd z _ w5 r5.out.ints upd_same (by omega) hr)
    go_wp2_with (go_at_call 182; refine ha.out.mono ?_; rintro e w6 ⟨rfl, hk6, hI6⟩; have r6 := Hd.mk (r5.out.op hk6 hI6); clear hk6 hI6; obtain ⟨c6, c6z, c6l⟩ := r6.out.cell (b := w.heap.size) (by rw [updX_ne (by omega), updX_ne (by omega), updX_same]); obtain ⟨e6, e6z, e6l⟩ := r6.out.cell (b := w.heap.size + 1 + 1) updX_same)
    have r9 := r6.out.store updX_same (put1 (r6.out.bx _ _ _ updX_same) (v' := ptr bd))
    refine bodyPost_ret (v := .agg #[ptr bd]) (by simp [results, Tryz.results116, go_sem, e6, e6z, e6l]) rfl ⟨rfl, r9.fin.1, r9.fin.2⟩
set_option maxHeartbeats 2000000 in
theorem MulInt_ok (P : Nat → Prop) (bd be : Nat) (x y : Int) (S : Nat → Option Int) (w : World) (hI : Ints P w S) (hx : S bd = some x) (hy : S be = some y) (hwx : wlen x.natAbs < 12) (hwy : wlen y.natAbs < 12) (hr : inR (x * y) = true) :
    Calls Tryz.prog 117 #[.agg #[ptr bd], .agg #[ptr be]] w fun e w' => ∃ B, e = .returned (.agg #[ptr B]) ∧ w.heap.size ≤ B ∧ Keep P w w' ∧ Ints P w' (upd S B (x * y)) := by
  have r0 := Hd.mk (Run.start hI)
  have hlo := Hd.mk hI.low
  have hl := hI.lt hx
  have hle := hI.lt hy
  clear hI
  have r1 := Hd.mk (r0.out.box #[ptr bd] 68)
  clear r0
  have r2 := Hd.mk (r1.out.box #[ptr be] 65)
  clear r1
  have r3 := Hd.mk (r2.out.box #[.pointer none] 68)
  clear r2
  simp only [World.size_alloc] at r3
  have hm := Hd.mk (ImmutI_ok _ bd be 116 x y (x * y) _ _ r3.out.ints hx hy (by omega) (enters Tryz.func116 (by kernel_rfl) (by kernel_rfl)) (fun Q w1 S1 B h1 h2 h3 h4 => MulIntMut_ok Q B be x y S1 w1 h1 h2 h3 hwx hwy hr))
  generalize x * y = z at *
  replace hx := Hd.mk hx
  replace hy := Hd.mk hy
  go_enter Tryz.func117, Tryz.ntmps117
  go_wp2_with fail
  refine (hm.out).mono ?_
  rintro e w4 ⟨B4, rfl, g4, hk4, hI4⟩
  have s4 := hk4.size
  try simp only [World.size_alloc] at g4 s4
  have r4 := Hd.mk (r3.out.op hk4 hI4)
  have l4 := r4.out.ilt upd_same
  clear hk4 hI4 r3
  obtain ⟨e4, e4z, e4l⟩ := r4.out.cell (b := (w.heap.size + 1 + 1)) updX_same
  go_wp2
  have r9 := r4.out.store updX_same (put1 (r4.out.bx _ _ _ updX_same) (v' := ptr B4))
  refine bodyPost_ret (v := .agg #[ptr B4]) (by simp [results, Tryz.results117, go_sem, e4, e4z, e4l]) rfl ⟨_, rfl, by omega, r9.fin.1, r9.fin.2.sub fun k z hk => ?_⟩
  rcases upd_cases hk with ⟨rfl, rfl⟩ | ⟨hne, hk⟩
  · repeat first | exact upd_same | rw [upd_ne (by omega)]
  · have hkl := hlo.out.lt hk
    repeat rw [upd_ne (by first | exact hne | ((try simp only [World.size_alloc]); omega))]
    exact hk
end Go.Proofs.YtdbjdpooggaonaaGreatDoor
end

section
namespace Go.Proofs.YtdbjdpooggaonaaGreatDoor
open Go.RowKit
set_option maxRecDepth 100000
/-- The boxes of impl.DecIntOp. -/
abbrev dioW (w : World) (k : Int) (a : ByteArray) (n : ByteArray) (m : Bool) : World := (((((w.alloc (.cells #[.int .i64 k] 3)).alloc (.cells #[.string a] 9)).alloc (.cells #[.string n] 9)).alloc (.cells #[.bool m] 4)).alloc (.cells #[.string (ByteArray.mk #[])] 9))
theorem dioW_size (w : World) (k : Int) (a : ByteArray) (n : ByteArray) (m : Bool) : (dioW w k a n m).heap.size = w.heap.size + 5 := by simp only [World.size_alloc]
theorem dioW_below (w : World) (k : Int) (a : ByteArray) (n : ByteArray) (m : Bool) : Below w.heap.size w (dioW w k a n m) :=
  ((((((Below.refl _ _).alloc (Nat.le_refl _) _).alloc (by simp only [World.size_alloc]; omega) _).alloc (by simp only [World.size_alloc]; omega) _).alloc (by simp only [World.size_alloc]; omega) _).alloc (by simp only [World.size_alloc]; omega) _)
theorem dioW_blk (w : World) (k : Int) (a : ByteArray) (n : ByteArray) (m : Bool) : Blk (dioW w k a n m) w.heap.size 3 [.int .i64 k] ∧ Blk (dioW w k a n m) (w.heap.size + 1) 9 [.string a] ∧ Blk (dioW w k a n m) (w.heap.size + 2) 9 [.string n] ∧ Blk (dioW w k a n m) (w.heap.size + 3) 4 [.bool m] ∧ Blk (dioW w k a n m) (w.heap.size + 4) 9 [.string (ByteArray.mk #[])] := by
  have h1 := Blk.new w #[.int .i64 k] 3
  have h2 := Blk.new (w.alloc (.cells #[.int .i64 k] 3)) #[.string a] 9
  have h3 := Blk.new ((w.alloc (.cells #[.int .i64 k] 3)).alloc (.cells #[.string a] 9)) #[.string n] 9
  have h4 := Blk.new (((w.alloc (.cells #[.int .i64 k] 3)).alloc (.cells #[.string a] 9)).alloc (.cells #[.string n] 9)) #[.bool m] 4
  have h5 := Blk.new ((((w.alloc (.cells #[.int .i64 k] 3)).alloc (.cells #[.string a] 9)).alloc (.cells #[.string n] 9)).alloc (.cells #[.bool m] 4)) #[.string (ByteArray.mk #[])] 9
  simp only [World.size_alloc] at h1 h2 h3 h4 h5
  exact ⟨((((h1.alloc _).alloc _).alloc _).alloc _), (((h2.alloc _).alloc _).alloc _), ((h3.alloc _).alloc _), (h4.alloc _), h5⟩
/-- What the closure of impl.DecIntOp is asked. -/
def dioCl (k : Int) (a : ByteArray) (n : ByteArray) (m : Bool) (R : Ending → World → Nat → Prop) : Prop := ∀ bk ba bn bm bu w, Ok w → Er w → Blk w bk 3 [.int .i64 k] → Blk w ba 9 [.string a] → Blk w bn 9 [.string n] → Blk w bm 4 [.bool m] → Blk w bu 9 [.string (ByteArray.mk #[])] →
  (bk ≠ bu ∧ ba ≠ bu ∧ bn ≠ bu ∧ bm ≠ bu) → 16 ≤ bu →
  Calls Tryz.prog 115 #[ptr ba, ptr bk, ptr bm, ptr bn, ptr bu] w fun e w' => Keep (fun k => k < w.heap.size ∧ k ≠ bu) w w' ∧ R e w' bu
set_option maxHeartbeats 2000000 in
theorem dio_ok (k : Int) (a : ByteArray) (n : ByteArray) (m : Bool) (z : ByteArray) (w : World) (hok : Ok w) (her : Er w) (hcl : dioCl k a n m fun e w' bu => e = .returned (.tuple #[]) ∧ Blk w' bu 9 [.string z]) :
    Calls Tryz.prog 30 #[.int .i64 k, .string a, .string n, .bool m] w fun e w' => e = .returned (.tuple #[.string z, .bool true]) ∧ Below w.heap.size w w' := by
  obtain ⟨h1, h2, h3, h4, h5⟩ := dioW_blk w k a n m
  have hb1 := dioW_below w k a n m
  have hs1 := dioW_size w k a n m
  have h100 := hok.2
  generalize hW : dioW w k a n m = w1 at *
  have hb2 : Below w1.heap.size w1 (okW w1) := (Below.refl _ _).alloc (Nat.le_refl _) _
  have hb3 := hb1.trans (hb2.mono hb1.size)
  have hs2 : (okW w1).heap.size = w1.heap.size + 1 := World.size_alloc _ _
  have hc := hcl w.heap.size (w.heap.size + 1) (w.heap.size + 2) (w.heap.size + 3) (w.heap.size + 4) (okW w1) (hok.below hb3) (her.below hb3) (h1.alloc _) (h2.alloc _) (h3.alloc _) (h4.alloc _) (h5.alloc _) (by omega) (by omega)
  have hsf := Hd.mk (safe_ok 115 _ w1 (fun w2 => Keep (fun k => k < (okW w1).heap.size ∧ k ≠ (w.heap.size + 4)) (okW w1) w2 ∧ Blk w2 (w.heap.size + 4) 9 [.string z]) (enters Tryz.func115 (by kernel_rfl) (by kernel_rfl)) (hc.mono fun e w2 ⟨q1, q2, q3⟩ => ⟨q2, q1.block _ ⟨by omega, by omega⟩ (by omega), q1, q3⟩))
  have hfin : Hd (∀ w2 w3, Keep (fun k => k < (okW w1).heap.size ∧ k ≠ (w.heap.size + 4)) (okW w1) w2 → Put w2 w3 w1.heap.size 4 [.bool true] → Below w.heap.size w w3) := ⟨fun w2 w3 q1 q2 => q2.bel (hb3.trans ⟨q1.os, q1.tape, q1.output, q1.size, fun k hk => q1.block k ⟨Nat.lt_of_lt_of_le hk hb3.size, by omega⟩ (Nat.lt_of_lt_of_le hk hb3.size)⟩) hb1.size⟩
  have hmf : ∀ (fn : Fn) (first cap : Array Value) (w : World), (Instr.makeFunc fn first cap).run Tryz.prog w = .ok (.func fn first cap) w := fun _ _ _ _ => rfl
  have hne : w.heap.size + 4 ≠ w1.heap.size := by omega
  clear hcl hc h1 h2 h3 h4 h5 hb1 hb2 hb3 hok her
  go_enter Tryz.func30, Tryz.ntmps30
  go_wp2_with fail
  refine hsf.out.mono ?_
  rintro e w3 ⟨rfl, w2, ⟨hc2, hu2⟩, hp3⟩
  have hb3 := Hd.mk (hfin.out w2 w3 hc2 hp3)
  have hu3 := hp3.blk hu2 hne
  have cu : w3.cell? ⟨w.heap.size + 1 + 1 + 1 + 1, 0, none⟩ = some (.string z) := hu3.cell 0
  have zu : w3.frozen? ⟨w.heap.size + 1 + 1 + 1 + 1, 0, none⟩ = false := hu3.frozen 0
  have lu : w.heap.size + 1 + 1 + 1 + 1 < w3.heap.size := hu3.lt
  clear hu3 hu2 hc2 hp3 hsf hfin
  go_wp2
  refine bodyPost_ret (v := .tuple #[.string z, .bool true]) (by simp [results, Tryz.results30, go_sem, cu, zu, lu]) rfl ⟨rfl, ?_⟩
  (repeat first | exact hb3.out | refine Below.setCell ?_ (by dsimp only; omega) _)
set_option maxHeartbeats 2000000 in
theorem dio_pan (k : Int) (a : ByteArray) (n : ByteArray) (m : Bool) (w : World) (hok : Ok w) (her : Er w) (hcl : dioCl k a n m fun e w' bu => Pan e ∧ ∃ z, Blk w' bu 9 [.string z]) :
    Calls Tryz.prog 30 #[.int .i64 k, .string a, .string n, .bool m] w fun e w' => e = .returned (.tuple #[.string (ByteArray.mk #[]), .bool false]) ∧ Below w.heap.size w w' := by
  obtain ⟨h1, h2, h3, h4, h5⟩ := dioW_blk w k a n m
  have hb1 := dioW_below w k a n m
  have hs1 := dioW_size w k a n m
  have h100 := hok.2
  generalize hW : dioW w k a n m = w1 at *
  have hb2 : Below w1.heap.size w1 (okW w1) := (Below.refl _ _).alloc (Nat.le_refl _) _
  have hb3 := hb1.trans (hb2.mono hb1.size)
  have hs2 : (okW w1).heap.size = w1.heap.size + 1 := World.size_alloc _ _
  have hc := hcl w.heap.size (w.heap.size + 1) (w.heap.size + 2) (w.heap.size + 3) (w.heap.size + 4) (okW w1) (hok.below hb3) (her.below hb3) (h1.alloc _) (h2.alloc _) (h3.alloc _) (h4.alloc _) (h5.alloc _) (by omega) (by omega)
  have hsf := Hd.mk (safe_pan 115 _ w1 (fun w2 => Keep (fun k => k < (okW w1).heap.size ∧ k ≠ (w.heap.size + 4)) (okW w1) w2 ∧ ∃ z, Blk w2 (w.heap.size + 4) 9 [.string z]) (enters Tryz.func115 (by kernel_rfl) (by kernel_rfl)) (hc.mono fun e w2 ⟨q1, q2, q3⟩ => ⟨q2, q1.block _ ⟨by omega, by omega⟩ (by omega), q1, q3⟩))
  have hfin : Hd (∀ w2 w3, Keep (fun k => k < (okW w1).heap.size ∧ k ≠ (w.heap.size + 4)) (okW w1) w2 → Put w2 w3 w1.heap.size 4 [.bool false] → Below w.heap.size w w3) := ⟨fun w2 w3 q1 q2 => q2.bel (hb3.trans ⟨q1.os, q1.tape, q1.output, q1.size, fun k hk => q1.block k ⟨Nat.lt_of_lt_of_le hk hb3.size, by omega⟩ (Nat.lt_of_lt_of_le hk hb3.size)⟩) hb1.size⟩
  have hmf : ∀ (fn : Fn) (first cap : Array Value) (w : World), (Instr.makeFunc fn first cap).run Tryz.prog w = .ok (.func fn first cap) w := fun _ _ _ _ => rfl
  have hne : w.heap.size + 4 ≠ w1.heap.size := by omega
  clear hcl hc h1 h2 h3 h4 h5 hb1 hb2 hb3 hok her
  go_enter Tryz.func30, Tryz.ntmps30
  go_wp2_with fail
  refine hsf.out.mono ?_
  rintro e w3 ⟨rfl, w2, ⟨hc2, ⟨z, hu2⟩⟩, hp3⟩
  have hb3 := Hd.mk (hfin.out w2 w3 hc2 hp3)
  have hu3 := hp3.blk hu2 hne
  have cu : w3.cell? ⟨w.heap.size + 1 + 1 + 1 + 1, 0, none⟩ = some (.string z) := hu3.cell 0
  have zu : w3.frozen? ⟨w.heap.size + 1 + 1 + 1 + 1, 0, none⟩ = false := hu3.frozen 0
  have lu : w.heap.size + 1 + 1 + 1 + 1 < w3.heap.size := hu3.lt
  clear hu3 hu2 hc2 hp3 hsf hfin
  go_wp2
  refine bodyPost_ret (v := .tuple #[.string (ByteArray.mk #[]), .bool false]) (by simp [results, Tryz.results30, go_sem, cu, zu, lu]) rfl ⟨rfl, ?_⟩
  (repeat first | exact hb3.out | refine Below.setCell ?_ (by dsimp only; omega) _)
end Go.Proofs.YtdbjdpooggaonaaGreatDoor
end

section
namespace Go.Proofs.YtdbjdpooggaonaaGreatDoor
open Go.RowKit
set_option maxRecDepth 100000
set_option maxHeartbeats 8000000 in
theorem dioK_MulInt (x n z : Int) (hx : inR x = true) (hn : n.natAbs < 2 ^ 256) (hz : wlen z.natAbs < 8)
    (hop : ∀ (Q : Nat → Prop) (B C : Nat) (S1 : Nat → Option Int) (w1 : World), Ints Q w1 S1 → S1 B = some x → S1 C = some n → Calls Tryz.prog 117 #[.agg #[ptr B], .agg #[ptr C]] w1 fun e w' => ∃ B9, e = .returned (.agg #[ptr B9]) ∧ Keep Q w1 w' ∧ ∃ S2, Ints Q w' S2 ∧ S2 B9 = some z) :
    dioCl 0 (zT x) (zT n) false fun e w' bu => e = .returned (.tuple #[]) ∧ Blk w' bu 9 [.string (zT z)] := by
  intro bk ba bn bm bu w hok her hk ha hb hm hu hne hu1
  have r0 := Hd.mk (Run.start1 hok hu hu1)
  have hpz := Hd.mk fun (Q : Nat → Prop) B S1 w1 (h : Ints Q w1 S1) (h1 : S1 B = some z) => parts_ok Q B z S1 w1 h h1 (by omega)
  have hdx := Hd.mk (decimal_ok x w hok her (inR_130 hx))
  have hin := Hd.mk fun w1 h1 h2 => integer_ok n w1 h1 h2 hn
  have ck := hk.cell 0
  have ca := ha.cell 0
  have cb := hb.cell 0
  have cm := hm.cell 0
  simp only [List.getElem?_cons_zero] at ck ca cb cm
  have lk := hk.lt
  have la := ha.lt
  have lb := hb.lt
  have lm := hm.lt
  have lu := hu.lt
  have hPk := Hd.mk (p := bk < w.heap.size ∧ bk ≠ bu) ⟨hk.lt, hne.1⟩
  have hPb := Hd.mk (p := bn < w.heap.size ∧ bn ≠ bu) ⟨hb.lt, hne.2.2.1⟩
  have hPm := Hd.mk (p := bm < w.heap.size ∧ bm ≠ bu) ⟨hm.lt, hne.2.2.2⟩
  have her0 := Hd.mk her
  replace hop := Hd.mk hop
  replace hx := Hd.mk hx
  replace hn := Hd.mk hn
  generalize zT x = sx at *
  generalize zT n = sn at *
  generalize zT z = sz at *
  replace hk := Hd.mk hk
  replace ha := Hd.mk ha
  replace hb := Hd.mk hb
  replace hm := Hd.mk hm
  replace hu := Hd.mk hu
  go_enter Tryz.func115, Tryz.ntmps115
  go_upto_region 1 with (go_at_call 42; refine hdx.out.mono ?_; rintro e w2 ⟨B2, rfl, hn2⟩; have r2 := Hd.mk (r0.out.new_int hn2); have s2 := hn2.bel.size; clear hn2)
  have r3 := Hd.mk (r2.out.box #[ptr B2] 68)
  have r4 := Hd.mk (r3.out.box #[.pointer none] 68)
  simp only [World.size_alloc] at r4
  have hB2 := Hd.mk (p := upd (fun _ => Option.none) B2 x B2 = some x) upd_same
  have hXu := Hd.mk (p := updX (updX (updX (fun _ => Option.none) bu (9, [Value.string (ByteArray.mk #[])])) w2.heap.size (68, [ptr B2])) (w2.heap.size + 1) (68, [Value.pointer none]) bu = some (9, [Value.string (ByteArray.mk #[])])) (by rw [updX_ne (by omega), updX_ne (by omega), updX_same])
  have hXd := Hd.mk (p := updX (updX (updX (fun _ => Option.none) bu (9, [Value.string (ByteArray.mk #[])])) w2.heap.size (68, [ptr B2])) (w2.heap.size + 1) (68, [Value.pointer none]) w2.heap.size = some (68, [ptr B2])) (by rw [updX_ne (by omega), updX_same])
  have hXz := Hd.mk (p := updX (updX (updX (fun _ => Option.none) bu (9, [Value.string (ByteArray.mk #[])])) w2.heap.size (68, [ptr B2])) (w2.heap.size + 1) (68, [Value.pointer none]) (w2.heap.size + 1) = some (68, [Value.pointer none])) updX_same
  have jk : w2.cell? ⟨bk, 0, none⟩ = some (.int .i64 0) := (r2.out.keep.blk hk.out hPk.out).cell 0
  have jm : w2.cell? ⟨bm, 0, none⟩ = some (.bool false) := (r2.out.keep.blk hm.out hPm.out).cell 0
  have jb : w2.cell? ⟨bn, 0, none⟩ = some (.string sn) := (r2.out.keep.blk hb.out hPb.out).cell 0
  have lk2 : bk < w2.heap.size := Nat.lt_of_lt_of_le hPk.out.1 r2.out.ge
  have lm2 : bm < w2.heap.size := Nat.lt_of_lt_of_le hPm.out.1 r2.out.ge
  have lb2 : bn < w2.heap.size := Nat.lt_of_lt_of_le hPb.out.1 r2.out.ge
  go_upto_region 6 with fail
  go_region_law (first
    | (go_simp; go_at_call 35; refine (hin.out _ r4.out.drew.ok (r4.out.drew.er her0.out)).mono ?_; rintro e w5 ⟨B5, rfl, hn5⟩; have g5 := hn5.ge; (try simp only [World.size_alloc, World.size_drew] at g5); have r5 := Hd.mk (r4.out.drew.new_int hn5); clear hn5; obtain ⟨c5, c5z, c5l⟩ := r5.out.cell (b := w2.heap.size) hXd.out)
    | (go_simp; go_at_call 117; refine (hop.out _ B2 B5 _ _ r5.out.ints (by rw [upd_ne (by have := r2.out.ilt hB2.out; omega)]; exact hB2.out) upd_same).mono ?_; rintro e w6 ⟨B6, rfl, hk6, S6, hI6, hB6⟩; have r6 := Hd.mk (r5.out.op hk6 hI6); clear hk6 hI6; replace hB6 := Hd.mk hB6; obtain ⟨c6, c6z, c6l⟩ := r6.out.cell (b := w2.heap.size + 1) hXz.out))
  all_goals
    have r8 := Hd.mk (r6.out.set1 (b := w2.heap.size + 1) (v := .pointer none) (v' := ptr B6) hXz.out)
    have hm8 := Hd.mk (hpz.out _ B6 _ _ r8.out.ints hB6.out)
    have hX8 := Hd.mk ((updX_ne (show bu ≠ w2.heap.size + 1 by omega)).trans hXu.out : updX _ (w2.heap.size + 1) (68, [ptr B6]) bu = _)
    go_wp2_with (go_at_call 51; refine hm8.out.mono ?_; rintro e w9 ⟨rfl, hk9, hI9⟩; have r9 := Hd.mk (r8.out.op hk9 hI9); clear hk9 hI9; obtain ⟨u9, u9z, u9l⟩ := r9.out.cell (b := bu) hX8.out)
    have r10 := Hd.mk (r9.out.set1 (b := bu) (v' := .string sz) hX8.out)
    have hkk := Hd.mk r10.out.keep
    have hub := Hd.mk (r10.out.bx bu _ _ updX_same)
    go_end0
    exact ⟨hkk.out, rfl, hub.out⟩
theorem DecMulInt_ok (x n : Int) (w : World) (hok : Ok w) (her : Er w) (hx : inR x = true) (hn : n.natAbs < 2 ^ 256) (hr : inR (x * n) = true) :
    Calls Tryz.prog 30 #[.int .i64 0, .string (zT x), .string (zT n), .bool false] w fun e w' => e = .returned (.tuple #[.string (zT (x * n)), .bool true]) ∧ Below w.heap.size w w' :=
  dio_ok 0 (zT x) (zT n) false (zT (x * n)) w hok her (dioK_MulInt x n (x * n) hx hn (inR_wl hr) fun Q B C S1 w1 hI h1 h2 => (MulInt_ok Q B C x n S1 w1 hI h1 h2 (by have := inR_wl hx; omega) (by have := wl256 hn; omega) hr).mono fun e w' ⟨B9, he, _, hk, hI'⟩ => ⟨B9, he, hk, _, hI', upd_same⟩)
end Go.Proofs.YtdbjdpooggaonaaGreatDoor
end
