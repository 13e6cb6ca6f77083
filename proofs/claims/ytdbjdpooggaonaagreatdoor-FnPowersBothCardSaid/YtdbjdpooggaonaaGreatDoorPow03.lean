/- The thin package: a power of whole numbers with a factor: the function by its closure. The thin package: a power of a whole number, as a number that is multiplied by a factor. Conditions: those that each theorem states. -/
import Derived.Test.YtdbjdpooggaonaaGreatDoorBase25
import Derived.Test.YtdbjdpooggaonaaGreatDoorBase27
import Derived.Test.YtdbjdpooggaonaaGreatDoorPow02
import Derived.Test.YtdbjdpooggaonaaGreatDoorBase23
set_option linter.all false

section
namespace Go.Proofs.YtdbjdpooggaonaaGreatDoor
open Go.RowKit
set_option maxRecDepth 100000
/-- The boxes of impl.UintPow. -/
abbrev upoW (w : World) (x : ByteArray) (n : ByteArray) (b : ByteArray) : World := ((((w.alloc (.cells #[.string x] 9)).alloc (.cells #[.string n] 9)).alloc (.cells #[.string b] 9)).alloc (.cells #[.string (ByteArray.mk #[])] 9))
theorem upoW_size (w : World) (x : ByteArray) (n : ByteArray) (b : ByteArray) : (upoW w x n b).heap.size = w.heap.size + 4 := by simp only [World.size_alloc]
theorem upoW_below (w : World) (x : ByteArray) (n : ByteArray) (b : ByteArray) : Below w.heap.size w (upoW w x n b) :=
  (((((Below.refl _ _).alloc (Nat.le_refl _) _).alloc (by simp only [World.size_alloc]; omega) _).alloc (by simp only [World.size_alloc]; omega) _).alloc (by simp only [World.size_alloc]; omega) _)
theorem upoW_blk (w : World) (x : ByteArray) (n : ByteArray) (b : ByteArray) : Blk (upoW w x n b) w.heap.size 9 [.string x] ∧ Blk (upoW w x n b) (w.heap.size + 1) 9 [.string n] ∧ Blk (upoW w x n b) (w.heap.size + 2) 9 [.string b] ∧ Blk (upoW w x n b) (w.heap.size + 3) 9 [.string (ByteArray.mk #[])] := by
  have h1 := Blk.new w #[.string x] 9
  have h2 := Blk.new (w.alloc (.cells #[.string x] 9)) #[.string n] 9
  have h3 := Blk.new ((w.alloc (.cells #[.string x] 9)).alloc (.cells #[.string n] 9)) #[.string b] 9
  have h4 := Blk.new (((w.alloc (.cells #[.string x] 9)).alloc (.cells #[.string n] 9)).alloc (.cells #[.string b] 9)) #[.string (ByteArray.mk #[])] 9
  simp only [World.size_alloc] at h1 h2 h3 h4
  exact ⟨(((h1.alloc _).alloc _).alloc _), ((h2.alloc _).alloc _), (h3.alloc _), h4⟩
/-- What the closure of impl.UintPow is asked. -/
def upoCl (x : ByteArray) (n : ByteArray) (b : ByteArray) (R : Ending → World → Nat → Prop) : Prop := ∀ bx bn bb bu w, Ok w → Er w → Blk w bx 9 [.string x] → Blk w bn 9 [.string n] → Blk w bb 9 [.string b] → Blk w bu 9 [.string (ByteArray.mk #[])] →
  (bx ≠ bu ∧ bn ≠ bu ∧ bb ≠ bu) → 16 ≤ bu →
  Calls Tryz.prog 54 #[ptr bx, ptr bn, ptr bb, ptr bu] w fun e w' => Keep (fun k => k < w.heap.size ∧ k ≠ bu) w w' ∧ R e w' bu
set_option maxHeartbeats 2000000 in
theorem upo_ok (x : ByteArray) (n : ByteArray) (b : ByteArray) (z : ByteArray) (w : World) (hok : Ok w) (her : Er w) (hcl : upoCl x n b fun e w' bu => e = .returned (.tuple #[]) ∧ Blk w' bu 9 [.string z]) :
    Calls Tryz.prog 18 #[.string x, .string n, .string b] w fun e w' => e = .returned (.tuple #[.string z, .bool true]) ∧ Below w.heap.size w w' := by
  obtain ⟨h1, h2, h3, h4⟩ := upoW_blk w x n b
  have hb1 := upoW_below w x n b
  have hs1 := upoW_size w x n b
  have h100 := hok.2
  generalize hW : upoW w x n b = w1 at *
  have hb2 : Below w1.heap.size w1 (okW w1) := (Below.refl _ _).alloc (Nat.le_refl _) _
  have hb3 := hb1.trans (hb2.mono hb1.size)
  have hs2 : (okW w1).heap.size = w1.heap.size + 1 := World.size_alloc _ _
  have hc := hcl w.heap.size (w.heap.size + 1) (w.heap.size + 2) (w.heap.size + 3) (okW w1) (hok.below hb3) (her.below hb3) (h1.alloc _) (h2.alloc _) (h3.alloc _) (h4.alloc _) (by omega) (by omega)
  have hsf := Hd.mk (safe_ok 54 _ w1 (fun w2 => Keep (fun k => k < (okW w1).heap.size ∧ k ≠ (w.heap.size + 3)) (okW w1) w2 ∧ Blk w2 (w.heap.size + 3) 9 [.string z]) (enters Tryz.func54 (by kernel_rfl) (by kernel_rfl)) (hc.mono fun e w2 ⟨q1, q2, q3⟩ => ⟨q2, q1.block _ ⟨by omega, by omega⟩ (by omega), q1, q3⟩))
  have hfin : Hd (∀ w2 w3, Keep (fun k => k < (okW w1).heap.size ∧ k ≠ (w.heap.size + 3)) (okW w1) w2 → Put w2 w3 w1.heap.size 4 [.bool true] → Below w.heap.size w w3) := ⟨fun w2 w3 q1 q2 => q2.bel (hb3.trans ⟨q1.os, q1.tape, q1.output, q1.size, fun k hk => q1.block k ⟨Nat.lt_of_lt_of_le hk hb3.size, by omega⟩ (Nat.lt_of_lt_of_le hk hb3.size)⟩) hb1.size⟩
  have hmf : ∀ (fn : Fn) (first cap : Array Value) (w : World), (Instr.makeFunc fn first cap).run Tryz.prog w = .ok (.func fn first cap) w := fun _ _ _ _ => rfl
  have hne : w.heap.size + 3 ≠ w1.heap.size := by omega
  clear hcl hc h1 h2 h3 h4 hb1 hb2 hb3 hok her
  go_enter Tryz.func18, Tryz.ntmps18
  go_wp2_with fail
  refine hsf.out.mono ?_
  rintro e w3 ⟨rfl, w2, ⟨hc2, hu2⟩, hp3⟩
  have hb3 := Hd.mk (hfin.out w2 w3 hc2 hp3)
  have hu3 := hp3.blk hu2 hne
  have cu : w3.cell? ⟨w.heap.size + 1 + 1 + 1, 0, none⟩ = some (.string z) := hu3.cell 0
  have zu : w3.frozen? ⟨w.heap.size + 1 + 1 + 1, 0, none⟩ = false := hu3.frozen 0
  have lu : w.heap.size + 1 + 1 + 1 < w3.heap.size := hu3.lt
  clear hu3 hu2 hc2 hp3 hsf hfin
  go_wp2
  refine bodyPost_ret (v := .tuple #[.string z, .bool true]) (by simp [results, Tryz.results18, go_sem, cu, zu, lu]) rfl ⟨rfl, ?_⟩
  (repeat first | exact hb3.out | refine Below.setCell ?_ (by dsimp only; omega) _)
end Go.Proofs.YtdbjdpooggaonaaGreatDoor
end

section
namespace Go.Proofs.YtdbjdpooggaonaaGreatDoor
open Go.RowKit
set_option maxRecDepth 100000
set_option maxHeartbeats 1000000 in
theorem uString_any (P : Nat → Prop) (B : Nat) (x : Int) (S : Nat → Option Int) (w : World) (hI : Ints P w S) (hx : S B = some x) (hw : wlen x.natAbs ≤ 8) :
    Calls Tryz.prog 57 #[.agg #[ptr B]] w fun e w' => e = .returned (.string (zT x)) ∧ Keep P w w' ∧ Ints P w' S := by
  have r0 := Hd.mk (Run.start hI)
  have hl := hI.lt hx
  clear hI
  have r1 := Hd.mk (r0.out.box #[ptr B] 76)
  clear r0
  have hm := Hd.mk (IString_any _ B x _ _ r1.out.ints hx hw)
  generalize zT x = s at *
  replace hx := Hd.mk hx
  go_enter Tryz.func57, Tryz.ntmps57
  go_wp2_with (go_at_call 136; refine hm.out.mono ?_; rintro e w2 ⟨rfl, hb2⟩; have r2 := Hd.mk (r1.out.below hb2); clear hb2)
  go_ret
  exact ⟨rfl, r2.out.fin⟩
set_option maxHeartbeats 8000000 in
theorem upoK_ok (k n N : Nat) (hN : k ^ n = N) (hk : 1 ≤ k) (hkb : k < 2 ^ 64) (hn : n < BB) (hkn : N < 2 ^ 130) : upoCl (zT ((k : Int) * E18)) (zT (n : Int)) (zT E18) fun e w' bu => e = .returned (.tuple #[]) ∧ Blk w' bu 9 [.string (zT ((N : Int) * E18))] := by
  intro bx bn bb bu w hok her hx hn1 hb hl hd hl1
  have r0 := Hd.mk (Run.start1 hok hl hl1)
  have hux := Hd.mk fun w1 h1 h2 => unsigned_ok ((k : Int) * E18) w1 h1 h2 (Int.mul_nonneg (by omega) (by decide)) (wlE (Nat.lt_trans hkb (by decide))).2
  have hun := Hd.mk fun w1 h1 h2 => unsigned_ok (n : Int) w1 h1 h2 (by omega) (n256 hn)
  have hub := Hd.mk fun w1 h1 h2 => unsigned_ok E18 w1 h1 h2 (by decide) (by decide)
  have hrp := Hd.mk fun (Q : Nat → Prop) A B C S1 w1 (h : Ints Q w1 S1) (h1 : S1 A = some ((k : Int) * E18)) (h2 : S1 B = some (n : Int)) (h3 : S1 C = some E18) => relPow_ok k n N hN hk hkb hn hkn Q A B C S1 w1 h h1 h2 h3
  have hst := Hd.mk fun (Q : Nat → Prop) B S1 w1 (h : Ints Q w1 S1) (h1 : S1 B = some ((N : Int) * E18)) => uString_any Q B _ S1 w1 h h1 (by have := (wlE hkn).1; omega)
  have cx := hx.cell 0
  have cn := hn1.cell 0
  have cb := hb.cell 0
  simp only [List.getElem?_cons_zero] at cx cn cb
  have hPx := Hd.mk (p := bx < w.heap.size ∧ bx ≠ bu) ⟨hx.lt, hd.1⟩
  have hPn := Hd.mk (p := bn < w.heap.size ∧ bn ≠ bu) ⟨hn1.lt, hd.2.1⟩
  have hPb := Hd.mk (p := bb < w.heap.size ∧ bb ≠ bu) ⟨hb.lt, hd.2.2⟩
  have hd1 := hd.1
  have hd2 := hd.2.1
  have hd3 := hd.2.2
  have lu := hl.lt
  have lx := hx.lt
  have ln := hn1.lt
  have lb := hb.lt
  generalize zT ((k : Int) * E18) = sx at *
  generalize zT (n : Int) = sn at *
  generalize zT E18 = sb at *
  generalize zT ((N : Int) * E18) = sz at *
  replace hx := Hd.mk hx
  replace hn1 := Hd.mk hn1
  replace hb := Hd.mk hb
  clear hl hd hN hk hkb hkn hn
  have s0 : w.drew.cell? ⟨bx, 0, none⟩ = some (.string sx) ∧ w.drew.cell? ⟨bn, 0, none⟩ = some (.string sn) ∧ w.drew.cell? ⟨bb, 0, none⟩ = some (.string sb) := ⟨cx, cn, cb⟩
  go_enter Tryz.func54, Tryz.ntmps54
  go_upto_region 0 with fail
  go_region_held3 (fun wx => wx.cell? ⟨bx, 0, none⟩ = some (.string sx) ∧ wx.cell? ⟨bn, 0, none⟩ = some (.string sn) ∧ wx.cell? ⟨bb, 0, none⟩ = some (.string sb)) (first | with_reducible exact s0 | with_reducible exact s1 | with_reducible exact s2 | with_reducible exact s3 | with_reducible exact s4 | with_reducible exact s5 | with_reducible exact s6) (first
    | (go_at_call 56; (with_reducible show Calls _ _ #[Value.string sx] _ _); refine (hux.out _ r0.out.drew.ok (r0.out.drew.er her)).mono ?_; rintro e w1 ⟨B1, rfl, hn1⟩; have g1 := hn1.ge; have z1 := hn1.bel.size; have r1 := Hd.mk (r0.out.drew.new_int hn1); have l1 := r1.out.ilt upd_same; clear hn1; have s1 : w1.cell? ⟨bx, 0, none⟩ = some (.string sx) ∧ w1.cell? ⟨bn, 0, none⟩ = some (.string sn) ∧ w1.cell? ⟨bb, 0, none⟩ = some (.string sb) := ⟨(r1.out.keep.blk hx.out hPx.out).cell 0, (r1.out.keep.blk hn1.out hPn.out).cell 0, (r1.out.keep.blk hb.out hPb.out).cell 0⟩)
    | (go_at_call 56; (with_reducible show Calls _ _ #[Value.string sn] _ _); refine (hun.out _ r1.out.ok (r1.out.er her)).mono ?_; rintro e w2 ⟨B2, rfl, hn2⟩; have g2 := hn2.ge; have z2 := hn2.bel.size; have r2 := Hd.mk (r1.out.new_int hn2); have l2 := r2.out.ilt upd_same; clear hn2; have s2 : w2.cell? ⟨bx, 0, none⟩ = some (.string sx) ∧ w2.cell? ⟨bn, 0, none⟩ = some (.string sn) ∧ w2.cell? ⟨bb, 0, none⟩ = some (.string sb) := ⟨(r2.out.keep.blk hx.out hPx.out).cell 0, (r2.out.keep.blk hn1.out hPn.out).cell 0, (r2.out.keep.blk hb.out hPb.out).cell 0⟩)
    | (go_at_call 56; (with_reducible show Calls _ _ #[Value.string sb] _ _); refine (hub.out _ r2.out.ok (r2.out.er her)).mono ?_; rintro e w3 ⟨B3, rfl, hn3⟩; have g3 := hn3.ge; have z3 := hn3.bel.size; have r3 := Hd.mk (r2.out.new_int hn3); have l3 := r3.out.ilt upd_same; clear hn3; have s3 : w3.cell? ⟨bx, 0, none⟩ = some (.string sx) ∧ w3.cell? ⟨bn, 0, none⟩ = some (.string sn) ∧ w3.cell? ⟨bb, 0, none⟩ = some (.string sb) := ⟨(r3.out.keep.blk hx.out hPx.out).cell 0, (r3.out.keep.blk hn1.out hPn.out).cell 0, (r3.out.keep.blk hb.out hPb.out).cell 0⟩)
    | (go_at_call 55; refine (hrp.out _ B1 B2 B3 _ _ r3.out.ints (by rw [upd_ne (by omega), upd_ne (by omega)]; exact upd_same) (by rw [upd_ne (by omega)]; exact upd_same) upd_same).mono ?_; rintro e w4 ⟨B4, S4, rfl, hk4, hI4, hB4⟩; have r4 := Hd.mk (r3.out.op hk4 hI4); clear hk4 hI4; replace hB4 := Hd.mk hB4; have s4 : w4.cell? ⟨bx, 0, none⟩ = some (.string sx) ∧ w4.cell? ⟨bn, 0, none⟩ = some (.string sn) ∧ w4.cell? ⟨bb, 0, none⟩ = some (.string sb) := ⟨(r4.out.keep.blk hx.out hPx.out).cell 0, (r4.out.keep.blk hn1.out hPn.out).cell 0, (r4.out.keep.blk hb.out hPb.out).cell 0⟩)
    | (go_at_call 57; refine (hst.out _ B4 _ _ r4.out.ints hB4.out).mono ?_; rintro e w5 ⟨rfl, hk5, hI5⟩; have r5 := Hd.mk (r4.out.op hk5 hI5); clear hk5 hI5; obtain ⟨u5, u5z, u5l⟩ := r5.out.cell (b := bu) updX_same; have s5 : w5.cell? ⟨bx, 0, none⟩ = some (.string sx) ∧ w5.cell? ⟨bn, 0, none⟩ = some (.string sn) ∧ w5.cell? ⟨bb, 0, none⟩ = some (.string sb) := ⟨(r5.out.keep.blk hx.out hPx.out).cell 0, (r5.out.keep.blk hn1.out hPn.out).cell 0, (r5.out.keep.blk hb.out hPb.out).cell 0⟩; have s6 : (w5.setCell ⟨bu, 0, none⟩ (.string sz)).cell? ⟨bx, 0, none⟩ = some (.string sx) ∧ (w5.setCell ⟨bu, 0, none⟩ (.string sz)).cell? ⟨bn, 0, none⟩ = some (.string sn) ∧ (w5.setCell ⟨bu, 0, none⟩ (.string sz)).cell? ⟨bb, 0, none⟩ = some (.string sb) := ⟨(World.cell?_setCell_far _ _ _ _ hd1.symm).trans s5.1, (World.cell?_setCell_far _ _ _ _ hd2.symm).trans s5.2.1, (World.cell?_setCell_far _ _ _ _ hd3.symm).trans s5.2.2⟩))
  all_goals
    have r6 := Hd.mk (r5.out.set1 (b := bu) (v' := .string sz) updX_same)
    have hkk := Hd.mk r6.out.keep
    have hub := Hd.mk (r6.out.bx bu _ _ updX_same)
    go_end0
    exact ⟨hkk.out, rfl, hub.out⟩
theorem UintPow_ok (k n N : Nat) (hN : k ^ n = N) (hk : 1 ≤ k) (hkb : k < 2 ^ 64) (hn : n < BB) (hkn : N < 2 ^ 130) (w : World) (hok : Ok w) (her : Er w) :
    Calls Tryz.prog 18 #[.string (zT ((k : Int) * E18)), .string (zT (n : Int)), .string (zT E18)] w fun e w' => e = .returned (.tuple #[.string (zT ((N : Int) * E18)), .bool true]) ∧ Below w.heap.size w w' :=
  upo_ok _ _ _ _ w hok her (upoK_ok k n N hN hk hkb hn hkn)
end Go.Proofs.YtdbjdpooggaonaaGreatDoor
end
