/- The thin package: what a decimal tells; the package is alive. The package is alive: the statements' first question. The reference's numbers: a state of some numbers and some cells that hold numbers, in a function that makes them. The reference's numbers: their texts. Decimals: products. Decimals: comparing, opposite, size, whole ones. Powers of decimals by squaring, each product rounded: the plain law. No program in sight. Conditions: those that each theorem states. -/
import Derived.Test.YtdbjdpooggaonaaGreatDoorBase27
import Derived.Test.YtdbjdpooggaonaaGreatDoorBase25
import Derived.Test.YtdbjdpooggaonaaGreatDoorBase24
import Derived.Deep.RegionHeld3
import Derived.Deep.DeepCutAuto
import Derived.Test.YtdbjdpooggaonaaGreatDoorBase21
import Derived.Test.YtdbjdpooggaonaaGreatDoorBase18
import Derived.Test.YtdbjdpooggaonaaGreatDoorBase13
import Derived.Test.YtdbjdpooggaonaaGreatDoorBase12
set_option linter.all false

section
namespace Go.Proofs.YtdbjdpooggaonaaGreatDoor
open Go.RowKit
set_option maxRecDepth 100000
/-- The answer for a decimal. -/
def tellL (x : Int) : List Value := abL (mkT (decL x)) (decide (x.tmod E18 = 0)) (decide (x = 0)) (decide (x < 0)) (decide (0 < x)) true (zT (chopR x)) (zT (x.tdiv E18)) (if is64 (chopR x) = true then chopR x else 0) (if is64 (x.tdiv E18) = true then x.tdiv E18 else 0) (is64 (chopR x)) (is64 (x.tdiv E18))
abbrev zeroL : List Value := abL (ByteArray.mk #[]) false false false false false (ByteArray.mk #[]) (ByteArray.mk #[]) 0 0 false false
abbrev teW (w : World) (a : ByteArray) : World := (w.alloc (.cells #[.string a] 9)).alloc (.cells #[.string (ByteArray.mk #[]), .bool false, .bool false, .bool false, .bool false, .bool false, .string (ByteArray.mk #[]), .string (ByteArray.mk #[]), .int .i64 0, .int .i64 0, .bool false, .bool false] 48)
set_option maxHeartbeats 4000000 in
theorem DecTell_ok (x : Int) (w : World) (hok : Ok w) (her : Er w) (hx : inR x = true) (hr : (chopR x).natAbs < 2 ^ 256) (ht : (x.tdiv E18).natAbs < 2 ^ 256) :
    Calls Tryz.prog 23 #[.string (zT x)] w fun e w' => e = .returned (.tuple #[.agg (tellL x).toArray, .bool true]) ∧ Below w.heap.size w w' := by
  have h1 : Blk (teW w (zT x)) w.heap.size 9 [.string (zT x)] := (Blk.new w #[.string (zT x)] 9).alloc _
  have h2 := Blk.new (w.alloc (.cells #[.string (zT x)] 9)) zeroL.toArray 48
  rw [World.size_alloc] at h2
  have h2 : Blk (teW w (zT x)) (w.heap.size + 1) 48 zeroL := h2
  have hb1 : Below w.heap.size w (teW w (zT x)) := ((Below.refl _ _).alloc (Nat.le_refl _) _).alloc (by rw [World.size_alloc]; omega) _
  have hs1 : (teW w (zT x)).heap.size = w.heap.size + 2 := by simp only [World.size_alloc]
  have h100 := hok.2
  generalize hW : teW w (zT x) = w1 at *
  have hb2 : Below w1.heap.size w1 (okW w1) := (Below.refl _ _).alloc (Nat.le_refl _) _
  have hb3 := hb1.trans (hb2.mono hb1.size)
  have hs2 : (okW w1).heap.size = w1.heap.size + 1 := World.size_alloc _ _
  have hc := DecTellC_ok w.heap.size (w.heap.size + 1) x (okW w1) (hok.below hb3) (her.below hb3) hx hr ht (h1.alloc _) (h2.alloc _) (by omega) (by omega)
  have htl : abL (mkT (decL x)) (decide (x.tmod E18 = 0)) (decide (x = 0)) (decide (x < 0)) (decide (0 < x)) true (zT (chopR x)) (zT (x.tdiv E18)) (if is64 (chopR x) = true then chopR x else 0) (if is64 (x.tdiv E18) = true then x.tdiv E18 else 0) (is64 (chopR x)) (is64 (x.tdiv E18)) = tellL x := rfl
  rw [htl] at hc
  have hsf := Hd.mk (safe_ok 79 _ w1 (fun w2 => Keep (fun k => k < (okW w1).heap.size ∧ k ≠ w.heap.size + 1) (okW w1) w2 ∧ Blk w2 (w.heap.size + 1) 48 (tellL x)) (enters Tryz.func79 (by kernel_rfl) (by kernel_rfl)) (hc.mono fun e w2 ⟨q2, q1, q3⟩ => ⟨q2, q1.block _ ⟨by omega, by omega⟩ (by omega), q1, q3⟩))
  have hfin : Hd (∀ w2 w3, Keep (fun k => k < (okW w1).heap.size ∧ k ≠ w.heap.size + 1) (okW w1) w2 → Put w2 w3 w1.heap.size 4 [.bool true] → Below w.heap.size w w3) := ⟨fun w2 w3 q1 q2 => q2.bel ⟨q1.os.trans hb3.os, q1.tape.trans hb3.tape, q1.output.trans hb3.output, Nat.le_trans hb3.size q1.size, fun k hk => (q1.block k ⟨by omega, by omega⟩ (by omega)).trans (hb3.block k hk)⟩ hb1.size⟩
  have hmf : ∀ (fn : Fn) (first cap : Array Value) (w : World), (Instr.makeFunc fn first cap).run Tryz.prog w = .ok (.func fn first cap) w := fun _ _ _ _ => rfl
  have hne : w.heap.size + 1 ≠ w1.heap.size := by omega
  obtain ⟨u0, u1, u2, u3, u4, u5, u6, u7, u8, u9, u10, u11, hu⟩ : ∃ u0 u1 u2 u3 u4 u5 u6 u7 u8 u9 u10 u11, tellL x = abL u0 u1 u2 u3 u4 u5 u6 u7 u8 u9 u10 u11 := ⟨_, _, _, _, _, _, _, _, _, _, _, _, rfl⟩
  rw [hu] at hsf ⊢
  generalize zT x = sx at *
  clear hc h1 h2 hb1 hb2 hb3 hok her htl hu hr ht hx
  go_enter Tryz.func23, Tryz.ntmps23
  go_wp2_with fail
  refine hsf.out.mono ?_
  rintro e w3 ⟨rfl, w2, ⟨hk2, hu2⟩, hp3⟩
  have hb3 := Hd.mk (hfin.out w2 w3 hk2 hp3)
  have hu3 := hp3.blk hu2 hne
  have lu : w.heap.size + 1 < w3.heap.size := hu3.lt
  have d0 : w3.cell? ⟨w.heap.size + 1, 0, none⟩ = some (.string u0) := hu3.cell 0
  have d1 : w3.cell? ⟨w.heap.size + 1, 1, none⟩ = some (.bool u1) := hu3.cell 1
  have d2 : w3.cell? ⟨w.heap.size + 1, 2, none⟩ = some (.bool u2) := hu3.cell 2
  have d3 : w3.cell? ⟨w.heap.size + 1, 3, none⟩ = some (.bool u3) := hu3.cell 3
  have d4 : w3.cell? ⟨w.heap.size + 1, 4, none⟩ = some (.bool u4) := hu3.cell 4
  have d5 : w3.cell? ⟨w.heap.size + 1, 5, none⟩ = some (.bool u5) := hu3.cell 5
  have d6 : w3.cell? ⟨w.heap.size + 1, 6, none⟩ = some (.string u6) := hu3.cell 6
  have d7 : w3.cell? ⟨w.heap.size + 1, 7, none⟩ = some (.string u7) := hu3.cell 7
  have d8 : w3.cell? ⟨w.heap.size + 1, 8, none⟩ = some (.int .i64 u8) := hu3.cell 8
  have d9 : w3.cell? ⟨w.heap.size + 1, 9, none⟩ = some (.int .i64 u9) := hu3.cell 9
  have d10 : w3.cell? ⟨w.heap.size + 1, 10, none⟩ = some (.bool u10) := hu3.cell 10
  have d11 : w3.cell? ⟨w.heap.size + 1, 11, none⟩ = some (.bool u11) := hu3.cell 11
  have z0 := hu3.frozen 0
  have z1 := hu3.frozen 1
  have z2 := hu3.frozen 2
  have z3 := hu3.frozen 3
  have z4 := hu3.frozen 4
  have z5 := hu3.frozen 5
  have z6 := hu3.frozen 6
  have z7 := hu3.frozen 7
  have z8 := hu3.frozen 8
  have z9 := hu3.frozen 9
  have z10 := hu3.frozen 10
  have z11 := hu3.frozen 11
  replace hu3 := Hd.mk hu3
  clear hu2 hk2 hp3 hsf hfin
  go_wp2
  have hb4 : Blk ((((((((((((w3.setCell ⟨w.heap.size + 1, 0, none⟩ (.string u0)).setCell ⟨w.heap.size + 1, 1, none⟩ (.bool u1)).setCell ⟨w.heap.size + 1, 2, none⟩ (.bool u2)).setCell ⟨w.heap.size + 1, 3, none⟩ (.bool u3)).setCell ⟨w.heap.size + 1, 4, none⟩ (.bool u4)).setCell ⟨w.heap.size + 1, 5, none⟩ (.bool u5)).setCell ⟨w.heap.size + 1, 6, none⟩ (.string u6)).setCell ⟨w.heap.size + 1, 7, none⟩ (.string u7)).setCell ⟨w.heap.size + 1, 8, none⟩ (.int .i64 u8)).setCell ⟨w.heap.size + 1, 9, none⟩ (.int .i64 u9)).setCell ⟨w.heap.size + 1, 10, none⟩ (.bool u10)).setCell ⟨w.heap.size + 1, 11, none⟩ (.bool u11)) (w.heap.size + 1) 48 (abL u0 u1 u2 u3 u4 u5 u6 u7 u8 u9 u10 u11) := ((((((((((((hu3.out.set 0 (.string u0)).set 1 (.bool u1)).set 2 (.bool u2)).set 3 (.bool u3)).set 4 (.bool u4)).set 5 (.bool u5)).set 6 (.string u6)).set 7 (.string u7)).set 8 (.int .i64 u8)).set 9 (.int .i64 u9)).set 10 (.bool u10)).set 11 (.bool u11))
  have hbel4 : Below w.heap.size w ((((((((((((w3.setCell ⟨w.heap.size + 1, 0, none⟩ (.string u0)).setCell ⟨w.heap.size + 1, 1, none⟩ (.bool u1)).setCell ⟨w.heap.size + 1, 2, none⟩ (.bool u2)).setCell ⟨w.heap.size + 1, 3, none⟩ (.bool u3)).setCell ⟨w.heap.size + 1, 4, none⟩ (.bool u4)).setCell ⟨w.heap.size + 1, 5, none⟩ (.bool u5)).setCell ⟨w.heap.size + 1, 6, none⟩ (.string u6)).setCell ⟨w.heap.size + 1, 7, none⟩ (.string u7)).setCell ⟨w.heap.size + 1, 8, none⟩ (.int .i64 u8)).setCell ⟨w.heap.size + 1, 9, none⟩ (.int .i64 u9)).setCell ⟨w.heap.size + 1, 10, none⟩ (.bool u10)).setCell ⟨w.heap.size + 1, 11, none⟩ (.bool u11)) := ((((((((((((((((((((((((hb3.out).setCell (p := ⟨w.heap.size + 1, 0, none⟩) (Nat.le_succ _) (.string u0))).setCell (p := ⟨w.heap.size + 1, 1, none⟩) (Nat.le_succ _) (.bool u1))).setCell (p := ⟨w.heap.size + 1, 2, none⟩) (Nat.le_succ _) (.bool u2))).setCell (p := ⟨w.heap.size + 1, 3, none⟩) (Nat.le_succ _) (.bool u3))).setCell (p := ⟨w.heap.size + 1, 4, none⟩) (Nat.le_succ _) (.bool u4))).setCell (p := ⟨w.heap.size + 1, 5, none⟩) (Nat.le_succ _) (.bool u5))).setCell (p := ⟨w.heap.size + 1, 6, none⟩) (Nat.le_succ _) (.string u6))).setCell (p := ⟨w.heap.size + 1, 7, none⟩) (Nat.le_succ _) (.string u7))).setCell (p := ⟨w.heap.size + 1, 8, none⟩) (Nat.le_succ _) (.int .i64 u8))).setCell (p := ⟨w.heap.size + 1, 9, none⟩) (Nat.le_succ _) (.int .i64 u9))).setCell (p := ⟨w.heap.size + 1, 10, none⟩) (Nat.le_succ _) (.bool u10))).setCell (p := ⟨w.heap.size + 1, 11, none⟩) (Nat.le_succ _) (.bool u11))
  generalize ((((((((((((w3.setCell ⟨w.heap.size + 1, 0, none⟩ (.string u0)).setCell ⟨w.heap.size + 1, 1, none⟩ (.bool u1)).setCell ⟨w.heap.size + 1, 2, none⟩ (.bool u2)).setCell ⟨w.heap.size + 1, 3, none⟩ (.bool u3)).setCell ⟨w.heap.size + 1, 4, none⟩ (.bool u4)).setCell ⟨w.heap.size + 1, 5, none⟩ (.bool u5)).setCell ⟨w.heap.size + 1, 6, none⟩ (.string u6)).setCell ⟨w.heap.size + 1, 7, none⟩ (.string u7)).setCell ⟨w.heap.size + 1, 8, none⟩ (.int .i64 u8)).setCell ⟨w.heap.size + 1, 9, none⟩ (.int .i64 u9)).setCell ⟨w.heap.size + 1, 10, none⟩ (.bool u10)).setCell ⟨w.heap.size + 1, 11, none⟩ (.bool u11)) = w4 at *
  have e0 : w4.cell? ⟨w.heap.size + 1, 0, none⟩ = some (.string u0) := hb4.cell 0
  have e1 : w4.cell? ⟨w.heap.size + 1, 1, none⟩ = some (.bool u1) := hb4.cell 1
  have e2 : w4.cell? ⟨w.heap.size + 1, 2, none⟩ = some (.bool u2) := hb4.cell 2
  have e3 : w4.cell? ⟨w.heap.size + 1, 3, none⟩ = some (.bool u3) := hb4.cell 3
  have e4 : w4.cell? ⟨w.heap.size + 1, 4, none⟩ = some (.bool u4) := hb4.cell 4
  have e5 : w4.cell? ⟨w.heap.size + 1, 5, none⟩ = some (.bool u5) := hb4.cell 5
  have e6 : w4.cell? ⟨w.heap.size + 1, 6, none⟩ = some (.string u6) := hb4.cell 6
  have e7 : w4.cell? ⟨w.heap.size + 1, 7, none⟩ = some (.string u7) := hb4.cell 7
  have e8 : w4.cell? ⟨w.heap.size + 1, 8, none⟩ = some (.int .i64 u8) := hb4.cell 8
  have e9 : w4.cell? ⟨w.heap.size + 1, 9, none⟩ = some (.int .i64 u9) := hb4.cell 9
  have e10 : w4.cell? ⟨w.heap.size + 1, 10, none⟩ = some (.bool u10) := hb4.cell 10
  have e11 : w4.cell? ⟨w.heap.size + 1, 11, none⟩ = some (.bool u11) := hb4.cell 11
  have l4 : w.heap.size + 1 < w4.heap.size := hb4.lt
  replace hb4 := Hd.mk hb4
  replace hbel4 := Hd.mk hbel4
  clear d0 d1 d2 d3 d4 d5 d6 d7 d8 d9 d10 d11 z0 z1 z2 z3 z4 z5 z6 z7 z8 z9 z10 z11
  refine bodyPost_ret (v := .tuple #[.agg (abL u0 u1 u2 u3 u4 u5 u6 u7 u8 u9 u10 u11).toArray, .bool true]) ?_ rfl ⟨rfl, hbel4.out⟩
  simp [results, Tryz.results23, go_sem, abL, e0, e1, e2, e3, e4, e5, e6, e7, e8, e9, e10, e11, l4]
/-- Sums, differences of decimals, through the thin package. -/
theorem DecAdd_ok (x y : Int) (w : World) (hok : Ok w) (her : Er w) (hx : inR x = true) (hy : inR y = true) (hr : inR (x + y) = true) :
    Calls Tryz.prog 27 #[.int .i64 0, .string (zT x), .string (zT y), .bool false] w fun e w' => e = .returned (.tuple #[.string (zT (x + y)), .bool true, .bool true]) ∧ Below w.heap.size w w' :=
  DecOp_ok 0 _ _ _ false true w hok her fun ba bb bo bm bu bk w1 h1 h2 ha hb ho hm hu hk hd hb1 hk1 => (DecOpAdd_ok ba bb bo bm bu bk x y w1 h1 h2 hx hy ha hb ho hm hu hk hd hb1 hk1 hr).mono fun e w' ⟨q1, q2, q3, q4⟩ => ⟨q2, q1, q3, q4⟩
theorem DecSub_ok (x y : Int) (w : World) (hok : Ok w) (her : Er w) (hx : inR x = true) (hy : inR y = true) (hr : inR (x - y) = true) :
    Calls Tryz.prog 27 #[.int .i64 1, .string (zT x), .string (zT y), .bool false] w fun e w' => e = .returned (.tuple #[.string (zT (x - y)), .bool true, .bool true]) ∧ Below w.heap.size w w' :=
  DecOp_ok 1 _ _ _ false true w hok her fun ba bb bo bm bu bk w1 h1 h2 ha hb ho hm hu hk hd hb1 hk1 => (DecOpSub_ok ba bb bo bm bu bk x y w1 h1 h2 hx hy ha hb ho hm hu hk hd hb1 hk1 hr).mono fun e w' ⟨q1, q2, q3, q4⟩ => ⟨q2, q1, q3, q4⟩
end Go.Proofs.YtdbjdpooggaonaaGreatDoor
end

section
namespace Go.Proofs.YtdbjdpooggaonaaGreatDoor
open Go.RowKit
set_option maxRecDepth 100000
theorem zT_lit {l : List Nat} (h : ∀ b, b ∈ l → isD b) (h0 : l ≠ []) (h1 : l.length = 1 ∨ l.head? ≠ some 48) : zT (nums l : Int) = mkT l := by
  unfold zT
  rw [ztx_pos (Int.natCast_nonneg _), Int.natAbs_natCast, dtxt_nums h h0 h1]
theorem zT_litn {l : List Nat} (h : ∀ b, b ∈ l → isD b) (h0 : l ≠ []) (h1 : l.length = 1 ∨ l.head? ≠ some 48) (h2 : nums l ≠ 0) : zT (-(nums l : Int)) = mkT (45 :: l) := by
  unfold zT
  rw [ztx_neg (by omega), Int.natAbs_neg, Int.natAbs_natCast, dtxt_nums h h0 h1]
theorem z1 : zT 1 = ByteArray.mk #[49] := (zT_lit (l := [49]) (by decide) (by decide) (by decide)).trans rfl
theorem z2 : zT 2 = ByteArray.mk #[50] := (zT_lit (l := [50]) (by decide) (by decide) (by decide)).trans rfl
theorem z3 : zT 3 = ByteArray.mk #[51] := (zT_lit (l := [51]) (by decide) (by decide) (by decide)).trans rfl
theorem dx : mkT (decL 1500000000000000000) = ByteArray.mk #[49, 46, 53, 48, 48, 48, 48, 48, 48, 48, 48, 48, 48, 48, 48, 48, 48, 48, 48, 48] := by
  have h : dtxt false (1500000000000000000 : Int).natAbs = [49, 53, 48, 48, 48, 48, 48, 48, 48, 48, 48, 48, 48, 48, 48, 48, 48, 48, 48] := dtxt_nums (l := [49, 53, 48, 48, 48, 48, 48, 48, 48, 48, 48, 48, 48, 48, 48, 48, 48, 48, 48]) (by decide) (by decide) (by decide)
  unfold decL
  rw [h]
  rfl
end Go.Proofs.YtdbjdpooggaonaaGreatDoor
end

section
namespace Go.Proofs.YtdbjdpooggaonaaGreatDoor
open Go.RowKit
set_option maxRecDepth 100000
theorem NumV.put {w w' : World} {v : Value} {x : Int} {b m c : Nat} {E : TypeId} {b0 : Bool} {A : Option Addr} {ys : List Value} (h : NumV w v x) (hb : Blk w b E [.bool b0, .slice A m c]) (hp : Put w w' b E ys) : NumV w' v x := by
  obtain ⟨d, rfl, A', cap, rfl, h1, h3, h2⟩ := h
  refine ⟨_, rfl, A', cap, rfl, h1, h3, fun h0 => ?_⟩
  obtain ⟨K, o, rfl, h4⟩ := h2 h0
  have hne : K ≠ b := by
    rintro rfl
    have h5 := h4 0 h0
    rw [hb.cell] at h5
    match o, h5 with
    | 0, e => cases e
    | 1, e => cases e
  exact ⟨K, o, rfl, fun i hi => by rw [hp.cell_other hne]; exact h4 i hi⟩
def updC (C : Nat → Option (List Value)) (b : Nat) (vs : List Value) (k : Nat) : Option (List Value) := if k = b then some vs else C k
theorem updC_same {C : Nat → Option (List Value)} {b : Nat} {vs : List Value} : updC C b vs b = some vs := if_pos rfl
/-- Since w nothing below has changed; the blocks of C hold numbers' cells, the values of N are numbers. -/
structure SR (w wr : World) (C : Nat → Option (List Value)) (N : List (Value × Int)) : Prop where
  bel : Below w.heap.size w wr
  blk : ∀ b vs, C b = some vs → w.heap.size ≤ b ∧ Blk wr b 24 vs
  num : ∀ p, p ∈ N → NumV wr p.1 p.2
section
variable {w wr wx : World} {C : Nat → Option (List Value)} {N : List (Value × Int)} {b : Nat}
theorem SR.start (w : World) (N : List (Value × Int)) (h : ∀ p, p ∈ N → NumV w p.1 p.2) : SR w w (fun _ => none) N := ⟨Below.refl _ _, fun _ _ h => (by cases h), h⟩
theorem SR.op (h : SR w wr C N) (hb : Below wr.heap.size wr wx) : SR w wx C N :=
  ⟨h.bel.trans (hb.mono h.bel.size), fun b vs e => ⟨(h.blk b vs e).1, (h.blk b vs e).2.of_heap (hb.block _ (h.blk b vs e).2.lt)⟩, fun p hp => (h.num p hp).below hb⟩
theorem SR.drew (h : SR w wr C N) : SR w wr.drew C N := h.op (below_drew wr)
theorem SR.box (h : SR w wr C N) (c : Array Value) : SR w (wr.alloc (.cells c 24)) (updC C wr.heap.size c.toList) N := by
  have hb : Below wr.heap.size wr (wr.alloc (.cells c 24)) := (Below.refl _ _).alloc (Nat.le_refl _) _
  have h1 := h.op hb
  refine ⟨h1.bel, fun b vs e => ?_, h1.num⟩
  unfold updC at e
  split at e
  · rename_i hk
    cases e
    subst hk
    exact ⟨h.bel.size, Blk.new wr c 24⟩
  · exact h1.blk b vs e
theorem SR.box2 {b0 : Bool} {A : Option Addr} {m c : Nat} (h : SR w wr C N) : SR w (wr.alloc (.cells #[.bool b0, .slice A m c] 24)) (updC C wr.heap.size [.bool b0, .slice A m c]) N := h.box #[.bool b0, .slice A m c]
theorem SR.set {b0 b1 : Bool} {A A1 : Option Addr} {m c m1 c1 : Nat} (h : SR w wr C N) (hb : C b = some [.bool b0, .slice A m c]) :
    SR w ((wr.setCell ⟨b, 0, none⟩ (.bool b1)).setCell ⟨b, 1, none⟩ (.slice A1 m1 c1)) (updC C b [.bool b1, .slice A1 m1 c1]) N := by
  have hk := h.blk b _ hb
  have hp : Put wr ((wr.setCell ⟨b, 0, none⟩ (.bool b1)).setCell ⟨b, 1, none⟩ (.slice A1 m1 c1)) b 24 [.bool b1, .slice A1 m1 c1] := ((Put.refl hk.2).set 0 (.bool b1)).set 1 (.slice A1 m1 c1)
  refine ⟨h.bel.trans ((hp.below hk.1).mono (Nat.le_refl _)), fun b' vs e => ?_, fun p hq => (h.num p hq).put hk.2 hp⟩
  unfold updC at e
  split at e
  · rename_i hk'
    cases e
    subst hk'
    exact ⟨hk.1, hp.here⟩
  · rename_i hne
    exact ⟨(h.blk b' vs e).1, hp.blk (h.blk b' vs e).2 hne⟩
theorem SR.add {v : Value} {x : Int} (h : SR w wr C N) (hn : NumV wr v x) : SR w wr C ((v, x) :: N) :=
  ⟨h.bel, h.blk, fun p hp => by
    rcases List.mem_cons.1 hp with e | e
    · subst e
      exact hn
    · exact h.num p e⟩
theorem SR.cellK {b0 : Bool} {A : Option Addr} {m c : Nat} {R : Prop} (h : SR w wr C N) (hb : C b = some [.bool b0, .slice A m c])
    (k : wr.cell? ⟨b, 0, none⟩ = some (.bool b0) → wr.cell? ⟨b, 1, none⟩ = some (.slice A m c) → wr.frozen? ⟨b, 0, none⟩ = false → wr.frozen? ⟨b, 1, none⟩ = false → b < wr.heap.size → R) : R :=
  have hk := (h.blk b _ hb).2
  k (hk.cell 0) (hk.cell 1) (hk.frozen 0) (hk.frozen 1) hk.lt
theorem SR.v0 {v : Value} {x : Int} (h : SR w wr C ((v, x) :: N)) : NumV wr v x := h.num _ (List.mem_cons_self ..)
theorem SR.v1 {u v : Value} {x y : Int} (h : SR w wr C ((u, y) :: (v, x) :: N)) : NumV wr v x := h.num (v, x) (List.mem_cons_of_mem _ (List.mem_cons_self ..))
theorem SR.v2 {u v t : Value} {x y z : Int} (h : SR w wr C ((u, y) :: (t, z) :: (v, x) :: N)) : NumV wr v x := h.num (v, x) (List.mem_cons_of_mem _ (List.mem_cons_of_mem _ (List.mem_cons_self ..)))
theorem SR.v3 {u v t s : Value} {x y z o : Int} (h : SR w wr C ((u, y) :: (t, z) :: (s, o) :: (v, x) :: N)) : NumV wr v x := h.num (v, x) (List.mem_cons_of_mem _ (List.mem_cons_of_mem _ (List.mem_cons_of_mem _ (List.mem_cons_self ..))))
end
end Go.Proofs.YtdbjdpooggaonaaGreatDoor
end

section
namespace Go.Proofs.YtdbjdpooggaonaaGreatDoor
open Go.RowKit
set_option maxRecDepth 100000
theorem digs_txt (t : List Nat) : digs t.length (fun j => t.getD j 0) = txtV t := by
  unfold digs txtV
  apply List.ext_getElem
  · simp
  · intro i h1 h2
    have h3 : i < t.length := by simpa using h1
    simp [h3]
/-- A number's text, by its digits. -/
theorem ztx_get {x : Int} (hx : x ≠ 0) {k : Nat} (hk : k < T.wlen x.natAbs) : (ztx x).getD ((decide (x < 0)).toNat + k) 0 = 48 + T.dig x.natAbs (T.wlen x.natAbs - 1 - k) := by
  have hd : T.wlen x.natAbs = dlen x.natAbs := T.wlen_dlen (by omega)
  unfold ztx
  rw [List.getD_eq_getElem?_getD, dtxt_get]
  rw [hd] at hk ⊢
  by_cases h : x < 0
  · rw [decide_eq_true h]
    rw [if_neg (by simp), if_pos (by simp; omega)]
    simp only [if_true, Bool.toNat_true, Option.getD_some, Nat.add_sub_cancel_left]
    rfl
  · rw [decide_eq_false h]
    rw [if_neg (by simp), if_pos (by simp; omega)]
    simp only [Bool.false_eq_true, if_false, Bool.toNat_false, Option.getD_some, Nat.zero_add, Nat.sub_zero]
    rfl
theorem ztx_neg0 {x : Int} (h : x < 0) : (ztx x).getD 0 0 = 45 := by rw [ztx_neg h]; rfl
theorem ztx_len {x : Int} (hx : x ≠ 0) : (ztx x).length = (decide (x < 0)).toNat + T.wlen x.natAbs := by
  rw [ztx_length, T.wlen_dlen (by omega)]
  by_cases h : x < 0
  · rw [if_pos h, decide_eq_true h, Bool.toNat_true]; omega
  · rw [if_neg h, decide_eq_false h, Bool.toNat_false]; omega
theorem zT_zero : zT 0 = ByteArray.mk #[48] := by
  unfold zT
  rw [ztx_pos (Int.le_refl _)]
  have : dtxt false (0 : Int).natAbs = [48] := dtxt_nums (l := [48]) (by decide) (by decide) (by decide)
  rw [this]; rfl
theorem OwD.txt {w0 wr : World} {v : Value} {n : Nat} {t : List Nat} (h : OwD w0 wr v n (fun j => t.getD j 0)) (hn : n = t.length) (h0 : 0 < n) :
    ∃ g cap, v = .slice (some ⟨g, 0, none⟩) n cap ∧ TxtAt wr g 0 t := by
  have h1 := h.row
  subst hn
  rw [digs_txt] at h1
  rcases h1.2 with ⟨-, h3⟩ | ⟨g, cap, cur, rfl, -⟩
  · omega
  · exact ⟨g, cap, rfl, (own_txt h1).1⟩
set_option maxHeartbeats 2000000 in
theorem text_any (v : Value) (x : Int) (w : World) (hx : NumV w v x) (hl : T.wlen x.natAbs < 900) :
    Calls Tryz.prog 19 #[v] w fun e w' => e = .returned (.string (zT x)) ∧ Below w.heap.size w w' := by
  obtain ⟨A, cap, rfl, hd⟩ := hx.open
  by_cases h0 : x = 0
  · subst h0
    rw [zT_zero]
    have hw0 : T.wlen (0 : Int).natAbs = 0 := T.wlen_zero
    rw [hw0]
    replace hd := Hd.mk hd
    replace hx := Hd.mk hx
    replace hw0 := Hd.mk hw0
    go_enter Tryz.func19, Tryz.ntmps19
    go_wp2
    go_ret
    exact ⟨rfl, (Below.refl _ _).alloc (Nat.le_refl _) _⟩
  have hget := Hd.mk fun k (hk : k < T.wlen x.natAbs) => ztx_get h0 hk
  have hlen := Hd.mk (ztx_len h0)
  have hne0 : Hd (decide (x < 0) = true → (ztx x).getD 0 0 = 45) := ⟨fun h => ztx_neg0 (of_decide_eq_true h)⟩
  have hpos : 0 < T.wlen x.natAbs := Nat.pos_of_ne_zero fun h => h0 (by have := T.wlen_eq_zero.1 h; omega)
  have hzt : zT x = mkT (ztx x) := rfl
  have hdg := Hd.mk fun j => T.dig_lt x.natAbs j
  rw [hzt]
  generalize T.wlen x.natAbs = m at *
  generalize T.dig x.natAbs = F at *
  generalize ztx x = t at *
  generalize decide (x < 0) = nb at *
  have hb1 : Below w.heap.size w (w.alloc (.cells #[.bool nb, .slice A m cap] 24)) := (Below.refl _ _).alloc (Nat.le_refl _) _
  have hblk := Blk.new w #[.bool nb, .slice A m cap] 24
  have hd1 := hd.below hb1
  have d0 := hblk.cell 0
  have d1 := hblk.cell 1
  simp only [List.getElem?_cons_succ, List.getElem?_cons_zero] at d0 d1
  obtain ⟨A', cap', e, hc1, hc3, hc2⟩ := hd1
  cases e
  obtain ⟨K, o, rfl, hc⟩ := hc2 hpos
  have dm : ((m : Int) == 0) = false := by simp; omega
  replace hzt := Hd.mk hzt
  replace hb1 := Hd.mk hb1
  replace hblk := Hd.mk hblk
  replace hd := Hd.mk hd
  replace hx := Hd.mk hx
  replace hc := Hd.mk hc
  replace hc2 := Hd.mk hc2
  replace hc3 := Hd.mk hc3
  go_enter Tryz.func19, Tryz.ntmps19
  go_upto_if 10 with fail
  generalize w.alloc (.cells #[.bool nb, .slice (some ⟨K, o, none⟩) m cap] 24) = w1 at *
  go_cut [3] (fun s wx => Hd (OwD w1 wx s nb.toNat (fun j => t.getD j 0)))
  case first =>
    cases nb
    · go_wp2_with fail
      go_meet
      exact ⟨OwD.nil _ _⟩
    · go_wp2_with (at_builtin; refine wpList_push rfl (.tmp 11) (.tmp 12) rfl _ 0 (fun j => t.getD j 0) rfl (OwD.nil _ _) _ ?hc rfl (by omega) ?_; (case hc => (show (45 : Int) = ((t.getD 0 0 : Nat) : Int); rw [hne0.out rfl]; rfl)); intro v' w' how2 hv' hb2 hsz2; obtain ⟨g', cap', rfl⟩ := hv'; replace how2 := Hd.mk how2; replace hb2 := Hd.mk hb2)
      go_meet
      exact how2
  case rest =>
  have hwm : IntKind.i64.wrap ((m : Int) - 1) = (m : Int) - 1 := IntWalk.i64_in _ (by omega)
  have d1c := cb hcut.out.bel d1
  go_wp2
  go_loopw [3, 4] (fun s i wr => ∃ k q : Nat, k + q = m ∧ i = .int .i64 ((q : Int) - 1) ∧ Hd (OwD w1 wr s (nb.toNat + k) (fun j => t.getD j 0))) (fun _ i _ => (intOf i + 1).toNat)
  case atStart => exact ⟨0, m, by omega, rfl, hcut⟩
  case round =>
    obtain ⟨k, q, hkq, rfl, how⟩ := hrel
    have e1 := cb how.out.bel d1
    rcases Nat.eq_zero_or_pos q with hq0 | hq0
    · subst hq0
      have hkm : k = m := by omega
      have hn : nb.toNat + k = t.length := by rw [hlen.out, hkm]
      obtain ⟨g, c9, rfl, htx⟩ := how.out.txt hn (by omega)
      have hcv := txt_conv htx hn c9
      replace hn := Hd.mk hn
      replace hkm := Hd.mk hkm
      replace htx := Hd.mk htx
      go_wp2
      go_ret
      exact ⟨rfl, hb1.out.trans (how.out.bel.mono hb1.out.size)⟩
    · obtain ⟨j, rfl⟩ : ∃ j, q = j + 1 := ⟨q - 1, by omega⟩
      rw [show ((j + 1 : Nat) : Int) - 1 = (j : Int) by omega]
      have hcj := cb how.out.bel (hc.out j (by omega))
      have hdj := hdg.out j
      have hgk : Hd (t.getD (nb.toNat + k) 0 = 48 + F j) := ⟨by rw [hget.out k (by omega), show m - 1 - k = j by omega]⟩
      unfold T.BB at hdj
      generalize F j = c0 at *
      have hw1 : IntKind.u8.wrap (48 + (c0 : Int)) = 48 + (c0 : Int) := IntWalk.u8_in _ (by omega)
      have hwj : IntKind.i64.wrap ((j : Int) - 1) = (j : Int) - 1 := IntWalk.i64_in _ (by omega)
      go_wp2_with (at_builtin; refine wpList_push rfl (.tmp 22) (.tmp 29) rfl _ (nb.toNat + k) (fun j => t.getD j 0) rfl how.out _ ?hc rfl (by have := Bool.toNat_le nb; omega) ?_; (case hc => (show _ = ((t.getD (nb.toNat + k) 0 : Nat) : Int); rw [hgk.out]; omega)); intro v' w' how2 hv' hb2 hsz2; obtain ⟨g', cap', rfl⟩ := hv'; replace how2 := Hd.mk how2; replace hb2 := Hd.mk hb2)
      go_roundw
      case rel => exact ⟨k + 1, j, by omega, rfl, ⟨by rw [← Nat.add_assoc]; exact how2.out⟩⟩
      case measure => simp [intOf]
end Go.Proofs.YtdbjdpooggaonaaGreatDoor
end

section
namespace Go.Proofs.YtdbjdpooggaonaaGreatDoor
open Go.RowKit
set_option maxRecDepth 100000
set_option maxHeartbeats 2000000 in
theorem chopU_any (P : Nat → Prop) (bd : Nat) (x : Int) (S : Nat → Option Int) (w : World) (hI : Ints P w S) (hx : S bd = some x) (hw : wlen x.natAbs < 40) :
    Calls Tryz.prog 187 #[ptr bd] w fun e w' => (∃ B, e = .returned (ptr B)) ∧ Keep P w w' ∧ Ints P w' (upd S bd (chopU x)) := by
  have r0 := Hd.mk (Run.start hI)
  have hlo := Hd.mk hI.low
  have hl := hI.lt hx
  have hsg := Hd.mk (Sign_any P bd x S w hI hx)
  have hsd : (sgn x == -1) = decide (x < 0) := sgn_m1
  generalize sgn x = sg at *
  clear hI
  have hxk := Hd.mk hx
  clear hx
  by_cases hn : x < 0
  · rw [decide_eq_true hn] at hsd
    have hfin : chopU x = -((-x).tdiv E18) := by unfold chopU; rw [if_pos hn, tdiv18 (by omega)]
    have hwn : wlen (-x).natAbs < 40 := by rw [Int.natAbs_neg]; exact hw
    have hwq : wlen ((-x).tdiv E18).natAbs < 40 := Nat.lt_of_le_of_lt (wlen_mono (by rw [Int.natAbs_tdiv]; exact Nat.div_le_self _ _)) hwn
    have hm1 := Hd.mk (INeg_any _ bd bd x x _ w r0.out.ints hxk.out hxk.out (by omega))
    have hm2 := Hd.mk fun (Q : Nat → Prop) S1 w1 (h : Ints Q w1 S1) (h1 : S1 bd = some (-x)) => chopT_any Q bd (-x) S1 w1 h h1 (by omega)
    have hm3 := Hd.mk fun (Q : Nat → Prop) S1 w1 (h : Ints Q w1 S1) (h1 : S1 bd = some ((-x).tdiv E18)) => INeg_any Q bd bd _ _ S1 w1 h h1 h1 (by omega)
    rw [← hfin] at hm3
    clear hfin hwn hwq hn
    generalize chopU x = z at *
    generalize (-x).tdiv E18 = zn at *
    generalize -x = xn at *
    go_enter Tryz.func187, Tryz.ntmps187
    go_wp2_with fail
    refine hsg.out.mono ?_
    rintro e w' ⟨rfl, rfl⟩
    go_wp2_with fail
    refine (hm1.out).mono ?_
    rintro e w1 ⟨rfl, hk1, hI1⟩
    have s1 := hk1.size
    try simp only [World.size_alloc] at s1
    have r1 := Hd.mk (r0.out.op hk1 hI1)
    clear hk1 hI1 r0
    go_wp2_with fail
    refine (hm2.out _ _ _ r1.out.ints upd_same).mono ?_
    rintro e w2 ⟨rfl, hk2, hI2⟩
    have s2 := hk2.size
    try simp only [World.size_alloc] at s2
    have r2 := Hd.mk (r1.out.op hk2 hI2)
    clear hk2 hI2 r1
    go_wp2_with fail
    refine (hm3.out _ _ _ r2.out.ints upd_same).mono ?_
    rintro e w3 ⟨rfl, hk3, hI3⟩
    have s3 := hk3.size
    try simp only [World.size_alloc] at s3
    have r3 := Hd.mk (r2.out.op hk3 hI3)
    clear hk3 hI3 r2
    go_wp2
    go_ret
    refine ⟨⟨_, rfl⟩, r3.out.fin.1, r3.out.fin.2.sub fun k z' hk => ?_⟩
    rw [upd_upd2, upd_upd2]
    exact hk
  · rw [decide_eq_false hn] at hsd
    have h0 : 0 ≤ x := by omega
    have hr0 : 0 ≤ x % E18 := Int.emod_nonneg _ (by decide)
    have hrl : x % E18 < 1000000000000000000 := Int.emod_lt_of_pos _ (by decide)
    have hwd := wl_div h0 hw
    have hdef : chopU x = if x % E18 = 0 then x / E18 else x / E18 + 1 := by unfold chopU; rw [if_neg hn]
    have e1 := tdiv18 h0
    have e2 := tmod18 h0
    go_enter Tryz.func187, Tryz.ntmps187
    go_wp2_with fail
    refine hsg.out.mono ?_
    rintro e w' ⟨rfl, rfl⟩
    clear hsg
    go_wp2_with fail
    refine (NewInt_any 0 _ (by decide) (by decide)).mono ?_
    rintro e w1 ⟨B1, rfl, hn1⟩
    have r1 := Hd.mk (r0.out.new_int hn1)
    have g1 := hn1.ge
    have s1 := hn1.bel.size
    try simp only [World.size_alloc] at g1 s1
    have l1 := r1.out.ilt upd_same
    have q1 := Hd.mk hn1.bel
    clear hn1 r0
    go_wp2_with fail
    refine (precisionReuse_any _ r1.out.ok).mono ?_
    rintro e w2 ⟨B2, rfl, hn2⟩
    have r2 := Hd.mk (r1.out.new_int hn2)
    have g2 := hn2.ge
    have s2 := hn2.bel.size
    try simp only [World.size_alloc] at g2 s2
    have l2 := r2.out.ilt upd_same
    have q2 := Hd.mk hn2.bel
    clear hn2 r1
    have hq := Hd.mk (IQuoRem_any _ bd bd B2 B1 x x E18 0 _ w2 r2.out.ints (by rw [upd_ne (by omega), upd_ne (by omega)]; exact hxk.out) (by rw [upd_ne (by omega), upd_ne (by omega)]; exact hxk.out) upd_same (by rw [upd_ne (by omega), upd_same]) (by omega) (divOK18 (by omega)))
    rw [e1, e2] at hq
    clear e1 e2
    generalize hR : x % E18 = R at *
    generalize hQ : x / E18 = Qv at *
    replace hR := Hd.mk hR
    replace hQ := Hd.mk hQ
    replace hdef := Hd.mk hdef
    go_wp2_with fail
    refine (hq.out).mono ?_
    rintro e w3 ⟨rfl, hk3, hI3⟩
    have s3 := hk3.size
    try simp only [World.size_alloc] at s3
    have r3 := Hd.mk (r2.out.op hk3 hI3)
    clear hk3 hI3 r2
    clear hq
    have hs3 := Sign_any _ B1 R _ w3 r3.out.ints upd_same
    by_cases hR0 : R = 0
    · have hd3 : (sgn R == 0) = true := by rw [sgn_0]; exact decide_eq_true hR0
      have hfin : chopU x = Qv := by rw [hdef.out, if_pos (by omega)]
      generalize sgn R = s3' at *
      replace hR0 := Hd.mk hR0
      replace hs3 := Hd.mk hs3
      replace hfin := Hd.mk hfin
      go_wp2_with fail
      refine hs3.out.mono ?_
      rintro e w' ⟨rfl, rfl⟩
      go_wp2
      go_ret
      rw [hfin.out]
      refine ⟨⟨_, rfl⟩, r3.out.fin.1, r3.out.fin.2.sub fun k z hk => ?_⟩
      rcases upd_cases hk with ⟨rfl, rfl⟩ | ⟨hne, hk⟩
      · repeat first | exact upd_same | rw [upd_ne (by omega)]
      · have hkl := hlo.out.lt hk
        repeat rw [upd_ne (by first | exact hne | ((try simp only [World.size_alloc]); omega))]
        exact hk
    · have hd3 : (sgn R == 0) = false := by rw [sgn_0]; exact decide_eq_false hR0
      have hfin : chopU x = Qv + 1 := by rw [hdef.out, if_neg hR0]
      generalize sgn R = s3' at *
      replace hs3 := Hd.mk hs3
      replace hfin := Hd.mk hfin
      replace hR0 := Hd.mk hR0
      go_wp2_with fail
      refine hs3.out.mono ?_
      rintro e w' ⟨rfl, rfl⟩
      clear hs3
      go_wp2_with fail
      refine (oneInt_any _).mono ?_
      rintro e w6 ⟨B6, rfl, hn6⟩
      have r6 := Hd.mk (r3.out.new_int hn6)
      have g6 := hn6.ge
      have s6 := hn6.bel.size
      try simp only [World.size_alloc] at g6 s6
      have l6 := r6.out.ilt upd_same
      have q6 := Hd.mk hn6.bel
      clear hn6 r3
      have hm := Hd.mk (IAdd_any _ bd bd B6 Qv Qv 1 _ w6 r6.out.ints (by rw [upd_ne (by omega), upd_ne (by omega), upd_same]) (by rw [upd_ne (by omega), upd_ne (by omega), upd_same]) upd_same (by omega) (wl (n := 1) (by decide) (by decide)))
      go_wp2_with fail
      refine (hm.out).mono ?_
      rintro e w7 ⟨rfl, hk7, hI7⟩
      have s7 := hk7.size
      try simp only [World.size_alloc] at s7
      have r7 := Hd.mk (r6.out.op hk7 hI7)
      clear hk7 hI7 r6
      go_wp2
      go_ret
      rw [hfin.out]
      refine ⟨⟨_, rfl⟩, r7.out.fin.1, r7.out.fin.2.sub fun k z hk => ?_⟩
      rcases upd_cases hk with ⟨rfl, rfl⟩ | ⟨hne, hk⟩
      · repeat first | exact upd_same | rw [upd_ne (by omega)]
      · have hkl := hlo.out.lt hk
        repeat rw [upd_ne (by first | exact hne | ((try simp only [World.size_alloc]); omega))]
        exact hk
theorem wl_mul {x y : Int} (hx : wlen x.natAbs < 12) (hy : wlen y.natAbs < 12) : wlen (x * y).natAbs < 40 := by
  have h1 : x.natAbs < BB ^ 11 := (wlen_le_iff 11 _).1 (by omega)
  have h2 : y.natAbs < BB ^ 11 := (wlen_le_iff 11 _).1 (by omega)
  have h3 : (x * y).natAbs < BB ^ 22 := by
    rw [Int.natAbs_mul, show BB ^ 22 = BB ^ 11 * BB ^ 11 from Nat.pow_add _ 11 11]
    exact Nat.mul_lt_mul'' h1 h2
  have := wlen_le h3
  omega
theorem chopP_bd {x : Int} (h : 0 ≤ x) : 0 ≤ chopP x ∧ chopP x ≤ x + 1 := by
  unfold chopP E18
  split
  · omega
  · split
    · omega
    · split <;> omega
theorem wl_near {x z : Int} (hx : wlen x.natAbs < 40) (h : z.natAbs ≤ x.natAbs + 1) : wlen z.natAbs < 800 := by
  have h1 : x.natAbs < BB ^ 39 := (wlen_le_iff 39 _).1 (by omega)
  have h2 : z.natAbs < BB ^ 40 := by
    have : BB ^ 39 * 2 ≤ BB ^ 39 * BB := Nat.mul_le_mul_left _ (by decide)
    rw [Nat.pow_succ]; omega
  exact Nat.lt_of_le_of_lt (wlen_le h2) (by decide)
theorem chopR_bd (x : Int) : (chopR x).natAbs ≤ x.natAbs + 1 := by
  unfold chopR
  split
  · have := chopP_bd (x := -x) (by omega); omega
  · have := chopP_bd (x := x) (by omega); omega
theorem chopU_bd (x : Int) : (chopU x).natAbs ≤ x.natAbs + 1 := by
  unfold chopU
  split
  · unfold E18; omega
  · unfold E18; split <;> omega
theorem tdiv_bd (x : Int) : (x.tdiv E18).natAbs ≤ x.natAbs + 1 := by
  have : (x.tdiv E18).natAbs ≤ x.natAbs := by rw [Int.natAbs_tdiv]; exact Nat.div_le_self _ _
  omega
theorem Put.same {w w' : World} {b : Nat} {E : TypeId} {xs : List Value} (hb : Blk w b E xs) (h : Put w w' b E xs) : Below w.heap.size w w' :=
  ⟨h.os, h.tape, h.output, Nat.le_of_eq h.size.symm, fun k _ => if e : k = b then (by subst e; exact h.here.trans hb.symm) else h.other k e⟩
set_option maxHeartbeats 4000000 in
theorem MulTruncateMut_ok (P : Nat → Prop) (bd be : Nat) (x y : Int) (S : Nat → Option Int) (w : World) (hI : Ints P w S) (hx : S bd = some x) (hy : S be = some y) (hwx : wlen x.natAbs < 12) (hwy : wlen y.natAbs < 12) (hr : inR ((x * y).tdiv E18) = true) :
    Calls Tryz.prog 102 #[.agg #[ptr bd], .agg #[ptr be]] w fun e w' => e = .returned (.agg #[ptr bd]) ∧ Keep P w w' ∧ Ints P w' (upd S bd ((x * y).tdiv E18)) := by
  have r0 := Hd.mk (Run.start hI)
  have hlo := Hd.mk hI.low
  have hl := hI.lt hx
  have hle := hI.lt hy
  clear hI
  have r1 := Hd.mk (r0.out.box #[ptr bd] 68)
  clear r0
  have r2 := Hd.mk (r1.out.box #[ptr be] 68)
  clear r1
  have r3 := Hd.mk (r2.out.box #[.pointer none] 68)
  clear r2
  simp only [World.size_alloc] at r3
  have hm := Hd.mk (IMul_any _ bd bd be x x y _ _ r3.out.ints hx hx hy (by omega) (by omega) (fun _ => hwx))
  have hwm := wl_mul hwx hwy
  have hwz := wl_near hwm (tdiv_bd (x * y))
  replace hx := Hd.mk hx
  replace hy := Hd.mk hy
  generalize hzz : (x * y).tdiv E18 = z at *
  have hch := Hd.mk fun (Q : Nat → Prop) S1 w1 (h : Ints Q w1 S1) (h1 : S1 bd = some (x * y)) => chopT_any Q bd (x * y) S1 w1 h h1 (by omega)
  rw [hzz] at hch
  replace hzz := Hd.mk hzz
  generalize x * y = p at *
  go_enter Tryz.func102, Tryz.ntmps102
  go_wp2_with fail
  refine (hm.out).mono ?_
  rintro e w4 ⟨rfl, hk4, hI4⟩
  have s4 := hk4.size
  try simp only [World.size_alloc] at s4
  have r4 := Hd.mk (r3.out.op hk4 hI4)
  clear hk4 hI4 r3
  obtain ⟨c4, c4z, c4l⟩ := r4.out.cell (b := w.heap.size) (by rw [updX_ne (by omega), updX_ne (by omega), updX_same])
  go_wp2_with fail
  refine (hch.out _ _ _ r4.out.ints upd_same).mono ?_
  rintro e w5 ⟨rfl, hk5, hI5⟩
  have s5 := hk5.size
  try simp only [World.size_alloc] at s5
  have r5 := Hd.mk (r4.out.op hk5 hI5)
  clear hk5 hI5 r4 c4 c4z c4l
  have e5 := upd_upd2 (S := S) (B := bd) (a := p) (b := z)
  rw [e5] at r5
  clear e5
  obtain ⟨c5, c5z, c5l⟩ := r5.out.cell (b := w.heap.size) (by rw [updX_ne (by omega), updX_ne (by omega), updX_same])
  have ha := Hd.mk (assertIn_any _ bd z _ w5 r5.out.ints upd_same hwz hr)
  go_wp2_with fail
  refine (ha.out).mono ?_
  rintro e w6 ⟨rfl, hk6, hI6⟩
  have s6 := hk6.size
  try simp only [World.size_alloc] at s6
  have r6 := Hd.mk (r5.out.op hk6 hI6)
  clear hk6 hI6 r5
  obtain ⟨c6, c6z, c6l⟩ := r6.out.cell (b := w.heap.size) (by rw [updX_ne (by omega), updX_ne (by omega), updX_same])
  obtain ⟨e6, e6z, e6l⟩ := r6.out.cell (b := (w.heap.size + 1 + 1)) updX_same
  go_wp2
  have r9 := r6.out.store updX_same (put1 (r6.out.bx _ _ _ updX_same) (v' := ptr bd))
  refine bodyPost_ret (v := .agg #[ptr bd]) (by simp [results, Tryz.results102, go_sem, e6, e6z, e6l]) rfl ⟨rfl, r9.fin.1, r9.fin.2.sub fun k z' hk => ?_⟩
  first | exact hk | (rw [hzz.out] at hk; exact hk)
set_option maxHeartbeats 4000000 in
theorem MulTruncateMut_pan (P : Nat → Prop) (bd be : Nat) (x y : Int) (S : Nat → Option Int) (w : World) (hI : Ints P w S) (hx : S bd = some x) (hy : S be = some y) (hwx : wlen x.natAbs < 12) (hwy : wlen y.natAbs < 12) (hr : inR ((x * y).tdiv E18) = false) :
    Calls Tryz.prog 102 #[.agg #[ptr bd], .agg #[ptr be]] w fun e w' => Pan e ∧ Keep P w w' := by
  have r0 := Hd.mk (Run.start hI)
  have hlo := Hd.mk hI.low
  have hl := hI.lt hx
  have hle := hI.lt hy
  clear hI
  have r1 := Hd.mk (r0.out.box #[ptr bd] 68)
  clear r0
  have r2 := Hd.mk (r1.out.box #[ptr be] 68)
  clear r1
  have r3 := Hd.mk (r2.out.box #[.pointer none] 68)
  clear r2
  simp only [World.size_alloc] at r3
  have hm := Hd.mk (IMul_any _ bd bd be x x y _ _ r3.out.ints hx hx hy (by omega) (by omega) (fun _ => hwx))
  have hwm := wl_mul hwx hwy
  have hwz := wl_near hwm (tdiv_bd (x * y))
  replace hx := Hd.mk hx
  replace hy := Hd.mk hy
  generalize hzz : (x * y).tdiv E18 = z at *
  have hch := Hd.mk fun (Q : Nat → Prop) S1 w1 (h : Ints Q w1 S1) (h1 : S1 bd = some (x * y)) => chopT_any Q bd (x * y) S1 w1 h h1 (by omega)
  rw [hzz] at hch
  replace hzz := Hd.mk hzz
  generalize x * y = p at *
  go_enter Tryz.func102, Tryz.ntmps102
  go_wp2_with fail
  refine (hm.out).mono ?_
  rintro e w4 ⟨rfl, hk4, hI4⟩
  have s4 := hk4.size
  try simp only [World.size_alloc] at s4
  have r4 := Hd.mk (r3.out.op hk4 hI4)
  clear hk4 hI4 r3
  obtain ⟨c4, c4z, c4l⟩ := r4.out.cell (b := w.heap.size) (by rw [updX_ne (by omega), updX_ne (by omega), updX_same])
  go_wp2_with fail
  refine (hch.out _ _ _ r4.out.ints upd_same).mono ?_
  rintro e w5 ⟨rfl, hk5, hI5⟩
  have s5 := hk5.size
  try simp only [World.size_alloc] at s5
  have r5 := Hd.mk (r4.out.op hk5 hI5)
  clear hk5 hI5 r4 c4 c4z c4l
  have e5 := upd_upd2 (S := S) (B := bd) (a := p) (b := z)
  rw [e5] at r5
  clear e5
  obtain ⟨c5, c5z, c5l⟩ := r5.out.cell (b := w.heap.size) (by rw [updX_ne (by omega), updX_ne (by omega), updX_same])
  have ha := Hd.mk (assertOut_any _ bd z _ w5 r5.out.ints upd_same hwz hr)
  go_wp2_with fail
  refine ha.out.mono ?_
  rintro e w9 ⟨⟨u9, v9, rfl⟩, hk9⟩
  have hf := Hd.mk (r5.out.keep.trans (hk9.sub fun k hk => .inl hk))
  clear hk9
  first | exact ⟨⟨_, _, rfl⟩, hf.out⟩ | exact ⟨rfl, ⟨_, _, rfl⟩, hf.out⟩ | (go_wp2; exact ⟨rfl, ⟨_, _, rfl⟩, hf.out⟩)
set_option maxHeartbeats 4000000 in
theorem MulRoundUpMut_ok (P : Nat → Prop) (bd be : Nat) (x y : Int) (S : Nat → Option Int) (w : World) (hI : Ints P w S) (hx : S bd = some x) (hy : S be = some y) (hwx : wlen x.natAbs < 12) (hwy : wlen y.natAbs < 12) (hr : inR (chopU (x * y)) = true) :
    Calls Tryz.prog 104 #[.agg #[ptr bd], .agg #[ptr be]] w fun e w' => e = .returned (.agg #[ptr bd]) ∧ Keep P w w' ∧ Ints P w' (upd S bd (chopU (x * y))) := by
  have r0 := Hd.mk (Run.start hI)
  have hlo := Hd.mk hI.low
  have hl := hI.lt hx
  have hle := hI.lt hy
  clear hI
  have r1 := Hd.mk (r0.out.box #[ptr bd] 68)
  clear r0
  have r2 := Hd.mk (r1.out.box #[ptr be] 68)
  clear r1
  have r3 := Hd.mk (r2.out.box #[.pointer none] 68)
  clear r2
  simp only [World.size_alloc] at r3
  have hm := Hd.mk (IMul_any _ bd bd be x x y _ _ r3.out.ints hx hx hy (by omega) (by omega) (fun _ => hwx))
  have hwm := wl_mul hwx hwy
  have hwz := wl_near hwm (chopU_bd (x * y))
  replace hx := Hd.mk hx
  replace hy := Hd.mk hy
  generalize hzz : chopU (x * y) = z at *
  have hch := Hd.mk fun (Q : Nat → Prop) S1 w1 (h : Ints Q w1 S1) (h1 : S1 bd = some (x * y)) => chopU_any Q bd (x * y) S1 w1 h h1 (by omega)
  rw [hzz] at hch
  replace hzz := Hd.mk hzz
  generalize x * y = p at *
  go_enter Tryz.func104, Tryz.ntmps104
  go_wp2_with fail
  refine (hm.out).mono ?_
  rintro e w4 ⟨rfl, hk4, hI4⟩
  have s4 := hk4.size
  try simp only [World.size_alloc] at s4
  have r4 := Hd.mk (r3.out.op hk4 hI4)
  clear hk4 hI4 r3
  obtain ⟨c4, c4z, c4l⟩ := r4.out.cell (b := w.heap.size) (by rw [updX_ne (by omega), updX_ne (by omega), updX_same])
  go_wp2_with fail
  refine (hch.out _ _ _ r4.out.ints upd_same).mono ?_
  rintro e w5 ⟨⟨B5, rfl⟩, hk5, hI5⟩
  have s5 := hk5.size
  try simp only [World.size_alloc] at s5
  have r5 := Hd.mk (r4.out.op hk5 hI5)
  clear hk5 hI5 r4 c4 c4z c4l
  have e5 := upd_upd2 (S := S) (B := bd) (a := p) (b := z)
  rw [e5] at r5
  clear e5
  obtain ⟨c5, c5z, c5l⟩ := r5.out.cell (b := w.heap.size) (by rw [updX_ne (by omega), updX_ne (by omega), updX_same])
  have ha := Hd.mk (assertIn_any _ bd z _ w5 r5.out.ints upd_same hwz hr)
  go_wp2_with fail
  refine (ha.out).mono ?_
  rintro e w6 ⟨rfl, hk6, hI6⟩
  have s6 := hk6.size
  try simp only [World.size_alloc] at s6
  have r6 := Hd.mk (r5.out.op hk6 hI6)
  clear hk6 hI6 r5
  obtain ⟨c6, c6z, c6l⟩ := r6.out.cell (b := w.heap.size) (by rw [updX_ne (by omega), updX_ne (by omega), updX_same])
  obtain ⟨e6, e6z, e6l⟩ := r6.out.cell (b := (w.heap.size + 1 + 1)) updX_same
  go_wp2
  have r9 := r6.out.store updX_same (put1 (r6.out.bx _ _ _ updX_same) (v' := ptr bd))
  refine bodyPost_ret (v := .agg #[ptr bd]) (by simp [results, Tryz.results104, go_sem, e6, e6z, e6l]) rfl ⟨rfl, r9.fin.1, r9.fin.2.sub fun k z' hk => ?_⟩
  first | exact hk | (rw [hzz.out] at hk; exact hk)
set_option maxHeartbeats 4000000 in
theorem MulRoundUpMut_pan (P : Nat → Prop) (bd be : Nat) (x y : Int) (S : Nat → Option Int) (w : World) (hI : Ints P w S) (hx : S bd = some x) (hy : S be = some y) (hwx : wlen x.natAbs < 12) (hwy : wlen y.natAbs < 12) (hr : inR (chopU (x * y)) = false) :
    Calls Tryz.prog 104 #[.agg #[ptr bd], .agg #[ptr be]] w fun e w' => Pan e ∧ Keep P w w' := by
  have r0 := Hd.mk (Run.start hI)
  have hlo := Hd.mk hI.low
  have hl := hI.lt hx
  have hle := hI.lt hy
  clear hI
  have r1 := Hd.mk (r0.out.box #[ptr bd] 68)
  clear r0
  have r2 := Hd.mk (r1.out.box #[ptr be] 68)
  clear r1
  have r3 := Hd.mk (r2.out.box #[.pointer none] 68)
  clear r2
  simp only [World.size_alloc] at r3
  have hm := Hd.mk (IMul_any _ bd bd be x x y _ _ r3.out.ints hx hx hy (by omega) (by omega) (fun _ => hwx))
  have hwm := wl_mul hwx hwy
  have hwz := wl_near hwm (chopU_bd (x * y))
  replace hx := Hd.mk hx
  replace hy := Hd.mk hy
  generalize hzz : chopU (x * y) = z at *
  have hch := Hd.mk fun (Q : Nat → Prop) S1 w1 (h : Ints Q w1 S1) (h1 : S1 bd = some (x * y)) => chopU_any Q bd (x * y) S1 w1 h h1 (by omega)
  rw [hzz] at hch
  replace hzz := Hd.mk hzz
  generalize x * y = p at *
  go_enter Tryz.func104, Tryz.ntmps104
  go_wp2_with fail
  refine (hm.out).mono ?_
  rintro e w4 ⟨rfl, hk4, hI4⟩
  have s4 := hk4.size
  try simp only [World.size_alloc] at s4
  have r4 := Hd.mk (r3.out.op hk4 hI4)
  clear hk4 hI4 r3
  obtain ⟨c4, c4z, c4l⟩ := r4.out.cell (b := w.heap.size) (by rw [updX_ne (by omega), updX_ne (by omega), updX_same])
  go_wp2_with fail
  refine (hch.out _ _ _ r4.out.ints upd_same).mono ?_
  rintro e w5 ⟨⟨B5, rfl⟩, hk5, hI5⟩
  have s5 := hk5.size
  try simp only [World.size_alloc] at s5
  have r5 := Hd.mk (r4.out.op hk5 hI5)
  clear hk5 hI5 r4 c4 c4z c4l
  have e5 := upd_upd2 (S := S) (B := bd) (a := p) (b := z)
  rw [e5] at r5
  clear e5
  obtain ⟨c5, c5z, c5l⟩ := r5.out.cell (b := w.heap.size) (by rw [updX_ne (by omega), updX_ne (by omega), updX_same])
  have ha := Hd.mk (assertOut_any _ bd z _ w5 r5.out.ints upd_same hwz hr)
  go_wp2_with fail
  refine ha.out.mono ?_
  rintro e w9 ⟨⟨u9, v9, rfl⟩, hk9⟩
  have hf := Hd.mk (r5.out.keep.trans (hk9.sub fun k hk => .inl hk))
  clear hk9
  first | exact ⟨⟨_, _, rfl⟩, hf.out⟩ | exact ⟨rfl, ⟨_, _, rfl⟩, hf.out⟩ | (go_wp2; exact ⟨rfl, ⟨_, _, rfl⟩, hf.out⟩)
set_option maxHeartbeats 4000000 in
theorem MulMut_ok (P : Nat → Prop) (bd be : Nat) (x y : Int) (S : Nat → Option Int) (w : World) (hI : Ints P w S) (hx : S bd = some x) (hy : S be = some y) (hwx : wlen x.natAbs < 12) (hwy : wlen y.natAbs < 12) (hr : inR (chopR (x * y)) = true) :
    Calls Tryz.prog 100 #[.agg #[ptr bd], .agg #[ptr be]] w fun e w' => e = .returned (.agg #[ptr bd]) ∧ Keep P w w' ∧ Ints P w' (upd S bd (chopR (x * y))) := by
  have r0 := Hd.mk (Run.start hI)
  have hlo := Hd.mk hI.low
  have hl := hI.lt hx
  have hle := hI.lt hy
  clear hI
  have r1 := Hd.mk (r0.out.box #[ptr bd] 68)
  clear r0
  have r2 := Hd.mk (r1.out.box #[ptr be] 68)
  clear r1
  have r3 := Hd.mk (r2.out.box #[.pointer none] 68)
  clear r2
  simp only [World.size_alloc] at r3
  have hm := Hd.mk (IMul_any _ bd bd be x x y _ _ r3.out.ints hx hx hy (by omega) (by omega) (fun _ => hwx))
  have hwm := wl_mul hwx hwy
  have hwz := wl_near hwm (chopR_bd (x * y))
  replace hx := Hd.mk hx
  replace hy := Hd.mk hy
  generalize hzz : chopR (x * y) = z at *
  have hch := Hd.mk fun (Q : Nat → Prop) S1 w1 (h : Ints Q w1 S1) (h1 : S1 bd = some (x * y)) => chopR_any Q bd (x * y) S1 w1 h h1 (by omega)
  rw [hzz] at hch
  replace hzz := Hd.mk hzz
  generalize x * y = p at *
  go_enter Tryz.func100, Tryz.ntmps100
  go_wp2_with fail
  refine (hm.out).mono ?_
  rintro e w4 ⟨rfl, hk4, hI4⟩
  have s4 := hk4.size
  try simp only [World.size_alloc] at s4
  have r4 := Hd.mk (r3.out.op hk4 hI4)
  clear hk4 hI4 r3
  obtain ⟨c4, c4z, c4l⟩ := r4.out.cell (b := w.heap.size) (by rw [updX_ne (by omega), updX_ne (by omega), updX_same])
  go_wp2_with fail
  refine (hch.out _ _ _ r4.out.ints upd_same).mono ?_
  rintro e w5 ⟨rfl, hk5, hI5⟩
  have s5 := hk5.size
  try simp only [World.size_alloc] at s5
  have r5 := Hd.mk (r4.out.op hk5 hI5)
  clear hk5 hI5 r4 c4 c4z c4l
  have e5 := upd_upd2 (S := S) (B := bd) (a := p) (b := z)
  rw [e5] at r5
  clear e5
  obtain ⟨c5, c5z, c5l⟩ := r5.out.cell (b := w.heap.size) (by rw [updX_ne (by omega), updX_ne (by omega), updX_same])
  obtain ⟨own5, hst5⟩ := r5.out.ints
  obtain ⟨v5, hbk5, hns5⟩ := hst5.at_ bd z upd_same
  obtain ⟨A5, cap5, rfl, -⟩ := hns5
  have k50 := hbk5.cell 0
  have k51 := hbk5.cell 1
  simp only [List.getElem?_cons_succ, List.getElem?_cons_zero] at k50 k51
  have k5z := hbk5.frozen 0
  have k5y := hbk5.frozen 1
  have k5l := hbk5.lt
  replace hbk5 := Hd.mk hbk5

  replace hst5 := Hd.mk hst5
  go_upto_region 3 with fail
  go_cut [] (fun wx => Hd (Below w5.heap.size w5 wx))
  case first =>
    go_region
    all_goals
      go_wp2_with fail
      go_meet
      first
        | exact ⟨Put.same hbk5.out (((Put.refl hbk5.out).set 0 _).set 1 _)⟩
        | exact ⟨below_drew' (Put.same hbk5.out (((Put.refl hbk5.out).set 0 _).set 1 _))⟩
  case rest =>
  have r5' := Hd.mk (r5.out.below hcut.out)
  have s5' := Nat.le_trans s5 hcut.out.size
  clear s5 r5 hcut k50 k51 k5z k5y k5l hbk5 hst5 c5 c5z c5l w5
  have r5 := r5'
  have s5 := s5'
  clear r5' s5'
  generalize wc = w5 at *
  obtain ⟨c5, c5z, c5l⟩ := r5.out.cell (b := w.heap.size) (by rw [updX_ne (by omega), updX_ne (by omega), updX_same])
  have ha := Hd.mk (assertIn_any _ bd z _ w5 r5.out.ints upd_same hwz hr)
  go_wp2_with fail
  refine (ha.out).mono ?_
  rintro e w6 ⟨rfl, hk6, hI6⟩
  have s6 := hk6.size
  try simp only [World.size_alloc] at s6
  have r6 := Hd.mk (r5.out.op hk6 hI6)
  clear hk6 hI6 r5
  obtain ⟨c6, c6z, c6l⟩ := r6.out.cell (b := w.heap.size) (by rw [updX_ne (by omega), updX_ne (by omega), updX_same])
  obtain ⟨e6, e6z, e6l⟩ := r6.out.cell (b := (w.heap.size + 1 + 1)) updX_same
  go_wp2
  have r9 := r6.out.store updX_same (put1 (r6.out.bx _ _ _ updX_same) (v' := ptr bd))
  refine bodyPost_ret (v := .agg #[ptr bd]) (by simp [results, Tryz.results100, go_sem, e6, e6z, e6l]) rfl ⟨rfl, r9.fin.1, r9.fin.2.sub fun k z' hk => ?_⟩
  first | exact hk | (rw [hzz.out] at hk; exact hk)
set_option maxHeartbeats 4000000 in
theorem MulMut_pan (P : Nat → Prop) (bd be : Nat) (x y : Int) (S : Nat → Option Int) (w : World) (hI : Ints P w S) (hx : S bd = some x) (hy : S be = some y) (hwx : wlen x.natAbs < 12) (hwy : wlen y.natAbs < 12) (hr : inR (chopR (x * y)) = false) :
    Calls Tryz.prog 100 #[.agg #[ptr bd], .agg #[ptr be]] w fun e w' => Pan e ∧ Keep P w w' := by
  have r0 := Hd.mk (Run.start hI)
  have hlo := Hd.mk hI.low
  have hl := hI.lt hx
  have hle := hI.lt hy
  clear hI
  have r1 := Hd.mk (r0.out.box #[ptr bd] 68)
  clear r0
  have r2 := Hd.mk (r1.out.box #[ptr be] 68)
  clear r1
  have r3 := Hd.mk (r2.out.box #[.pointer none] 68)
  clear r2
  simp only [World.size_alloc] at r3
  have hm := Hd.mk (IMul_any _ bd bd be x x y _ _ r3.out.ints hx hx hy (by omega) (by omega) (fun _ => hwx))
  have hwm := wl_mul hwx hwy
  have hwz := wl_near hwm (chopR_bd (x * y))
  replace hx := Hd.mk hx
  replace hy := Hd.mk hy
  generalize hzz : chopR (x * y) = z at *
  have hch := Hd.mk fun (Q : Nat → Prop) S1 w1 (h : Ints Q w1 S1) (h1 : S1 bd = some (x * y)) => chopR_any Q bd (x * y) S1 w1 h h1 (by omega)
  rw [hzz] at hch
  replace hzz := Hd.mk hzz
  generalize x * y = p at *
  go_enter Tryz.func100, Tryz.ntmps100
  go_wp2_with fail
  refine (hm.out).mono ?_
  rintro e w4 ⟨rfl, hk4, hI4⟩
  have s4 := hk4.size
  try simp only [World.size_alloc] at s4
  have r4 := Hd.mk (r3.out.op hk4 hI4)
  clear hk4 hI4 r3
  obtain ⟨c4, c4z, c4l⟩ := r4.out.cell (b := w.heap.size) (by rw [updX_ne (by omega), updX_ne (by omega), updX_same])
  go_wp2_with fail
  refine (hch.out _ _ _ r4.out.ints upd_same).mono ?_
  rintro e w5 ⟨rfl, hk5, hI5⟩
  have s5 := hk5.size
  try simp only [World.size_alloc] at s5
  have r5 := Hd.mk (r4.out.op hk5 hI5)
  clear hk5 hI5 r4 c4 c4z c4l
  have e5 := upd_upd2 (S := S) (B := bd) (a := p) (b := z)
  rw [e5] at r5
  clear e5
  obtain ⟨c5, c5z, c5l⟩ := r5.out.cell (b := w.heap.size) (by rw [updX_ne (by omega), updX_ne (by omega), updX_same])
  obtain ⟨own5, hst5⟩ := r5.out.ints
  obtain ⟨v5, hbk5, hns5⟩ := hst5.at_ bd z upd_same
  obtain ⟨A5, cap5, rfl, -⟩ := hns5
  have k50 := hbk5.cell 0
  have k51 := hbk5.cell 1
  simp only [List.getElem?_cons_succ, List.getElem?_cons_zero] at k50 k51
  have k5z := hbk5.frozen 0
  have k5y := hbk5.frozen 1
  have k5l := hbk5.lt
  replace hbk5 := Hd.mk hbk5

  replace hst5 := Hd.mk hst5
  go_upto_region 3 with fail
  go_cut [] (fun wx => Hd (Below w5.heap.size w5 wx))
  case first =>
    go_region
    all_goals
      go_wp2_with fail
      go_meet
      first
        | exact ⟨Put.same hbk5.out (((Put.refl hbk5.out).set 0 _).set 1 _)⟩
        | exact ⟨below_drew' (Put.same hbk5.out (((Put.refl hbk5.out).set 0 _).set 1 _))⟩
  case rest =>
  have r5' := Hd.mk (r5.out.below hcut.out)
  have s5' := Nat.le_trans s5 hcut.out.size
  clear s5 r5 hcut k50 k51 k5z k5y k5l hbk5 hst5 c5 c5z c5l w5
  have r5 := r5'
  have s5 := s5'
  clear r5' s5'
  generalize wc = w5 at *
  obtain ⟨c5, c5z, c5l⟩ := r5.out.cell (b := w.heap.size) (by rw [updX_ne (by omega), updX_ne (by omega), updX_same])
  have ha := Hd.mk (assertOut_any _ bd z _ w5 r5.out.ints upd_same hwz hr)
  go_wp2_with fail
  refine ha.out.mono ?_
  rintro e w9 ⟨⟨u9, v9, rfl⟩, hk9⟩
  have hf := Hd.mk (r5.out.keep.trans (hk9.sub fun k hk => .inl hk))
  clear hk9
  first | exact ⟨⟨_, _, rfl⟩, hf.out⟩ | exact ⟨rfl, ⟨_, _, rfl⟩, hf.out⟩ | (go_wp2; exact ⟨rfl, ⟨_, _, rfl⟩, hf.out⟩)
end Go.Proofs.YtdbjdpooggaonaaGreatDoor
end

section
namespace Go.Proofs.YtdbjdpooggaonaaGreatDoor
open Go.RowKit
set_option maxRecDepth 100000
set_option maxHeartbeats 1000000 in
theorem dEqual_any (P : Nat → Prop) (bd be : Nat) (x y : Int) (S : Nat → Option Int) (w : World) (hI : Ints P w S) (hx : S bd = some x) (hy : S be = some y) (hw : wlen x.natAbs < 800) :
    Calls Tryz.prog 43 #[.agg #[ptr bd], .agg #[ptr be]] w fun e w' => e = .returned (.bool (decide (x = y))) ∧ Keep P w w' ∧ Ints P w' S := by
  have r0 := Hd.mk (Run.start hI)
  have hc : (cmpI x y == 0) = (decide (x = y)) := by
    rcases Int.lt_trichotomy x y with h | h | h
    · rw [cmpI_lt h, Bool.eq_iff_iff]; simp only [decide_eq_true_eq, beq_iff_eq]; omega
    · subst h; rw [cmpI_eq, Bool.eq_iff_iff]; simp only [decide_eq_true_eq, beq_iff_eq] <;> omega
    · rw [cmpI_gt h, Bool.eq_iff_iff]; simp only [decide_eq_true_eq, beq_iff_eq]; omega
  clear hI
  have r1 := Hd.mk (r0.out.box #[ptr bd] 68)
  clear r0
  have r2 := Hd.mk (r1.out.box #[ptr be] 68)
  clear r1
  have hm := Hd.mk (ICmp_any _ bd be x y S _ r2.out.ints hx hy hw)
  generalize cmpI x y = c at *
  replace hc := Hd.mk hc
  replace hx := Hd.mk hx
  replace hy := Hd.mk hy
  go_enter Tryz.func43, Tryz.ntmps43
  go_wp2_with fail
  refine hm.out.mono ?_
  rintro e w3 ⟨rfl, q, rfl⟩
  have r3 := Hd.mk (r2.out.drewN q).fin
  go_wp2
  go_ret
  exact ⟨by rw [← hc.out]; rfl, r3.out.1, r3.out.2⟩
set_option maxHeartbeats 1000000 in
theorem dGTE_any (P : Nat → Prop) (bd be : Nat) (x y : Int) (S : Nat → Option Int) (w : World) (hI : Ints P w S) (hx : S bd = some x) (hy : S be = some y) (hw : wlen x.natAbs < 800) :
    Calls Tryz.prog 45 #[.agg #[ptr bd], .agg #[ptr be]] w fun e w' => e = .returned (.bool (decide (y ≤ x))) ∧ Keep P w w' ∧ Ints P w' S := by
  have r0 := Hd.mk (Run.start hI)
  have hc : (decide (0 ≤ cmpI x y)) = (decide (y ≤ x)) := by
    rcases Int.lt_trichotomy x y with h | h | h
    · rw [cmpI_lt h, Bool.eq_iff_iff]; simp only [decide_eq_true_eq, beq_iff_eq]; omega
    · subst h; rw [cmpI_eq, Bool.eq_iff_iff]; simp only [decide_eq_true_eq, beq_iff_eq] <;> omega
    · rw [cmpI_gt h, Bool.eq_iff_iff]; simp only [decide_eq_true_eq, beq_iff_eq]; omega
  clear hI
  have r1 := Hd.mk (r0.out.box #[ptr bd] 68)
  clear r0
  have r2 := Hd.mk (r1.out.box #[ptr be] 68)
  clear r1
  have hm := Hd.mk (ICmp_any _ bd be x y S _ r2.out.ints hx hy hw)
  generalize cmpI x y = c at *
  replace hc := Hd.mk hc
  replace hx := Hd.mk hx
  replace hy := Hd.mk hy
  go_enter Tryz.func45, Tryz.ntmps45
  go_wp2_with fail
  refine hm.out.mono ?_
  rintro e w3 ⟨rfl, q, rfl⟩
  have r3 := Hd.mk (r2.out.drewN q).fin
  go_wp2
  go_ret
  exact ⟨by rw [← hc.out]; rfl, r3.out.1, r3.out.2⟩
set_option maxHeartbeats 1000000 in
theorem dLTE_any (P : Nat → Prop) (bd be : Nat) (x y : Int) (S : Nat → Option Int) (w : World) (hI : Ints P w S) (hx : S bd = some x) (hy : S be = some y) (hw : wlen x.natAbs < 800) :
    Calls Tryz.prog 47 #[.agg #[ptr bd], .agg #[ptr be]] w fun e w' => e = .returned (.bool (decide (x ≤ y))) ∧ Keep P w w' ∧ Ints P w' S := by
  have r0 := Hd.mk (Run.start hI)
  have hc : (decide (cmpI x y ≤ 0)) = (decide (x ≤ y)) := by
    rcases Int.lt_trichotomy x y with h | h | h
    · rw [cmpI_lt h, Bool.eq_iff_iff]; simp only [decide_eq_true_eq, beq_iff_eq]; omega
    · subst h; rw [cmpI_eq, Bool.eq_iff_iff]; simp only [decide_eq_true_eq, beq_iff_eq] <;> omega
    · rw [cmpI_gt h, Bool.eq_iff_iff]; simp only [decide_eq_true_eq, beq_iff_eq]; omega
  clear hI
  have r1 := Hd.mk (r0.out.box #[ptr bd] 68)
  clear r0
  have r2 := Hd.mk (r1.out.box #[ptr be] 68)
  clear r1
  have hm := Hd.mk (ICmp_any _ bd be x y S _ r2.out.ints hx hy hw)
  generalize cmpI x y = c at *
  replace hc := Hd.mk hc
  replace hx := Hd.mk hx
  replace hy := Hd.mk hy
  go_enter Tryz.func47, Tryz.ntmps47
  go_wp2_with fail
  refine hm.out.mono ?_
  rintro e w3 ⟨rfl, q, rfl⟩
  have r3 := Hd.mk (r2.out.drewN q).fin
  go_wp2
  go_ret
  exact ⟨by rw [← hc.out]; rfl, r3.out.1, r3.out.2⟩
set_option maxHeartbeats 1000000 in
theorem NewDecBig_any (P : Nat → Prop) (bx : Nat) (x : Int) (S : Nat → Option Int) (w : World) (hI : Ints P w S) (hx : S bx = some x) (hw : wlen x.natAbs < 40) :
    Calls Tryz.prog 73 #[ptr bx] w fun e w' => ∃ B, e = .returned (.agg #[ptr B]) ∧ w.heap.size ≤ B ∧ Keep P w w' ∧ Ints P w' (upd S B (x * E18)) := by
  have r0 := Hd.mk (Run.start hI)
  have hlx := hI.lt hx
  have hlo := Hd.mk hI.low
  clear hI
  have r1 := Hd.mk (r0.out.box #[.pointer none] 68)
  clear r0
  have hm := Hd.mk (NewDecPrec_any _ bx 0 x _ _ r1.out.ints hx (by decide) hw)
  rw [show ((10 ^ (18 - 0) : Nat) : Int) = E18 by unfold E18; decide] at hm
  generalize x * E18 = z at *
  replace hx := Hd.mk hx
  go_enter Tryz.func73, Tryz.ntmps73
  go_wp2_with fail
  refine (hm.out).mono ?_
  rintro e w4 ⟨B4, rfl, g4, hk4, hI4⟩
  have s4 := hk4.size
  try simp only [World.size_alloc] at g4 s4
  have r4 := Hd.mk (r1.out.op hk4 hI4)
  have l4 := r4.out.ilt upd_same
  clear hk4 hI4 r1
  obtain ⟨c4, c4z, c4l⟩ := r4.out.cell (b := w.heap.size) updX_same
  go_wp2
  have r5 := r4.out.store updX_same (put1 (r4.out.bx _ _ _ updX_same) (v' := ptr B4))
  refine bodyPost_ret (v := .agg #[ptr B4]) (by simp [results, Tryz.results73, go_sem, c4, c4z, c4l]) rfl ⟨_, rfl, by omega, r5.fin.1, r5.fin.2.sub fun k z hk => ?_⟩
  rcases upd_cases hk with ⟨rfl, rfl⟩ | ⟨hne, hk⟩
  · repeat first | exact upd_same | rw [upd_ne (by omega)]
  · have hkl := hlo.out.lt hk
    repeat rw [upd_ne (by first | exact hne | ((try simp only [World.size_alloc]); omega))]
    exact hk
end Go.Proofs.YtdbjdpooggaonaaGreatDoor
end

section
namespace Go.Proofs.YtdbjdpooggaonaaGreatDoor
open Go.RowKit
set_option maxRecDepth 100000
/-- A product that is rounded, if it is in range. -/
def rmul (x y : Int) : Option Int := if inR (chopR (x * y)) = true then some (chopR (x * y)) else none
/-- The power of a, times o, by squaring. -/
def pwS (n : Nat) (o a : Int) : Option Int :=
  if h : n ≤ 1 then rmul a o
  else
    (if n % 2 = 1 then rmul o a else some o).bind fun o' => (rmul a a).bind fun a' => pwS (n / 2) o' a'
termination_by n
decreasing_by omega
theorem pwS_one {n : Nat} {o a : Int} (h : n ≤ 1) : pwS n o a = rmul a o := by
  rw [pwS, dif_pos h]
theorem pwS_step {n : Nat} {o a : Int} (h : ¬ n ≤ 1) : pwS n o a = (if n % 2 = 1 then rmul o a else some o).bind fun o' => (rmul a a).bind fun a' => pwS (n / 2) o' a' := by
  rw [pwS, dif_neg h]
theorem rmul_in {x y z : Int} (h : rmul x y = some z) : inR z = true ∧ chopR (x * y) = z := by
  unfold rmul at h
  split at h
  · next h1 => cases h; exact ⟨h1, rfl⟩
  · cases h
theorem rmul_none {x y : Int} (h : rmul x y = none) : inR (chopR (x * y)) = false := by
  unfold rmul at h
  split at h
  · cases h
  · next h1 => simpa using h1
/-- The whole power. -/
def pwD (n : Nat) (a : Int) : Option Int := if n = 0 then some 1000000000000000000 else pwS n 1000000000000000000 a
end Go.Proofs.YtdbjdpooggaonaaGreatDoor
end
