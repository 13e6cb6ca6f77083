/- The thin package: what a decimal tells; the package is alive. The package is alive: the statements' first question. FnDecSums: the walk. What the rows' listed variables give; a world that meets them. Conditions: those that each theorem states. -/
import Derived.Test.YtmamfidjigmahaaGreatDoorSums27
import Derived.Test.YtmamfidjigmahaaGreatDoorSums25
import Derived.Test.YtmamfidjigmahaaGreatDoorSums24
import Derived.Test.YtmamfidjigmahaaGreatDoorSums21
import Derived.Test.YtmamfidjigmahaaGreatDoorCards
import Derived.Test.YtmamfidjigmahaaGreatDoorTie
import Derived.WalkKit
import Derived.ProofKit
import Derived.OpenShut
import Derived.Deep.DeepHandedRow
import Derived.Lib.LaidTab
import Derived.LaidLaws
import Derived.ChangeMaps5
set_option linter.all false

section
namespace Go.Proofs.YtmamfidjigmahaaGreatDoor
open Go.RowKit
set_option maxRecDepth 100000
/-- The answer for a decimal. -/
def tellL (x : Int) : List Value := abL (mkT (decL x)) (decide (x.tmod E18 = 0)) (decide (x = 0)) (decide (x < 0)) (decide (0 < x)) true (zT (chopR x)) (zT (x.tdiv E18)) (if is64 (chopR x) = true then chopR x else 0) (if is64 (x.tdiv E18) = true then x.tdiv E18 else 0) (is64 (chopR x)) (is64 (x.tdiv E18))
abbrev zeroL : List Value := abL (ByteArray.mk #[]) false false false false false (ByteArray.mk #[]) (ByteArray.mk #[]) 0 0 false false
abbrev teW (w : World) (a : ByteArray) : World := (w.alloc (.cells #[.string a] 9)).alloc (.cells #[.string (ByteArray.mk #[]), .bool false, .bool false, .bool false, .bool false, .bool false, .string (ByteArray.mk #[]), .string (ByteArray.mk #[]), .int .i64 0, .int .i64 0, .bool false, .bool false] 31)
set_option maxHeartbeats 4000000 in
theorem DecTell_ok (x : Int) (w : World) (hok : Ok w) (her : Er w) (hx : inR x = true) (hr : (chopR x).natAbs < 2 ^ 256) (ht : (x.tdiv E18).natAbs < 2 ^ 256) :
    Calls Tryz.prog 12 #[.string (zT x)] w fun e w' => e = .returned (.tuple #[.agg (tellL x).toArray, .bool true]) ∧ Below w.heap.size w w' := by
  have h1 : Blk (teW w (zT x)) w.heap.size 9 [.string (zT x)] := (Blk.new w #[.string (zT x)] 9).alloc _
  have h2 := Blk.new (w.alloc (.cells #[.string (zT x)] 9)) zeroL.toArray 31
  rw [World.size_alloc] at h2
  have h2 : Blk (teW w (zT x)) (w.heap.size + 1) 31 zeroL := h2
  have hb1 : Below w.heap.size w (teW w (zT x)) := ((Below.refl _ _).alloc (Nat.le_refl _) _).alloc (by rw [World.size_alloc]; omega) _
  have hs1 : (teW w (zT x)).heap.size = w.heap.size + 2 := by simp only [World.size_alloc]
  have h100 := hok.2
  generalize hW : teW w (zT x) = w1 at *
  have hb2 : Below w1.heap.size w1 (okW w1) := (Below.refl _ _).alloc (Nat.le_refl _) _
  have hb3 := hb1.trans (hb2.mono hb1.size)
  have hs2 : (okW w1).heap.size = w1.heap.size + 1 := World.size_alloc _ _
  have hc := DecTellC_ok w.heap.size (w.heap.size + 1) x (okW w1) (hok.below hb3) (her.below hb3) hx hr ht (h1.alloc _) (h2.alloc _) (by omega) (by omega)
  have htl : abL (mkT (decL x)) (decide (x.tmod E18 = 0)) (decide (x = 0)) (decide (x < 0)) (decide (0 < x)) true (zT (chopR x)) (zT (x.tdiv E18)) (if is64 (chopR x) = true then chopR x else 0) (if is64 (x.tdiv E18) = true then x.tdiv E18 else 0) (is64 (chopR x)) (is64 (x.tdiv E18)) = tellL x := rfl
  rw [htl] at hc
  have hsf := Hd.mk (safe_ok 32 _ w1 (fun w2 => Keep (fun k => k < (okW w1).heap.size ∧ k ≠ w.heap.size + 1) (okW w1) w2 ∧ Blk w2 (w.heap.size + 1) 31 (tellL x)) (enters Tryz.func32 (by kernel_rfl) (by kernel_rfl)) (hc.mono fun e w2 ⟨q2, q1, q3⟩ => ⟨q2, q1.block _ ⟨by omega, by omega⟩ (by omega), q1, q3⟩))
  have hfin : Hd (∀ w2 w3, Keep (fun k => k < (okW w1).heap.size ∧ k ≠ w.heap.size + 1) (okW w1) w2 → Put w2 w3 w1.heap.size 4 [.bool true] → Below w.heap.size w w3) := ⟨fun w2 w3 q1 q2 => q2.bel ⟨q1.os.trans hb3.os, q1.tape.trans hb3.tape, q1.output.trans hb3.output, Nat.le_trans hb3.size q1.size, fun k hk => (q1.block k ⟨by omega, by omega⟩ (by omega)).trans (hb3.block k hk)⟩ hb1.size⟩
  have hmf : ∀ (fn : Fn) (first cap : Array Value) (w : World), (Instr.makeFunc fn first cap).run Tryz.prog w = .ok (.func fn first cap) w := fun _ _ _ _ => rfl
  have hne : w.heap.size + 1 ≠ w1.heap.size := by omega
  obtain ⟨u0, u1, u2, u3, u4, u5, u6, u7, u8, u9, u10, u11, hu⟩ : ∃ u0 u1 u2 u3 u4 u5 u6 u7 u8 u9 u10 u11, tellL x = abL u0 u1 u2 u3 u4 u5 u6 u7 u8 u9 u10 u11 := ⟨_, _, _, _, _, _, _, _, _, _, _, _, rfl⟩
  rw [hu] at hsf ⊢
  generalize zT x = sx at *
  clear hc h1 h2 hb1 hb2 hb3 hok her htl hu hr ht hx
  go_enter Tryz.func12, Tryz.ntmps12
  go_wp2_with fail
  refine hsf.out.mono ?_
  rintro e w3 ⟨rfl, w2, ⟨hk2, hu2⟩, hp3⟩
  have hb3 := Hd.mk (hfin.out w2 w3 hk2 hp3)
  have hu3 := hp3.blk hu2 hne
  have lu : w.heap.size + 1 < w3.heap.size := hu3.lt
  have d0 : w3.cell? ⟨w.heap.size + 1, 0, none⟩ = some (.string u0) := hu3.cell 0
  have d1 : w3.cell? ⟨w.heap.size + 1, 1, none⟩ = some (.bool u1) := hu3.cell 1
  have d2 : w3.cell? ⟨w.heap.size + 1, 2, none⟩ = some (.bool u2) := hu3.cell 2
  have d3 : w3.cell? ⟨w.heap.size + 1, 3, none⟩ = some (.bool u3) := hu3.cell 3
  have d4 : w3.cell? ⟨w.heap.size + 1, 4, none⟩ = some (.bool u4) := hu3.cell 4
  have d5 : w3.cell? ⟨w.heap.size + 1, 5, none⟩ = some (.bool u5) := hu3.cell 5
  have d6 : w3.cell? ⟨w.heap.size + 1, 6, none⟩ = some (.string u6) := hu3.cell 6
  have d7 : w3.cell? ⟨w.heap.size + 1, 7, none⟩ = some (.string u7) := hu3.cell 7
  have d8 : w3.cell? ⟨w.heap.size + 1, 8, none⟩ = some (.int .i64 u8) := hu3.cell 8
  have d9 : w3.cell? ⟨w.heap.size + 1, 9, none⟩ = some (.int .i64 u9) := hu3.cell 9
  have d10 : w3.cell? ⟨w.heap.size + 1, 10, none⟩ = some (.bool u10) := hu3.cell 10
  have d11 : w3.cell? ⟨w.heap.size + 1, 11, none⟩ = some (.bool u11) := hu3.cell 11
  have z0 := hu3.frozen 0
  have z1 := hu3.frozen 1
  have z2 := hu3.frozen 2
  have z3 := hu3.frozen 3
  have z4 := hu3.frozen 4
  have z5 := hu3.frozen 5
  have z6 := hu3.frozen 6
  have z7 := hu3.frozen 7
  have z8 := hu3.frozen 8
  have z9 := hu3.frozen 9
  have z10 := hu3.frozen 10
  have z11 := hu3.frozen 11
  replace hu3 := Hd.mk hu3
  clear hu2 hk2 hp3 hsf hfin
  go_wp2
  have hb4 : Blk ((((((((((((w3.setCell ⟨w.heap.size + 1, 0, none⟩ (.string u0)).setCell ⟨w.heap.size + 1, 1, none⟩ (.bool u1)).setCell ⟨w.heap.size + 1, 2, none⟩ (.bool u2)).setCell ⟨w.heap.size + 1, 3, none⟩ (.bool u3)).setCell ⟨w.heap.size + 1, 4, none⟩ (.bool u4)).setCell ⟨w.heap.size + 1, 5, none⟩ (.bool u5)).setCell ⟨w.heap.size + 1, 6, none⟩ (.string u6)).setCell ⟨w.heap.size + 1, 7, none⟩ (.string u7)).setCell ⟨w.heap.size + 1, 8, none⟩ (.int .i64 u8)).setCell ⟨w.heap.size + 1, 9, none⟩ (.int .i64 u9)).setCell ⟨w.heap.size + 1, 10, none⟩ (.bool u10)).setCell ⟨w.heap.size + 1, 11, none⟩ (.bool u11)) (w.heap.size + 1) 31 (abL u0 u1 u2 u3 u4 u5 u6 u7 u8 u9 u10 u11) := ((((((((((((hu3.out.set 0 (.string u0)).set 1 (.bool u1)).set 2 (.bool u2)).set 3 (.bool u3)).set 4 (.bool u4)).set 5 (.bool u5)).set 6 (.string u6)).set 7 (.string u7)).set 8 (.int .i64 u8)).set 9 (.int .i64 u9)).set 10 (.bool u10)).set 11 (.bool u11))
  have hbel4 : Below w.heap.size w ((((((((((((w3.setCell ⟨w.heap.size + 1, 0, none⟩ (.string u0)).setCell ⟨w.heap.size + 1, 1, none⟩ (.bool u1)).setCell ⟨w.heap.size + 1, 2, none⟩ (.bool u2)).setCell ⟨w.heap.size + 1, 3, none⟩ (.bool u3)).setCell ⟨w.heap.size + 1, 4, none⟩ (.bool u4)).setCell ⟨w.heap.size + 1, 5, none⟩ (.bool u5)).setCell ⟨w.heap.size + 1, 6, none⟩ (.string u6)).setCell ⟨w.heap.size + 1, 7, none⟩ (.string u7)).setCell ⟨w.heap.size + 1, 8, none⟩ (.int .i64 u8)).setCell ⟨w.heap.size + 1, 9, none⟩ (.int .i64 u9)).setCell ⟨w.heap.size + 1, 10, none⟩ (.bool u10)).setCell ⟨w.heap.size + 1, 11, none⟩ (.bool u11)) := ((((((((((((((((((((((((hb3.out).setCell (p := ⟨w.heap.size + 1, 0, none⟩) (Nat.le_succ _) (.string u0))).setCell (p := ⟨w.heap.size + 1, 1, none⟩) (Nat.le_succ _) (.bool u1))).setCell (p := ⟨w.heap.size + 1, 2, none⟩) (Nat.le_succ _) (.bool u2))).setCell (p := ⟨w.heap.size + 1, 3, none⟩) (Nat.le_succ _) (.bool u3))).setCell (p := ⟨w.heap.size + 1, 4, none⟩) (Nat.le_succ _) (.bool u4))).setCell (p := ⟨w.heap.size + 1, 5, none⟩) (Nat.le_succ _) (.bool u5))).setCell (p := ⟨w.heap.size + 1, 6, none⟩) (Nat.le_succ _) (.string u6))).setCell (p := ⟨w.heap.size + 1, 7, none⟩) (Nat.le_succ _) (.string u7))).setCell (p := ⟨w.heap.size + 1, 8, none⟩) (Nat.le_succ _) (.int .i64 u8))).setCell (p := ⟨w.heap.size + 1, 9, none⟩) (Nat.le_succ _) (.int .i64 u9))).setCell (p := ⟨w.heap.size + 1, 10, none⟩) (Nat.le_succ _) (.bool u10))).setCell (p := ⟨w.heap.size + 1, 11, none⟩) (Nat.le_succ _) (.bool u11))
  generalize ((((((((((((w3.setCell ⟨w.heap.size + 1, 0, none⟩ (.string u0)).setCell ⟨w.heap.size + 1, 1, none⟩ (.bool u1)).setCell ⟨w.heap.size + 1, 2, none⟩ (.bool u2)).setCell ⟨w.heap.size + 1, 3, none⟩ (.bool u3)).setCell ⟨w.heap.size + 1, 4, none⟩ (.bool u4)).setCell ⟨w.heap.size + 1, 5, none⟩ (.bool u5)).setCell ⟨w.heap.size + 1, 6, none⟩ (.string u6)).setCell ⟨w.heap.size + 1, 7, none⟩ (.string u7)).setCell ⟨w.heap.size + 1, 8, none⟩ (.int .i64 u8)).setCell ⟨w.heap.size + 1, 9, none⟩ (.int .i64 u9)).setCell ⟨w.heap.size + 1, 10, none⟩ (.bool u10)).setCell ⟨w.heap.size + 1, 11, none⟩ (.bool u11)) = w4 at *
  have e0 : w4.cell? ⟨w.heap.size + 1, 0, none⟩ = some (.string u0) := hb4.cell 0
  have e1 : w4.cell? ⟨w.heap.size + 1, 1, none⟩ = some (.bool u1) := hb4.cell 1
  have e2 : w4.cell? ⟨w.heap.size + 1, 2, none⟩ = some (.bool u2) := hb4.cell 2
  have e3 : w4.cell? ⟨w.heap.size + 1, 3, none⟩ = some (.bool u3) := hb4.cell 3
  have e4 : w4.cell? ⟨w.heap.size + 1, 4, none⟩ = some (.bool u4) := hb4.cell 4
  have e5 : w4.cell? ⟨w.heap.size + 1, 5, none⟩ = some (.bool u5) := hb4.cell 5
  have e6 : w4.cell? ⟨w.heap.size + 1, 6, none⟩ = some (.string u6) := hb4.cell 6
  have e7 : w4.cell? ⟨w.heap.size + 1, 7, none⟩ = some (.string u7) := hb4.cell 7
  have e8 : w4.cell? ⟨w.heap.size + 1, 8, none⟩ = some (.int .i64 u8) := hb4.cell 8
  have e9 : w4.cell? ⟨w.heap.size + 1, 9, none⟩ = some (.int .i64 u9) := hb4.cell 9
  have e10 : w4.cell? ⟨w.heap.size + 1, 10, none⟩ = some (.bool u10) := hb4.cell 10
  have e11 : w4.cell? ⟨w.heap.size + 1, 11, none⟩ = some (.bool u11) := hb4.cell 11
  have l4 : w.heap.size + 1 < w4.heap.size := hb4.lt
  replace hb4 := Hd.mk hb4
  replace hbel4 := Hd.mk hbel4
  clear d0 d1 d2 d3 d4 d5 d6 d7 d8 d9 d10 d11 z0 z1 z2 z3 z4 z5 z6 z7 z8 z9 z10 z11
  refine bodyPost_ret (v := .tuple #[.agg (abL u0 u1 u2 u3 u4 u5 u6 u7 u8 u9 u10 u11).toArray, .bool true]) ?_ rfl ⟨rfl, hbel4.out⟩
  simp [results, Tryz.results12, go_sem, abL, e0, e1, e2, e3, e4, e5, e6, e7, e8, e9, e10, e11, l4]
/-- Sums, differences of decimals, through the thin package. -/
theorem DecAdd_ok (x y : Int) (w : World) (hok : Ok w) (her : Er w) (hx : inR x = true) (hy : inR y = true) (hr : inR (x + y) = true) :
    Calls Tryz.prog 20 #[.int .i64 0, .string (zT x), .string (zT y), .bool false] w fun e w' => e = .returned (.tuple #[.string (zT (x + y)), .bool true, .bool true]) ∧ Below w.heap.size w w' :=
  DecOp_ok 0 _ _ _ false true w hok her fun ba bb bo bm bu bk w1 h1 h2 ha hb ho hm hu hk hd hb1 hk1 => (DecOpAdd_ok ba bb bo bm bu bk x y w1 h1 h2 hx hy ha hb ho hm hu hk hd hb1 hk1 hr).mono fun e w' ⟨q1, q2, q3, q4⟩ => ⟨q2, q1, q3, q4⟩
theorem DecSub_ok (x y : Int) (w : World) (hok : Ok w) (her : Er w) (hx : inR x = true) (hy : inR y = true) (hr : inR (x - y) = true) :
    Calls Tryz.prog 20 #[.int .i64 1, .string (zT x), .string (zT y), .bool false] w fun e w' => e = .returned (.tuple #[.string (zT (x - y)), .bool true, .bool true]) ∧ Below w.heap.size w w' :=
  DecOp_ok 1 _ _ _ false true w hok her fun ba bb bo bm bu bk w1 h1 h2 ha hb ho hm hu hk hd hb1 hk1 => (DecOpSub_ok ba bb bo bm bu bk x y w1 h1 h2 hx hy ha hb ho hm hu hk hd hb1 hk1 hr).mono fun e w' ⟨q1, q2, q3, q4⟩ => ⟨q2, q1, q3, q4⟩
end Go.Proofs.YtmamfidjigmahaaGreatDoor
end

section
namespace Go.Proofs.YtmamfidjigmahaaGreatDoor
open Go.RowKit
set_option maxRecDepth 100000
theorem zT_lit {l : List Nat} (h : ∀ b, b ∈ l → isD b) (h0 : l ≠ []) (h1 : l.length = 1 ∨ l.head? ≠ some 48) : zT (nums l : Int) = mkT l := by
  unfold zT
  rw [ztx_pos (Int.natCast_nonneg _), Int.natAbs_natCast, dtxt_nums h h0 h1]
theorem zT_litn {l : List Nat} (h : ∀ b, b ∈ l → isD b) (h0 : l ≠ []) (h1 : l.length = 1 ∨ l.head? ≠ some 48) (h2 : nums l ≠ 0) : zT (-(nums l : Int)) = mkT (45 :: l) := by
  unfold zT
  rw [ztx_neg (by omega), Int.natAbs_neg, Int.natAbs_natCast, dtxt_nums h h0 h1]
theorem ext_of {s t : ByteArray} {i j : Nat} (h : ((bts s).take j).drop i = bts t) : s.extract i j = t := bts_inj (by rw [bts_ext, h])
theorem z1 : zT 1 = ByteArray.mk #[49] := (zT_lit (l := [49]) (by decide) (by decide) (by decide)).trans rfl
theorem z2 : zT 2 = ByteArray.mk #[50] := (zT_lit (l := [50]) (by decide) (by decide) (by decide)).trans rfl
theorem z3 : zT 3 = ByteArray.mk #[51] := (zT_lit (l := [51]) (by decide) (by decide) (by decide)).trans rfl
theorem zp : zT 1500000000000000000 = ByteArray.mk #[49, 53, 48, 48, 48, 48, 48, 48, 48, 48, 48, 48, 48, 48, 48, 48, 48, 48, 48] := (zT_lit (l := [49, 53, 48, 48, 48, 48, 48, 48, 48, 48, 48, 48, 48, 48, 48, 48, 48, 48, 48]) (by decide) (by decide) (by decide)).trans rfl
theorem zm : zT (-1500000000000000000) = ByteArray.mk #[45, 49, 53, 48, 48, 48, 48, 48, 48, 48, 48, 48, 48, 48, 48, 48, 48, 48, 48, 48] := (zT_litn (l := [49, 53, 48, 48, 48, 48, 48, 48, 48, 48, 48, 48, 48, 48, 48, 48, 48, 48, 48]) (by decide) (by decide) (by decide) (by decide)).trans rfl
theorem dx : mkT (decL 1500000000000000000) = ByteArray.mk #[49, 46, 53, 48, 48, 48, 48, 48, 48, 48, 48, 48, 48, 48, 48, 48, 48, 48, 48, 48] := by
  have h : dtxt false (1500000000000000000 : Int).natAbs = [49, 53, 48, 48, 48, 48, 48, 48, 48, 48, 48, 48, 48, 48, 48, 48, 48, 48, 48] := dtxt_nums (l := [49, 53, 48, 48, 48, 48, 48, 48, 48, 48, 48, 48, 48, 48, 48, 48, 48, 48, 48]) (by decide) (by decide) (by decide)
  unfold decL
  rw [h]
  rfl
theorem from15 (w : World) (hok : Ok w) (her : Er w) : Calls Tryz.prog 48 #[.string (ByteArray.mk #[45, 49, 46, 53])] w fun e w' => ∃ B, e = .returned (.tuple #[.agg #[ptr B], .nilIface]) ∧ NewI w w' B (-1500000000000000000) := by
  have hz : decZ true (ByteArray.mk #[49]) (ByteArray.mk #[53]) = -1500000000000000000 := by decide
  have h := FromStr_ok (ByteArray.mk #[45, 49, 46, 53]) (ByteArray.mk #[49, 46, 53]) (ByteArray.mk #[49]) (ByteArray.mk #[53]) true true w hok her (by decide)
    (by unfold unm; rw [if_pos (by decide)]; rw [show (ByteArray.mk #[45, 49, 46, 53]).extract 1 (ByteArray.mk #[45, 49, 46, 53]).size = ByteArray.mk #[49, 46, 53] from ext_of rfl])
    (by
      rw [if_pos rfl]
      have h1 : (ByteArray.mk #[49, 46, 53]).extract 0 1 = ByteArray.mk #[49] := ext_of rfl
      have h2 : (ByteArray.mk #[49, 46, 53]).extract (1 + 1) (ByteArray.mk #[49, 46, 53]).size = ByteArray.mk #[53] := ext_of rfl
      have h3 := Spl.more (ByteArray.mk #[49, 46, 53]) 1 [ByteArray.mk #[53]] (by decide) (by decide) (by decide) (by rw [h2]; exact .one _ (by decide))
      rwa [h1] at h3)
    (by decide) (by decide) (by decide) (by decide) (by rw [hz]; decide)
  rwa [hz] at h
set_option maxHeartbeats 4000000 in
theorem alive_any (w : World) (hok : Ok w) (her : Er w) : Calls Tryz.prog 11 #[] w fun e w' => e = .returned (.bool true) ∧ Below w.heap.size w w' := by
  have ha := DecAdd_ok 1 2 w hok her (by decide) (by decide) (by decide)
  rw [show (1 : Int) + 2 = 3 from rfl, z1, z2, z3] at ha
  have hp := Hd.mk fun w1 h1 h2 => DecParse_ok (ByteArray.mk #[45, 49, 46, 53]) (-1500000000000000000) w1 h1 h2 (by decide) from15
  rw [zm] at hp
  have ht := Hd.mk fun w1 h1 h2 => DecTell_ok 1500000000000000000 w1 h1 h2 (by decide) (by decide) (by decide)
  have hl : tellL 1500000000000000000 = abL (mkT (decL 1500000000000000000)) false false false true true (zT 2) (zT 1) 2 1 true true := by
    unfold tellL
    rw [show chopR 1500000000000000000 = 2 by decide, show (1500000000000000000 : Int).tdiv E18 = 1 by decide, show (1500000000000000000 : Int).tmod E18 = 500000000000000000 by decide]
    rfl
  rw [hl, dx, z1, z2, zp] at ht
  unfold abL at ht
  replace ha := Hd.mk ha
  go_enter Tryz.func11, Tryz.ntmps11
  go_wp2_with (first
    | (go_at_call 20; refine ha.out.mono ?_; rintro e w2 ⟨rfl, hb2⟩; have ho2 := hok.below hb2; have he2 := her.below hb2)
    | (go_at_call 13; refine (hp.out w2 ho2 he2).mono ?_; rintro e w3 ⟨rfl, hb3⟩; have ho3 := ho2.below hb3; have he3 := he2.below hb3; have hb23 := hb2.trans (hb3.mono hb2.size))
    | (go_at_call 12; refine (ht.out w3 ho3 he3).mono ?_; rintro e w4 ⟨rfl, hb4⟩; have hb24 := hb23.trans (hb4.mono hb23.size)))
  go_ret
  exact ⟨rfl, hb24.alloc hb24.size _⟩
end Go.Proofs.YtmamfidjigmahaaGreatDoor
end

section
namespace Go.Proofs.YtmamfidjigmahaaGreatDoor
open Go.RowKit
set_option maxRecDepth 100000
theorem inR_of {x : Int} (h1 : -lim ≤ x) (h2 : x ≤ lim) : inR x = true := decide_eq_true ⟨h1, h2⟩
theorem most_lim : mostZ = lim := by decide
/-- A text of parts of at most a quarter of the range. -/
def Qr (s : ByteArray) : Prop := ∃ x : Int, s = zT x ∧ ((x * 4).natAbs : Int) ≤ lim
theorem num_open2 {w : World} {b : Bool} {A : Option Addr} {n c : Nat} {x : Int} (h : NumV w (.agg #[.bool b, .slice A n c]) x) : n = T.wlen x.natAbs := by
  obtain ⟨A', cap, e, _⟩ := h.open
  cases e; rfl
theorem wlq {x : Int} (h : (x.natAbs : Int) ≤ lim) : T.wlen x.natAbs < 200 := by
  have hl : (lim.natAbs : Int) = lim := by decide
  have : x.natAbs ≤ lim.natAbs := by omega
  have h2 := T.wlen_mono this
  have h3 : T.wlen lim.natAbs < 200 := by rw [← most_lim]; exact wl_most
  omega
theorem w4 : T.wlen (4 : Int).natAbs < 100 := Nat.lt_of_le_of_lt (T.wlen_le (n := 20) (by unfold T.BB; decide)) (by decide)
theorem w4x {x : Int} (h : (x.natAbs : Int) ≤ lim) : T.wlen (x * 4).natAbs < 900 := by
  have h1 : (x * 4).natAbs < 10 ^ 200 := by
    rw [Int.natAbs_mul]
    have hl : lim.toNat < 10 ^ 100 := by decide
    have : x.natAbs < 10 ^ 100 := by omega
    calc x.natAbs * Int.natAbs 4 ≤ 10 ^ 100 * 4 := Nat.mul_le_mul (Nat.le_of_lt this) (Nat.le_refl _)
      _ < 10 ^ 200 := by decide
  exact Nat.lt_of_le_of_lt (T.wlen_le (n := 200) (Nat.lt_of_lt_of_le h1 (by unfold T.BB; decide))) (by decide)
set_option maxHeartbeats 8000000 in
theorem sums_walk (a b c : ByteArray) (w : World) (hok : Ok w) (her : Er w) :
    Calls Tryz.prog 5 #[.string a, .string b, .string c] w fun e w' => e = .returned (.bool true) ∧ Below w.heap.size w w' := by
  by_cases h1 : 2147483647 < a.size
  · have d1 : decide ((2147483647 : Int) < (a.size : Int)) = true := decide_eq_true (by omega)
    go_enter Tryz.func5, Tryz.ntmps5
    go_wp2
    go_ret
    exact ⟨rfl, Below.refl _ _⟩
  have d1 : decide ((2147483647 : Int) < (a.size : Int)) = false := decide_eq_false (by omega)
  by_cases h2 : 2147483647 < b.size
  · have d2 : decide ((2147483647 : Int) < (b.size : Int)) = true := decide_eq_true (by omega)
    go_enter Tryz.func5, Tryz.ntmps5
    go_wp2
    go_ret
    exact ⟨rfl, Below.refl _ _⟩
  have d2 : decide ((2147483647 : Int) < (b.size : Int)) = false := decide_eq_false (by omega)
  by_cases h3 : 2147483647 < c.size
  · have d3 : decide ((2147483647 : Int) < (c.size : Int)) = true := decide_eq_true (by omega)
    go_enter Tryz.func5, Tryz.ntmps5
    go_wp2
    go_ret
    exact ⟨rfl, Below.refl _ _⟩
  have d3 : decide ((2147483647 : Int) < (c.size : Int)) = false := decide_eq_false (by omega)
  have hl : ∃ l : Nat → ByteArray, l 0 = a ∧ l 1 = b ∧ l 2 = c ∧ ∀ k, k < 3 → (l k).size < 4294967296 := ⟨fun k => if k = 0 then a else if k = 1 then b else c, rfl, rfl, rfl, fun k hk => by dsimp only; split; (· omega); split <;> omega⟩
  obtain ⟨l, l0, l1, l2, hls⟩ := hl
  have hbk := Blk.new w #[.string a, .string b, .string c] 9
  have hb1 : Below w.heap.size w (w.alloc (.cells #[.string a, .string b, .string c] 9)) := (Below.refl _ _).alloc (Nat.le_refl _) _
  have hsz : (w.alloc (.cells #[.string a, .string b, .string c] 9)).heap.size = w.heap.size + 1 := World.size_alloc _ _
  have hcell : Hd (∀ k, k < 3 → ∀ wr, Below (w.alloc (.cells #[.string a, .string b, .string c] 9)).heap.size (w.alloc (.cells #[.string a, .string b, .string c] 9)) wr → wr.cell? ⟨w.heap.size, k, none⟩ = some (.string (l k))) := ⟨fun k hk wr hb => by
    refine cb' hb ?_
    rw [hbk.cell]
    match k, hk with
    | 0, _ => rw [l0]; rfl
    | 1, _ => rw [l1]; rfl
    | 2, _ => rw [l2]; rfl⟩
  have hpt := Hd.mk fun k (hk : k < 3) w1 => parts_any (l k) w1 (hls k hk)
  have hal := Hd.mk alive_any
  have hof := Hd.mk fun w1 => nv (of_nat 4 w1 (by omega))
  rw [show ((4 : Nat) : Int) = 4 from rfl] at hof
  replace l0 := Hd.mk l0
  replace l1 := Hd.mk l1
  replace l2 := Hd.mk l2
  replace hls := Hd.mk hls
  replace hbk := Hd.mk hbk
  go_enter Tryz.func5, Tryz.ntmps5
  go_wp2
  have hok1 := hok.below hb1
  have her1 := her.below hb1
  generalize w.alloc (.cells #[.string a, .string b, .string c] 9) = w1 at *
  go_loopw [47] (fun i wr => ∃ k : Nat, k ≤ 3 ∧ i = .int .i64 k ∧ Hd (Below w1.heap.size w1 wr) ∧ Hd (∀ j, j < k → Qr (l j))) (fun i _ => 3 - (intOf i).toNat)
  case atStart => exact ⟨0, by omega, rfl, ⟨Below.refl _ _⟩, ⟨fun j hj => by omega⟩⟩
  case round =>
    obtain ⟨k, hk, rfl, hbel, hq⟩ := hrel
    by_cases hk3 : k < 3
    · have dk : decide ((k : Int) < 3) = true := decide_eq_true (by omega)
      have hck := hcell.out k hk3 _ hbel.out
      have i0 : (0 : Int) ≤ (k : Int) := by omega
      have i1 : (k : Int) < 3 := by omega
      have hwk : IntKind.i64.wrap ((k : Int) + 1) = (k : Int) + 1 := IntWalk.i64_in _ (by omega)
      have hptk := Hd.mk (hpt.out k hk3)
      generalize hlk : l k = s at *
      replace hlk := Hd.mk hlk
      go_upto_region 7 with (go_at_call 7; refine (hptk.out _).mono ?_; rintro e w2 ⟨b2, A2, n2, c2, ok, rfl, hx, hb2⟩; replace hx := Hd.mk hx; have hb3 := Hd.mk (hbel.out.trans (hb2.mono hbel.out.size)); clear hb2)
      have hba : Below w2.heap.size w2 (w2.alloc (.cells #[.bool b2, .slice A2 n2 c2] 24)) := (Below.refl _ _).alloc (Nat.le_refl _) _
      have hbk3 := Blk.new w2 #[.bool b2, .slice A2 n2 c2] 24
      have e0 := hbk3.cell 0
      have e1 := hbk3.cell 1
      simp only [List.getElem?_cons_succ, List.getElem?_cons_zero] at e0 e1
      have hb4 := Hd.mk (hb3.out.trans (hba.mono hb3.out.size))
      have hxb := Hd.mk fun x (h : NumV w2 (.agg #[.bool b2, .slice A2 n2 c2]) x) => h.below hba
      generalize w2.alloc (.cells #[.bool b2, .slice A2 n2 c2] 24) = w3 at *
      replace hbk3 := Hd.mk hbk3
      clear hba
      cases ok
      · go_region
        all_goals
          go_wp2_with (go_at_call 11; refine (hal.out _ (hok1.below (below_drew' hb4.out)) (her1.below (below_drew' hb4.out))).mono ?_; rintro e w9 ⟨rfl, hb9⟩; have hb10 := Hd.mk (hb1.trans ((below_drew' hb4.out).trans (hb9.mono hb4.out.size) |>.mono hb1.size)); clear hb9)
          go_ret
          exact ⟨rfl, hb10.out⟩
      · obtain ⟨x, hsx, hxm, hnx⟩ := hx.out rfl
        rw [most_lim] at hxm
        have hn3 := Hd.mk (hxb.out x hnx)
        have hmul := Hd.mk fun w5 b4 A4 n4 c4 (q1 : NumV w5 (.agg #[.bool b2, .slice A2 n2 c2]) x) (q2 : NumV w5 (.agg #[.bool b4, .slice A4 n4 c4]) 4) => nv (ntimes_any _ _ x 4 w5 q1 q2 (by have := wlq hxm; omega) (by have := w4; omega))
        have hwi := Hd.mk fun w5 b4 A4 n4 c4 (q1 : NumV w5 (.agg #[.bool b4, .slice A4 n4 c4]) (x * 4)) => within_any _ (x * 4) w5 q1 (w4x hxm)
        have hQ : decide (((x * 4).natAbs : Int) ≤ mostZ) = true → Qr s := fun h => ⟨x, hsx, by rw [← most_lim]; exact of_decide_eq_true h⟩
        replace hsx := Hd.mk hsx
        replace hxm := Hd.mk hxm
        replace hnx := Hd.mk hnx
        generalize decide (((x * 4).natAbs : Int) ≤ mostZ) = dc at *
        replace hQ := Hd.mk hQ
        cases dc
        all_goals
          go_region_law (first
            | (go_simp; go_at_call 19; refine (hof.out _).mono ?_; rintro e w4 ⟨b4, A4, n4, c4, rfl, hn4, hb4'⟩; have hbu := below_undrew hb4'; have f0 := cb hbu e0; have f1 := cb hbu e1; have hx4 := Hd.mk (hn3.out.below hbu); have hb5 := Hd.mk (hb4.out.trans (hbu.mono hb4.out.size)); clear hbu hb4'; replace hn4 := Hd.mk hn4)
            | (go_simp; go_at_call 18; refine (hmul.out w4 _ _ _ _ hx4.out hn4.out).mono ?_; rintro e w5 ⟨b5, A5, n5, c5, rfl, hn5, hb5'⟩; have hb6 := Hd.mk (hb5.out.trans (hb5'.mono hb5.out.size)); clear hb5'; replace hn5 := Hd.mk hn5)
            | (go_simp; go_at_call 17; refine (hwi.out w5 _ _ _ _ hn5.out).mono ?_; rintro e w6 ⟨rfl, hb6'⟩; have hb7 := Hd.mk (hb6.out.trans (hb6'.mono hb6.out.size)); clear hb6'))
        all_goals
          first
            | (go_wp2_with (go_at_call 11; refine (hal.out _ (hok1.below hb7.out) (her1.below hb7.out)).mono ?_; rintro e w9 ⟨rfl, hb9⟩; have hb10 := Hd.mk (hb1.trans ((hb7.out.trans (hb9.mono hb7.out.size)).mono hb1.size)); clear hb9)
               go_ret
               exact ⟨rfl, hb10.out⟩)
            | (go_wp2
               go_roundw
               case rel => exact ⟨k + 1, by omega, by rw [Int.natCast_succ], hb7, ⟨fun j hj => if e : j = k then by rw [e, hlk.out]; exact hQ.out rfl else hq.out j (by omega)⟩⟩
               case measure => simp [intOf]; omega)
    · obtain rfl : k = 3 := by omega
      have dk : decide (((3 : Nat) : Int) < 3) = false := by decide
      obtain ⟨x, rfl, hx⟩ := l0.out ▸ hq.out 0 (by omega)
      obtain ⟨y, rfl, hy⟩ := l1.out ▸ hq.out 1 (by omega)
      obtain ⟨z, rfl, hz⟩ := l2.out ▸ hq.out 2 (by omega)
      have ix : inR x = true := inR_of (by omega) (by omega)
      have iy : inR y = true := inR_of (by omega) (by omega)
      have iz : inR z = true := inR_of (by omega) (by omega)
      have ixy : inR (x + y) = true := inR_of (by omega) (by omega)
      have iyx : inR (y + x) = true := inR_of (by omega) (by omega)
      have iyz : inR (y + z) = true := inR_of (by omega) (by omega)
      have ixyz : inR (x + y + z) = true := inR_of (by omega) (by omega)
      have ixyz2 : inR (x + (y + z)) = true := inR_of (by omega) (by omega)
      have ixyy : inR (x + y - y) = true := inR_of (by omega) (by omega)
      have cP := Hd.mk fun w1 q1 q2 => DecAdd_ok x y w1 q1 q2 ix iy ixy
      have cQ := Hd.mk fun w1 q1 q2 => DecAdd_ok (x + y) z w1 q1 q2 ixy iz ixyz
      have cR := Hd.mk fun w1 q1 q2 => DecAdd_ok y z w1 q1 q2 iy iz iyz
      have cS := Hd.mk fun w1 q1 q2 => DecAdd_ok x (y + z) w1 q1 q2 ix iyz ixyz2
      have cT := Hd.mk fun w1 q1 q2 => DecSub_ok (x + y) y w1 q1 q2 ixy iy ixyy
      have cU := Hd.mk fun w1 q1 q2 => DecAdd_ok y x w1 q1 q2 iy ix iyx
      rw [show x + (y + z) = x + y + z by omega] at cS
      rw [show x + y - y = x by omega] at cT
      rw [show y + x = x + y by omega] at cU
      clear ix iy iz ixy iyx iyz ixyz ixyz2 ixyy hx hy hz hq hcell hpt hls
      generalize zT x = sx at *
      generalize zT y = sy at *
      generalize zT z = sz at *
      generalize zT (x + y) = sp at *
      generalize zT (x + y + z) = sq at *
      generalize zT (y + z) = sr at *
      have hb0 := hbel
      go_upto_region 11 with (go_at_call 20; refine (cP.out _ (hok1.below hb0.out) (her1.below hb0.out)).mono ?_; rintro e v10 ⟨rfl, hn10⟩; have hb10 := Hd.mk (hb0.out.trans (hn10.mono hb0.out.size)); clear hn10)
      go_upto_region 12 with (go_at_call 20; refine (cQ.out _ (hok1.below hb10.out) (her1.below hb10.out)).mono ?_; rintro e v11 ⟨rfl, hn11⟩; have hb11 := Hd.mk (hb10.out.trans (hn11.mono hb10.out.size)); clear hn11)
      go_upto_region 13 with (go_at_call 20; refine (cR.out _ (hok1.below hb11.out) (her1.below hb11.out)).mono ?_; rintro e v12 ⟨rfl, hn12⟩; have hb12 := Hd.mk (hb11.out.trans (hn12.mono hb11.out.size)); clear hn12)
      go_upto_region 14 with (go_at_call 20; refine (cS.out _ (hok1.below hb12.out) (her1.below hb12.out)).mono ?_; rintro e v13 ⟨rfl, hn13⟩; have hb13 := Hd.mk (hb12.out.trans (hn13.mono hb12.out.size)); clear hn13)
      go_upto_region 15 with (go_at_call 20; refine (cT.out _ (hok1.below hb13.out) (her1.below hb13.out)).mono ?_; rintro e v14 ⟨rfl, hn14⟩; have hb14 := Hd.mk (hb13.out.trans (hn14.mono hb13.out.size)); clear hn14)
      go_upto_region 16 with (go_at_call 20; refine (cU.out _ (hok1.below hb14.out) (her1.below hb14.out)).mono ?_; rintro e v15 ⟨rfl, hn15⟩; have hb15 := Hd.mk (hb14.out.trans (hn15.mono hb14.out.size)); clear hn15)
      go_wp2_with (go_at_call 11; refine (hal.out _ (hok1.below hb15.out) (her1.below hb15.out)).mono ?_; rintro e w9 ⟨rfl, hb9⟩; have hb16 := Hd.mk (hb1.trans ((hb15.out.trans (hb9.mono hb15.out.size)).mono hb1.size)); clear hb9)
      go_ret
      exact ⟨rfl, hb16.out⟩
end Go.Proofs.YtmamfidjigmahaaGreatDoor
end

section
namespace Go.Proofs.YtmamfidjigmahaaGreatDoor
open Go.ChangeShapes Go.WideShapes Go.ChangeAt Go.RowKit
set_option maxRecDepth 100000
theorem ownNone : ownKnob Tryz.prog.godebug = none := by kernel_rfl
theorem starE : "*" ++ "errors.errorString" = "*errors.errorString" := by decide
theorem rowErr (u : TypeId) (h : Tryz.prog.typeName? 3 u = some "*errors.errorString") : u = 108 :=
  typeName_ptr_named (nm := "errors.errorString") (by rw [starE]; kernel_rfl) (by kernel_rfl) (by decide) u (by rw [starE]; exact h)
theorem cellsErr : Tryz.prog.cellsOf 110 = 1 := by kernel_rfl
theorem cellsStr : Tryz.prog.cellsOf 9 = 1 := by kernel_rfl
theorem laid_mem {P : Program} {w : World} : ∀ {l : List (String × DataW Unit)} {ps : List MemPlace}, DataW.LaidVars P w l ps → ∀ {n : String} {d : DataW Unit}, (n, d) ∈ l →
    ∃ g t cs fuel p, P.globalNamed n = some g ∧ (P.globals[g]?).map (·.type) = some t ∧ w.var? P n = some cs ∧ DataW.trod (fun _ => ()) P w 0 (fun _ => true) false fuel t cs.toList = some (d, p) ∧ ∀ x, x ∈ MemPlace.row ⟨g, 0, none⟩ cs.size → x ∈ ps
  | [], _, _, _, _, hm => by cases hm
  | (n', d') :: r, ps, h, n, d, hm => by
    obtain ⟨g, t, cs, fuel, p, q, h1, h2, h3, h4, h5, rfl⟩ := h
    rcases List.mem_cons.1 hm with e | hm
    · cases e
      exact ⟨g, t, cs, fuel, p, h1, h2, h3, h4, fun x hx => by simp [hx]⟩
    · obtain ⟨g', t', cs', fuel', p', k1, k2, k3, k4, k5⟩ := laid_mem h5 hm
      exact ⟨g', t', cs', fuel', p', k1, k2, k3, k4, fun x hx => by simp [k5 x hx]⟩
section
variable {w : World} {l : List (String × DataW Unit)}
theorem laid_int {n : String} {z : Int} {g : Nat} (h : laidMet Tryz.prog l w) (hm : (n, .lit (.int .i64 z)) ∈ l) (hg : Tryz.prog.globalNamed n = some g) (ht : (Tryz.prog.globals[g]?).map (·.type) = some 3) : w.cell? ⟨g, 0, none⟩ = some (.int .i64 z) := by
  obtain ⟨ps, h1, _, _⟩ := h
  obtain ⟨g', t', cs, fuel, p, k1, k2, k3, k4, _⟩ := laid_mem h1 hm
  obtain rfl := Option.some.inj (hg.symm.trans k1)
  obtain rfl := Option.some.inj (ht.symm.trans k2)
  obtain ⟨m, e1, e2, _⟩ := DataW.trod_int Tryz.underlying3 k4
  have e3 : z = m := by simpa using congrArg Prod.fst e2
  subst e3
  rw [World.var?_cell hg k3 0, ← Array.getElem?_toList, e1]; rfl
theorem laid_err {n : String} {text : List UInt8} {g : Nat} (h : laidMet Tryz.prog l w) (hm : (n, .iface "*errors.errorString" (.ptr (.agg [.lit (.string text)]))) ∈ l) (hg : Tryz.prog.globalNamed n = some g) (ht : (Tryz.prog.globals[g]?).map (·.type) = some 58) : ∃ a, w.cell? ⟨g, 0, none⟩ = some (errV a) := by
  obtain ⟨ms, hmI⟩ := errU
  obtain ⟨ps, h1, _, hr⟩ := h
  obtain ⟨g', t', cs, fuel, p, k1, k2, k3, k4, k5⟩ := laid_mem h1 hm
  obtain rfl := Option.some.inj (hg.symm.trans k1)
  obtain rfl := Option.some.inj (ht.symm.trans k2)
  obtain ⟨lc⟩ := cs
  have ok : ∀ u v, lc = [.iface u v] → Value.okWide Tryz.prog w .any 0 u v := fun u v e => by
    subst e
    exact (hr g 0 (k5 _ (by simp [MemPlace.row]))).2 u v (by simpa using World.var?_cell hg k3 0)
  obtain ⟨a, s, e, _⟩ := errorString_of_trod hmI rowErr Tryz.underlying108 Tryz.underlying110 rfl rfl Tryz.underlying9 cellsErr cellsStr k4 ok
  refine ⟨a, ?_⟩
  rw [World.var?_cell hg k3 0, ← Array.getElem?_toList]
  dsimp only at e
  rw [e]; rfl
end
theorem lastGlobal : (((begin Tryz.prog (fun _ _ => 0) default).world.heap[15 - 1]?).bind Obj.row?).isSome = true := by kernel_rfl
theorem sized {W : World} (h : W.ShapedOpen Tryz.prog) : 15 ≤ W.heap.size := by
  obtain ⟨⟨zero, t⟩, hx⟩ := Option.isSome_iff_exists.1 lastGlobal
  obtain ⟨cs, hc, _⟩ := h.1 (15 - 1) zero t (Nat.le_of_ble_eq_true (by kernel_rfl)) hx
  have := (Array.getElem?_eq_some_iff.1 hc).1
  omega
/-- What the walks ask of the world, out of the row's list. -/
theorem start_ok {W : World} (h : laidMetH Tryz.prog Rows.fnDecSumsRow.laid W) (hs : W.ShapedOpen Tryz.prog) : Ok W ∧ Er W := by
  have h : laidMet Tryz.prog Rows.fnDecSumsRow.laid W := h
  have e3 := laid_err h (n := "io.EOF") (g := 3) (List.mem_of_getElem? (i := 2) rfl) (by kernel_rfl) (by kernel_rfl)
  have e4 := laid_err h (n := "pub-marlinspike/pub/bigall.errNoDigits") (g := 12) (List.mem_of_getElem? (i := 3) rfl) (by kernel_rfl) (by kernel_rfl)
  refine ⟨⟨⟨?_, ?_, ?_, ?_, ?_, e3, e4⟩, sized hs⟩, ⟨e3, e4, ?_, ?_, ?_⟩⟩
  · exact laid_int h (n := "pub-marlinspike/pub/bigall.karatsubaThreshold") (List.mem_of_getElem? (i := 7) rfl) (by kernel_rfl) (by kernel_rfl)
  · exact laid_int h (n := "pub-marlinspike/pub/bigall.basicSqrThreshold") (List.mem_of_getElem? (i := 8) rfl) (by kernel_rfl) (by kernel_rfl)
  · exact laid_int h (n := "pub-marlinspike/pub/bigall.karatsubaSqrThreshold") (List.mem_of_getElem? (i := 9) rfl) (by kernel_rfl) (by kernel_rfl)
  · exact laid_int h (n := "pub-marlinspike/pub/bigall.divRecursiveThreshold") (List.mem_of_getElem? (i := 6) rfl) (by kernel_rfl) (by kernel_rfl)
  · exact laid_int h (n := "pub-marlinspike/pub/bigall.leafSize") (List.mem_of_getElem? (i := 5) rfl) (by kernel_rfl) (by kernel_rfl)
  · exact laid_err h (n := "pub-marlinspike/pub/cosmosmath.ErrLegacyEmptyDecimalStr") (List.mem_of_getElem? (i := 10) rfl) (by kernel_rfl) (by kernel_rfl)
  · exact laid_err h (n := "pub-marlinspike/pub/cosmosmath.ErrLegacyInvalidDecimalLength") (List.mem_of_getElem? (i := 11) rfl) (by kernel_rfl) (by kernel_rfl)
  · exact laid_err h (n := "pub-marlinspike/pub/cosmosmath.ErrLegacyInvalidDecimalStr") (List.mem_of_getElem? (i := 12) rfl) (by kernel_rfl) (by kernel_rfl)
/-- What a law's post asks where nothing that was there has turned. -/
theorem post_plain {H : Type} {enc : TypeId × Value → H} {P : Program} {f : Func} {s : ChangeSpec} {apart fresh handsOn again : Bool} {W W' : World} {args : Array Value} {v : Value} {ds gs : List (DataW H)}
    (hW : DataW.Whole enc P f.params.toList s.vars apart W args.toList ds gs [])
    (hres : ∀ (b : Nat) (sp : Nat → Bool) (hd : Bool), DataW.TrodAll enc P W' b sp hd f.resultTypes.toList (v.resultList f.resultTypes.size) (s.fn H (ds ++ gs)).results [])
    (hargs : ∀ sp : Nat → Bool, DataW.TrodAll enc P W' 0 sp true f.params.toList args.toList (s.fn H (ds ++ gs)).args [])
    (hvars : ∀ sp : Nat → Bool, DataW.TrodVars enc P W' sp s.vars (s.fn H (ds ++ gs)).vars [])
    (hk : W.keptBut W' (fun _ => False))
    (hok : ∀ (j : Nat) (t : TypeId) (r : Value), f.resultTypes[j]? = some t → (v.resultList f.resultTypes.size)[j]? = some r → Value.okWide P W' .any 0 t r) :
    s.post enc P f apart fresh handsOn again W args v W' := by
  refine ⟨ds, gs, [], [], [], [], hW, hres _ _ _, hargs _, hvars _, World.keptBut_mono (fun p hp => hp.elim) hk, fun _ => ?_⟩
  refine ⟨hok, _, _, [], ⟨[], [], trodAll_append (hargs _) (hres _ _ _), hvars _, rfl, ?_, ?_⟩, ?_⟩
  · intro b off hp; cases hp
  · intro _; exact List.nodup_nil
  · intro p hp; cases hp
/-- Where the errors' texts lie in the witness's world. -/
noncomputable def low : Nat := (World.holding Tryz.prog default ⟨#[], #[], []⟩).heap.size
def setC (c : Array Value) : Obj → Obj
  | .cells _ t frozen => .cells c t frozen
  | o => o
def tab32 : Array Value := #[.int .u8 0, .int .u8 1, .int .u8 28, .int .u8 2, .int .u8 29, .int .u8 14, .int .u8 24, .int .u8 3, .int .u8 30, .int .u8 22, .int .u8 20, .int .u8 15, .int .u8 25, .int .u8 17, .int .u8 4, .int .u8 8, .int .u8 31, .int .u8 27, .int .u8 13, .int .u8 23, .int .u8 21, .int .u8 19, .int .u8 16, .int .u8 7, .int .u8 26, .int .u8 12, .int .u8 18, .int .u8 6, .int .u8 11, .int .u8 5, .int .u8 10, .int .u8 9]
def tab64 : Array Value := #[.int .u8 0, .int .u8 1, .int .u8 56, .int .u8 2, .int .u8 57, .int .u8 49, .int .u8 28, .int .u8 3, .int .u8 61, .int .u8 58, .int .u8 42, .int .u8 50, .int .u8 38, .int .u8 29, .int .u8 17, .int .u8 4, .int .u8 62, .int .u8 47, .int .u8 59, .int .u8 36, .int .u8 45, .int .u8 43, .int .u8 51, .int .u8 22, .int .u8 53, .int .u8 39, .int .u8 33, .int .u8 30, .int .u8 24, .int .u8 18, .int .u8 12, .int .u8 5, .int .u8 63, .int .u8 55, .int .u8 48, .int .u8 27, .int .u8 60, .int .u8 41, .int .u8 37, .int .u8 16, .int .u8 46, .int .u8 35, .int .u8 44, .int .u8 21, .int .u8 52, .int .u8 32, .int .u8 23, .int .u8 11, .int .u8 54, .int .u8 26, .int .u8 40, .int .u8 15, .int .u8 34, .int .u8 20, .int .u8 31, .int .u8 10, .int .u8 25, .int .u8 14, .int .u8 19, .int .u8 9, .int .u8 13, .int .u8 8, .int .u8 7, .int .u8 6]
def errTexts : Array Obj := #[.cells #[.string (ByteArray.mk #[69, 79, 70])] 110, .cells #[.string (ByteArray.mk #[110, 117, 109, 98, 101, 114, 32, 104, 97, 115, 32, 110, 111, 32, 100, 105, 103, 105, 116, 115])] 110, .cells #[.string (ByteArray.mk #[39, 95, 39, 32, 109, 117, 115, 116, 32, 115, 101, 112, 97, 114, 97, 116, 101, 32, 115, 117, 99, 99, 101, 115, 115, 105, 118, 101, 32, 100, 105, 103, 105, 116, 115])] 110, .cells #[.string (ByteArray.mk #[100, 101, 99, 105, 109, 97, 108, 32, 115, 116, 114, 105, 110, 103, 32, 99, 97, 110, 110, 111, 116, 32, 98, 101, 32, 101, 109, 112, 116, 121])] 110, .cells #[.string (ByteArray.mk #[105, 110, 118, 97, 108, 105, 100, 32, 100, 101, 99, 105, 109, 97, 108, 32, 108, 101, 110, 103, 116, 104])] 110, .cells #[.string (ByteArray.mk #[105, 110, 118, 97, 108, 105, 100, 32, 100, 101, 99, 105, 109, 97, 108, 32, 115, 116, 114, 105, 110, 103])] 110]
/-- A world for the witness: the settled one, the listed variables holding what their initialisers lay. -/
noncomputable def laidWorld (os : Os) : World :=
  { World.holding Tryz.prog os ⟨errTexts, #[], []⟩ with heap := ((((((((((((((World.holding Tryz.prog os ⟨errTexts, #[], []⟩).heap.modify 9 (setC #[.int .i64 8])).modify 4 (setC #[.int .i64 40])).modify 7 (setC #[.int .i64 40])).modify 5 (setC #[.int .i64 12])).modify 6 (setC #[.int .i64 80])).modify 3 (setC #[.iface 108 (.pointer (some ⟨low + 0, 0, none⟩))])).modify 12 (setC #[.iface 108 (.pointer (some ⟨low + 1, 0, none⟩))])).modify 11 (setC #[.iface 108 (.pointer (some ⟨low + 2, 0, none⟩))])).modify 0 (setC #[.iface 108 (.pointer (some ⟨low + 3, 0, none⟩))])).modify 1 (setC #[.iface 108 (.pointer (some ⟨low + 4, 0, none⟩))])).modify 2 (setC #[.iface 108 (.pointer (some ⟨low + 5, 0, none⟩))])).modify 13 (setC tab32)).modify 14 (setC tab64)) }
end Go.Proofs.YtmamfidjigmahaaGreatDoor
end
