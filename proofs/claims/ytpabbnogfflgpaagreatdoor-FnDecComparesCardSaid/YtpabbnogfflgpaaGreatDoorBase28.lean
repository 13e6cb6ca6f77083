/- The thin package: what a decimal tells; the package is alive. The package is alive: the statements' first question. Conditions: those that each theorem states. -/
import Derived.Test.YtpabbnogfflgpaaGreatDoorBase27
import Derived.Test.YtpabbnogfflgpaaGreatDoorBase25
import Derived.Test.YtpabbnogfflgpaaGreatDoorBase24
set_option linter.all false

section
namespace Go.Proofs.YtpabbnogfflgpaaGreatDoor
open Go.RowKit
set_option maxRecDepth 100000
/-- The answer for a decimal. -/
def tellL (x : Int) : List Value := abL (mkT (decL x)) (decide (x.tmod E18 = 0)) (decide (x = 0)) (decide (x < 0)) (decide (0 < x)) true (zT (chopR x)) (zT (x.tdiv E18)) (if is64 (chopR x) = true then chopR x else 0) (if is64 (x.tdiv E18) = true then x.tdiv E18 else 0) (is64 (chopR x)) (is64 (x.tdiv E18))
abbrev zeroL : List Value := abL (ByteArray.mk #[]) false false false false false (ByteArray.mk #[]) (ByteArray.mk #[]) 0 0 false false
abbrev teW (w : World) (a : ByteArray) : World := (w.alloc (.cells #[.string a] 9)).alloc (.cells #[.string (ByteArray.mk #[]), .bool false, .bool false, .bool false, .bool false, .bool false, .string (ByteArray.mk #[]), .string (ByteArray.mk #[]), .int .i64 0, .int .i64 0, .bool false, .bool false] 63)
set_option maxHeartbeats 4000000 in
theorem DecTell_ok (x : Int) (w : World) (hok : Ok w) (her : Er w) (hx : inR x = true) (hr : (chopR x).natAbs < 2 ^ 256) (ht : (x.tdiv E18).natAbs < 2 ^ 256) :
    Calls Tryz.prog 36 #[.string (zT x)] w fun e w' => e = .returned (.tuple #[.agg (tellL x).toArray, .bool true]) ∧ Below w.heap.size w w' := by
  have h1 : Blk (teW w (zT x)) w.heap.size 9 [.string (zT x)] := (Blk.new w #[.string (zT x)] 9).alloc _
  have h2 := Blk.new (w.alloc (.cells #[.string (zT x)] 9)) zeroL.toArray 63
  rw [World.size_alloc] at h2
  have h2 : Blk (teW w (zT x)) (w.heap.size + 1) 63 zeroL := h2
  have hb1 : Below w.heap.size w (teW w (zT x)) := ((Below.refl _ _).alloc (Nat.le_refl _) _).alloc (by rw [World.size_alloc]; omega) _
  have hs1 : (teW w (zT x)).heap.size = w.heap.size + 2 := by simp only [World.size_alloc]
  have h100 := hok.2
  generalize hW : teW w (zT x) = w1 at *
  have hb2 : Below w1.heap.size w1 (okW w1) := (Below.refl _ _).alloc (Nat.le_refl _) _
  have hb3 := hb1.trans (hb2.mono hb1.size)
  have hs2 : (okW w1).heap.size = w1.heap.size + 1 := World.size_alloc _ _
  have hc := DecTellC_ok w.heap.size (w.heap.size + 1) x (okW w1) (hok.below hb3) (her.below hb3) hx hr ht (h1.alloc _) (h2.alloc _) (by omega) (by omega)
  have htl : abL (mkT (decL x)) (decide (x.tmod E18 = 0)) (decide (x = 0)) (decide (x < 0)) (decide (0 < x)) true (zT (chopR x)) (zT (x.tdiv E18)) (if is64 (chopR x) = true then chopR x else 0) (if is64 (x.tdiv E18) = true then x.tdiv E18 else 0) (is64 (chopR x)) (is64 (x.tdiv E18)) = tellL x := rfl
  rw [htl] at hc
  have hsf := Hd.mk (safe_ok 110 _ w1 (fun w2 => Keep (fun k => k < (okW w1).heap.size ∧ k ≠ w.heap.size + 1) (okW w1) w2 ∧ Blk w2 (w.heap.size + 1) 63 (tellL x)) (enters Tryz.func110 (by kernel_rfl) (by kernel_rfl)) (hc.mono fun e w2 ⟨q2, q1, q3⟩ => ⟨q2, q1.block _ ⟨by omega, by omega⟩ (by omega), q1, q3⟩))
  have hfin : Hd (∀ w2 w3, Keep (fun k => k < (okW w1).heap.size ∧ k ≠ w.heap.size + 1) (okW w1) w2 → Put w2 w3 w1.heap.size 4 [.bool true] → Below w.heap.size w w3) := ⟨fun w2 w3 q1 q2 => q2.bel ⟨q1.os.trans hb3.os, q1.tape.trans hb3.tape, q1.output.trans hb3.output, Nat.le_trans hb3.size q1.size, fun k hk => (q1.block k ⟨by omega, by omega⟩ (by omega)).trans (hb3.block k hk)⟩ hb1.size⟩
  have hmf : ∀ (fn : Fn) (first cap : Array Value) (w : World), (Instr.makeFunc fn first cap).run Tryz.prog w = .ok (.func fn first cap) w := fun _ _ _ _ => rfl
  have hne : w.heap.size + 1 ≠ w1.heap.size := by omega
  obtain ⟨u0, u1, u2, u3, u4, u5, u6, u7, u8, u9, u10, u11, hu⟩ : ∃ u0 u1 u2 u3 u4 u5 u6 u7 u8 u9 u10 u11, tellL x = abL u0 u1 u2 u3 u4 u5 u6 u7 u8 u9 u10 u11 := ⟨_, _, _, _, _, _, _, _, _, _, _, _, rfl⟩
  rw [hu] at hsf ⊢
  generalize zT x = sx at *
  clear hc h1 h2 hb1 hb2 hb3 hok her htl hu hr ht hx
  go_enter Tryz.func36, Tryz.ntmps36
  go_wp2_with fail
  refine hsf.out.mono ?_
  rintro e w3 ⟨rfl, w2, ⟨hk2, hu2⟩, hp3⟩
  have hb3 := Hd.mk (hfin.out w2 w3 hk2 hp3)
  have hu3 := hp3.blk hu2 hne
  have lu : w.heap.size + 1 < w3.heap.size := hu3.lt
  have d0 : w3.cell? ⟨w.heap.size + 1, 0, none⟩ = some (.string u0) := hu3.cell 0
  have d1 : w3.cell? ⟨w.heap.size + 1, 1, none⟩ = some (.bool u1) := hu3.cell 1
  have d2 : w3.cell? ⟨w.heap.size + 1, 2, none⟩ = some (.bool u2) := hu3.cell 2
  have d3 : w3.cell? ⟨w.heap.size + 1, 3, none⟩ = some (.bool u3) := hu3.cell 3
  have d4 : w3.cell? ⟨w.heap.size + 1, 4, none⟩ = some (.bool u4) := hu3.cell 4
  have d5 : w3.cell? ⟨w.heap.size + 1, 5, none⟩ = some (.bool u5) := hu3.cell 5
  have d6 : w3.cell? ⟨w.heap.size + 1, 6, none⟩ = some (.string u6) := hu3.cell 6
  have d7 : w3.cell? ⟨w.heap.size + 1, 7, none⟩ = some (.string u7) := hu3.cell 7
  have d8 : w3.cell? ⟨w.heap.size + 1, 8, none⟩ = some (.int .i64 u8) := hu3.cell 8
  have d9 : w3.cell? ⟨w.heap.size + 1, 9, none⟩ = some (.int .i64 u9) := hu3.cell 9
  have d10 : w3.cell? ⟨w.heap.size + 1, 10, none⟩ = some (.bool u10) := hu3.cell 10
  have d11 : w3.cell? ⟨w.heap.size + 1, 11, none⟩ = some (.bool u11) := hu3.cell 11
  have z0 := hu3.frozen 0
  have z1 := hu3.frozen 1
  have z2 := hu3.frozen 2
  have z3 := hu3.frozen 3
  have z4 := hu3.frozen 4
  have z5 := hu3.frozen 5
  have z6 := hu3.frozen 6
  have z7 := hu3.frozen 7
  have z8 := hu3.frozen 8
  have z9 := hu3.frozen 9
  have z10 := hu3.frozen 10
  have z11 := hu3.frozen 11
  replace hu3 := Hd.mk hu3
  clear hu2 hk2 hp3 hsf hfin
  go_wp2
  have hb4 : Blk ((((((((((((w3.setCell ⟨w.heap.size + 1, 0, none⟩ (.string u0)).setCell ⟨w.heap.size + 1, 1, none⟩ (.bool u1)).setCell ⟨w.heap.size + 1, 2, none⟩ (.bool u2)).setCell ⟨w.heap.size + 1, 3, none⟩ (.bool u3)).setCell ⟨w.heap.size + 1, 4, none⟩ (.bool u4)).setCell ⟨w.heap.size + 1, 5, none⟩ (.bool u5)).setCell ⟨w.heap.size + 1, 6, none⟩ (.string u6)).setCell ⟨w.heap.size + 1, 7, none⟩ (.string u7)).setCell ⟨w.heap.size + 1, 8, none⟩ (.int .i64 u8)).setCell ⟨w.heap.size + 1, 9, none⟩ (.int .i64 u9)).setCell ⟨w.heap.size + 1, 10, none⟩ (.bool u10)).setCell ⟨w.heap.size + 1, 11, none⟩ (.bool u11)) (w.heap.size + 1) 63 (abL u0 u1 u2 u3 u4 u5 u6 u7 u8 u9 u10 u11) := ((((((((((((hu3.out.set 0 (.string u0)).set 1 (.bool u1)).set 2 (.bool u2)).set 3 (.bool u3)).set 4 (.bool u4)).set 5 (.bool u5)).set 6 (.string u6)).set 7 (.string u7)).set 8 (.int .i64 u8)).set 9 (.int .i64 u9)).set 10 (.bool u10)).set 11 (.bool u11))
  have hbel4 : Below w.heap.size w ((((((((((((w3.setCell ⟨w.heap.size + 1, 0, none⟩ (.string u0)).setCell ⟨w.heap.size + 1, 1, none⟩ (.bool u1)).setCell ⟨w.heap.size + 1, 2, none⟩ (.bool u2)).setCell ⟨w.heap.size + 1, 3, none⟩ (.bool u3)).setCell ⟨w.heap.size + 1, 4, none⟩ (.bool u4)).setCell ⟨w.heap.size + 1, 5, none⟩ (.bool u5)).setCell ⟨w.heap.size + 1, 6, none⟩ (.string u6)).setCell ⟨w.heap.size + 1, 7, none⟩ (.string u7)).setCell ⟨w.heap.size + 1, 8, none⟩ (.int .i64 u8)).setCell ⟨w.heap.size + 1, 9, none⟩ (.int .i64 u9)).setCell ⟨w.heap.size + 1, 10, none⟩ (.bool u10)).setCell ⟨w.heap.size + 1, 11, none⟩ (.bool u11)) := ((((((((((((((((((((((((hb3.out).setCell (p := ⟨w.heap.size + 1, 0, none⟩) (Nat.le_succ _) (.string u0))).setCell (p := ⟨w.heap.size + 1, 1, none⟩) (Nat.le_succ _) (.bool u1))).setCell (p := ⟨w.heap.size + 1, 2, none⟩) (Nat.le_succ _) (.bool u2))).setCell (p := ⟨w.heap.size + 1, 3, none⟩) (Nat.le_succ _) (.bool u3))).setCell (p := ⟨w.heap.size + 1, 4, none⟩) (Nat.le_succ _) (.bool u4))).setCell (p := ⟨w.heap.size + 1, 5, none⟩) (Nat.le_succ _) (.bool u5))).setCell (p := ⟨w.heap.size + 1, 6, none⟩) (Nat.le_succ _) (.string u6))).setCell (p := ⟨w.heap.size + 1, 7, none⟩) (Nat.le_succ _) (.string u7))).setCell (p := ⟨w.heap.size + 1, 8, none⟩) (Nat.le_succ _) (.int .i64 u8))).setCell (p := ⟨w.heap.size + 1, 9, none⟩) (Nat.le_succ _) (.int .i64 u9))).setCell (p := ⟨w.heap.size + 1, 10, none⟩) (Nat.le_succ _) (.bool u10))).setCell (p := ⟨w.heap.size + 1, 11, none⟩) (Nat.le_succ _) (.bool u11))
  generalize ((((((((((((w3.setCell ⟨w.heap.size + 1, 0, none⟩ (.string u0)).setCell ⟨w.heap.size + 1, 1, none⟩ (.bool u1)).setCell ⟨w.heap.size + 1, 2, none⟩ (.bool u2)).setCell ⟨w.heap.size + 1, 3, none⟩ (.bool u3)).setCell ⟨w.heap.size + 1, 4, none⟩ (.bool u4)).setCell ⟨w.heap.size + 1, 5, none⟩ (.bool u5)).setCell ⟨w.heap.size + 1, 6, none⟩ (.string u6)).setCell ⟨w.heap.size + 1, 7, none⟩ (.string u7)).setCell ⟨w.heap.size + 1, 8, none⟩ (.int .i64 u8)).setCell ⟨w.heap.size + 1, 9, none⟩ (.int .i64 u9)).setCell ⟨w.heap.size + 1, 10, none⟩ (.bool u10)).setCell ⟨w.heap.size + 1, 11, none⟩ (.bool u11)) = w4 at *
  have e0 : w4.cell? ⟨w.heap.size + 1, 0, none⟩ = some (.string u0) := hb4.cell 0
  have e1 : w4.cell? ⟨w.heap.size + 1, 1, none⟩ = some (.bool u1) := hb4.cell 1
  have e2 : w4.cell? ⟨w.heap.size + 1, 2, none⟩ = some (.bool u2) := hb4.cell 2
  have e3 : w4.cell? ⟨w.heap.size + 1, 3, none⟩ = some (.bool u3) := hb4.cell 3
  have e4 : w4.cell? ⟨w.heap.size + 1, 4, none⟩ = some (.bool u4) := hb4.cell 4
  have e5 : w4.cell? ⟨w.heap.size + 1, 5, none⟩ = some (.bool u5) := hb4.cell 5
  have e6 : w4.cell? ⟨w.heap.size + 1, 6, none⟩ = some (.string u6) := hb4.cell 6
  have e7 : w4.cell? ⟨w.heap.size + 1, 7, none⟩ = some (.string u7) := hb4.cell 7
  have e8 : w4.cell? ⟨w.heap.size + 1, 8, none⟩ = some (.int .i64 u8) := hb4.cell 8
  have e9 : w4.cell? ⟨w.heap.size + 1, 9, none⟩ = some (.int .i64 u9) := hb4.cell 9
  have e10 : w4.cell? ⟨w.heap.size + 1, 10, none⟩ = some (.bool u10) := hb4.cell 10
  have e11 : w4.cell? ⟨w.heap.size + 1, 11, none⟩ = some (.bool u11) := hb4.cell 11
  have l4 : w.heap.size + 1 < w4.heap.size := hb4.lt
  replace hb4 := Hd.mk hb4
  replace hbel4 := Hd.mk hbel4
  clear d0 d1 d2 d3 d4 d5 d6 d7 d8 d9 d10 d11 z0 z1 z2 z3 z4 z5 z6 z7 z8 z9 z10 z11
  refine bodyPost_ret (v := .tuple #[.agg (abL u0 u1 u2 u3 u4 u5 u6 u7 u8 u9 u10 u11).toArray, .bool true]) ?_ rfl ⟨rfl, hbel4.out⟩
  simp [results, Tryz.results36, go_sem, abL, e0, e1, e2, e3, e4, e5, e6, e7, e8, e9, e10, e11, l4]
/-- Sums, differences of decimals, through the thin package. -/
theorem DecAdd_ok (x y : Int) (w : World) (hok : Ok w) (her : Er w) (hx : inR x = true) (hy : inR y = true) (hr : inR (x + y) = true) :
    Calls Tryz.prog 34 #[.int .i64 0, .string (zT x), .string (zT y), .bool false] w fun e w' => e = .returned (.tuple #[.string (zT (x + y)), .bool true, .bool true]) ∧ Below w.heap.size w w' :=
  DecOp_ok 0 _ _ _ false true w hok her fun ba bb bo bm bu bk w1 h1 h2 ha hb ho hm hu hk hd hb1 hk1 => (DecOpAdd_ok ba bb bo bm bu bk x y w1 h1 h2 hx hy ha hb ho hm hu hk hd hb1 hk1 hr).mono fun e w' ⟨q1, q2, q3, q4⟩ => ⟨q2, q1, q3, q4⟩
theorem DecSub_ok (x y : Int) (w : World) (hok : Ok w) (her : Er w) (hx : inR x = true) (hy : inR y = true) (hr : inR (x - y) = true) :
    Calls Tryz.prog 34 #[.int .i64 1, .string (zT x), .string (zT y), .bool false] w fun e w' => e = .returned (.tuple #[.string (zT (x - y)), .bool true, .bool true]) ∧ Below w.heap.size w w' :=
  DecOp_ok 1 _ _ _ false true w hok her fun ba bb bo bm bu bk w1 h1 h2 ha hb ho hm hu hk hd hb1 hk1 => (DecOpSub_ok ba bb bo bm bu bk x y w1 h1 h2 hx hy ha hb ho hm hu hk hd hb1 hk1 hr).mono fun e w' ⟨q1, q2, q3, q4⟩ => ⟨q2, q1, q3, q4⟩
end Go.Proofs.YtpabbnogfflgpaaGreatDoor
end

section
namespace Go.Proofs.YtpabbnogfflgpaaGreatDoor
open Go.RowKit
set_option maxRecDepth 100000
theorem zT_lit {l : List Nat} (h : ∀ b, b ∈ l → isD b) (h0 : l ≠ []) (h1 : l.length = 1 ∨ l.head? ≠ some 48) : zT (nums l : Int) = mkT l := by
  unfold zT
  rw [ztx_pos (Int.natCast_nonneg _), Int.natAbs_natCast, dtxt_nums h h0 h1]
theorem zT_litn {l : List Nat} (h : ∀ b, b ∈ l → isD b) (h0 : l ≠ []) (h1 : l.length = 1 ∨ l.head? ≠ some 48) (h2 : nums l ≠ 0) : zT (-(nums l : Int)) = mkT (45 :: l) := by
  unfold zT
  rw [ztx_neg (by omega), Int.natAbs_neg, Int.natAbs_natCast, dtxt_nums h h0 h1]
theorem ext_of {s t : ByteArray} {i j : Nat} (h : ((bts s).take j).drop i = bts t) : s.extract i j = t := bts_inj (by rw [bts_ext, h])
theorem z1 : zT 1 = ByteArray.mk #[49] := (zT_lit (l := [49]) (by decide) (by decide) (by decide)).trans rfl
theorem z2 : zT 2 = ByteArray.mk #[50] := (zT_lit (l := [50]) (by decide) (by decide) (by decide)).trans rfl
theorem z3 : zT 3 = ByteArray.mk #[51] := (zT_lit (l := [51]) (by decide) (by decide) (by decide)).trans rfl
theorem zp : zT 1500000000000000000 = ByteArray.mk #[49, 53, 48, 48, 48, 48, 48, 48, 48, 48, 48, 48, 48, 48, 48, 48, 48, 48, 48] := (zT_lit (l := [49, 53, 48, 48, 48, 48, 48, 48, 48, 48, 48, 48, 48, 48, 48, 48, 48, 48, 48]) (by decide) (by decide) (by decide)).trans rfl
theorem zm : zT (-1500000000000000000) = ByteArray.mk #[45, 49, 53, 48, 48, 48, 48, 48, 48, 48, 48, 48, 48, 48, 48, 48, 48, 48, 48, 48] := (zT_litn (l := [49, 53, 48, 48, 48, 48, 48, 48, 48, 48, 48, 48, 48, 48, 48, 48, 48, 48, 48]) (by decide) (by decide) (by decide) (by decide)).trans rfl
theorem dx : mkT (decL 1500000000000000000) = ByteArray.mk #[49, 46, 53, 48, 48, 48, 48, 48, 48, 48, 48, 48, 48, 48, 48, 48, 48, 48, 48, 48] := by
  have h : dtxt false (1500000000000000000 : Int).natAbs = [49, 53, 48, 48, 48, 48, 48, 48, 48, 48, 48, 48, 48, 48, 48, 48, 48, 48, 48] := dtxt_nums (l := [49, 53, 48, 48, 48, 48, 48, 48, 48, 48, 48, 48, 48, 48, 48, 48, 48, 48, 48]) (by decide) (by decide) (by decide)
  unfold decL
  rw [h]
  rfl
theorem from15 (w : World) (hok : Ok w) (her : Er w) : Calls Tryz.prog 109 #[.string (ByteArray.mk #[45, 49, 46, 53])] w fun e w' => ∃ B, e = .returned (.tuple #[.agg #[ptr B], .nilIface]) ∧ NewI w w' B (-1500000000000000000) := by
  have hz : decZ true (ByteArray.mk #[49]) (ByteArray.mk #[53]) = -1500000000000000000 := by decide
  have h := FromStr_ok (ByteArray.mk #[45, 49, 46, 53]) (ByteArray.mk #[49, 46, 53]) (ByteArray.mk #[49]) (ByteArray.mk #[53]) true true w hok her (by decide)
    (by unfold unm; rw [if_pos (by decide)]; rw [show (ByteArray.mk #[45, 49, 46, 53]).extract 1 (ByteArray.mk #[45, 49, 46, 53]).size = ByteArray.mk #[49, 46, 53] from ext_of rfl])
    (by
      rw [if_pos rfl]
      have h1 : (ByteArray.mk #[49, 46, 53]).extract 0 1 = ByteArray.mk #[49] := ext_of rfl
      have h2 : (ByteArray.mk #[49, 46, 53]).extract (1 + 1) (ByteArray.mk #[49, 46, 53]).size = ByteArray.mk #[53] := ext_of rfl
      have h3 := Spl.more (ByteArray.mk #[49, 46, 53]) 1 [ByteArray.mk #[53]] (by decide) (by decide) (by decide) (by rw [h2]; exact .one _ (by decide))
      rwa [h1] at h3)
    (by decide) (by decide) (by decide) (by decide) (by rw [hz]; decide)
  rwa [hz] at h
set_option maxHeartbeats 4000000 in
theorem alive_any (w : World) (hok : Ok w) (her : Er w) : Calls Tryz.prog 10 #[] w fun e w' => e = .returned (.bool true) ∧ Below w.heap.size w w' := by
  have ha := DecAdd_ok 1 2 w hok her (by decide) (by decide) (by decide)
  rw [show (1 : Int) + 2 = 3 from rfl, z1, z2, z3] at ha
  have hp := Hd.mk fun w1 h1 h2 => DecParse_ok (ByteArray.mk #[45, 49, 46, 53]) (-1500000000000000000) w1 h1 h2 (by decide) from15
  rw [zm] at hp
  have ht := Hd.mk fun w1 h1 h2 => DecTell_ok 1500000000000000000 w1 h1 h2 (by decide) (by decide) (by decide)
  have hl : tellL 1500000000000000000 = abL (mkT (decL 1500000000000000000)) false false false true true (zT 2) (zT 1) 2 1 true true := by
    unfold tellL
    rw [show chopR 1500000000000000000 = 2 by decide, show (1500000000000000000 : Int).tdiv E18 = 1 by decide, show (1500000000000000000 : Int).tmod E18 = 500000000000000000 by decide]
    rfl
  rw [hl, dx, z1, z2, zp] at ht
  unfold abL at ht
  replace ha := Hd.mk ha
  go_enter Tryz.func10, Tryz.ntmps10
  go_wp2_with (first
    | (go_at_call 34; refine ha.out.mono ?_; rintro e w2 ⟨rfl, hb2⟩; have ho2 := hok.below hb2; have he2 := her.below hb2)
    | (go_at_call 35; refine (hp.out w2 ho2 he2).mono ?_; rintro e w3 ⟨rfl, hb3⟩; have ho3 := ho2.below hb3; have he3 := he2.below hb3; have hb23 := hb2.trans (hb3.mono hb2.size))
    | (go_at_call 36; refine (ht.out w3 ho3 he3).mono ?_; rintro e w4 ⟨rfl, hb4⟩; have hb24 := hb23.trans (hb4.mono hb23.size)))
  go_ret
  exact ⟨rfl, hb24.alloc hb24.size _⟩
end Go.Proofs.YtpabbnogfflgpaaGreatDoor
end
