/- FnProductsBoth: the walk. Conditions: those that each theorem states. -/
import Derived.Test.YtdbjdpooggaonaaGreatDoorJoin03
import Derived.Test.YtdbjdpooggaonaaGreatDoorProd01
import Derived.Test.YtdbjdpooggaonaaGreatDoorSumsB03
import Derived.Test.YtdbjdpooggaonaaGreatDoorSumsB02
set_option linter.all false

namespace Go.Proofs.YtdbjdpooggaonaaGreatDoor
open Go.RowKit
set_option maxRecDepth 100000
theorem cmp_geq (a M : Nat) : decide (0 ≤ cmpI (a : Int) (M : Int)) = decide (M ≤ a) := by
  unfold cmpI
  split
  · rw [decide_eq_false (by omega), decide_eq_false (by omega)]
  · split
    · rw [decide_eq_true (by omega), decide_eq_true (by omega)]
    · rw [decide_eq_true (by omega), decide_eq_true (by omega)]
theorem SR.al {w wr : World} {C : Nat → Option (List Value)} {N : List (Value × Int)} (h : SR w wr C N) (o : Obj) : SR w (wr.alloc o) C N := h.op ((Below.refl _ _).alloc (Nat.le_refl _) o)
theorem SR.v4 {w wr : World} {C : Nat → Option (List Value)} {N : List (Value × Int)} {v : Value} {x : Int} {p q r t : Value × Int} (h : SR w wr C (p :: q :: r :: t :: (v, x) :: N)) : NumV wr v x := h.num (v, x) (by simp)
theorem SR.x5 {w wr : World} {C : Nat → Option (List Value)} {v : Value} {x : Int} {p q r s t : Value × Int} (h : SR w wr C [p, q, r, s, t, (v, x)]) : NumV wr v x := h.num (v, x) (by simp)
theorem SR.keep3 {w wr : World} {C : Nat → Option (List Value)} {p q r s t u : Value × Int} (h : SR w wr C [p, q, r, s, t, u]) : SR w wr C [p, t, u] := ⟨h.bel, h.blk, fun k hk => h.num k (by simp only [List.mem_cons, List.not_mem_nil, or_false] at hk ⊢; rcases hk with h | h | h <;> simp [h])⟩
theorem aw {w : World} {o : Obj} {a : Addr} {v : Value} (h : w.cell? a = some v) (hl : a.block < w.heap.size) : (w.alloc o).cell? a = some v := (World.cell?_alloc_lt _ _ _ hl).trans h
theorem sl_cell (k : Nat) (hk : k < 3) (W : World) : (W.alloc (.cells #[.int .i64 2, .int .i64 3, .int .i64 4] 3)).cell? ⟨W.heap.size, k, none⟩ = some (.int .i64 ((k + 2 : Nat) : Int)) := by
  rw [(Blk.new W #[.int .i64 2, .int .i64 3, .int .i64 4] 3).cell k]
  match k, hk with
  | 0, _ => rfl
  | 1, _ => rfl
  | 2, _ => rfl
theorem SR.drewN {w wr : World} {C : Nat → Option (List Value)} {N : List (Value × Int)} (h : SR w wr C N) (n : Nat) : SR w (wr.drewN n) C N := h.op (below_drewN wr n)
theorem DecMulK_ok (k : Nat) (hk : k < 3) (x y : Int) (w : World) (hok : Ok w) (her : Er w) (hx : x.natAbs < 2 ^ 256) (hy : y.natAbs < 2 ^ 256) (hz : (x * y).natAbs < 2 ^ 256) :
    Calls Tryz.prog 27 #[.int .i64 ((k + 2 : Nat) : Int), .string (zT (x * E18)), .string (zT (y * E18)), .bool false] w fun e w' => e = .returned (.tuple #[.string (zT (x * y * E18)), .bool true, .bool true]) ∧ Below w.heap.size w w' := by
  have hX := inR_whole hx
  have hY := inR_whole hy
  have hZ := inR_whole hz
  match k, hk with
  | 0, _ =>
    have h := opMul_ok hX hY (by rw [whole_mul, chopR_whole]; exact hZ) false
    rw [whole_mul, chopR_whole] at h
    exact DecOpKN_ok 2 _ _ _ (by decide) hX hY hZ h w hok her
  | 1, _ =>
    have h := opMulTruncate_ok hX hY (by rw [whole_mul, tdiv_whole]; exact hZ) false
    rw [whole_mul, tdiv_whole] at h
    exact DecOpKN_ok 3 _ _ _ (by decide) hX hY hZ h w hok her
  | 2, _ =>
    have h := opMulRoundUp_ok hX hY (by rw [whole_mul, chopU_whole]; exact hZ) false
    rw [whole_mul, chopU_whole] at h
    exact DecOpKN_ok 4 _ _ _ (by decide) hX hY hZ h w hok her
theorem mul_128 {x y : Int} (hx : x.natAbs < 2 ^ 128) (hy : y.natAbs < 2 ^ 128) : (x * y).natAbs < 2 ^ 256 := by
  rw [Int.natAbs_mul]
  calc x.natAbs * y.natAbs < 2 ^ 128 * 2 ^ 128 := Nat.mul_lt_mul'' hx hy
    _ = 2 ^ 256 := by rw [← Nat.pow_add]
theorem lt_256 {a : Nat} (h : a < 2 ^ 128) : a < 2 ^ 256 := Nat.lt_trans h (by decide)
theorem whole_mul1 (x y : Int) : x * E18 * y = x * y * E18 := by
  generalize E18 = E
  ac_rfl
set_option maxHeartbeats 16000000 in
theorem productsBoth_walk (a b : ByteArray) (way : Int) (w : World) (hok : Ok w) (her : Er w) (h0 : 0 ≤ way) (h256 : way < 256) :
    Calls Tryz.prog 7 #[.string a, .string b, .int .u8 way] w fun e w' => e = .returned (.bool true) ∧ Below w.heap.size w w' := by
  by_cases h1 : 2147483647 < a.size
  · have d1 : decide ((2147483647 : Int) < (a.size : Int)) = true := decide_eq_true (by omega)
    go_enter Tryz.func7, Tryz.ntmps7
    go_wp2
    go_ret
    exact ⟨rfl, Below.refl _ _⟩
  have d1 : decide ((2147483647 : Int) < (a.size : Int)) = false := decide_eq_false (by omega)
  by_cases h2 : 2147483647 < b.size
  · have d2 : decide ((2147483647 : Int) < (b.size : Int)) = true := decide_eq_true (by omega)
    go_enter Tryz.func7, Tryz.ntmps7
    go_wp2
    go_ret
    exact ⟨rfl, Below.refl _ _⟩
  have d2 : decide ((2147483647 : Int) < (b.size : Int)) = false := decide_eq_false (by omega)
  have hpa := Hd.mk (sint_any a w (by omega))
  have hpb := Hd.mk fun w1 => sint_any b w1 (by omega)
  have hal := Hd.mk joinAwake_any
  go_enter Tryz.func7, Tryz.ntmps7
  go_upto_region 4 with (go_at_call 8; refine hpa.out.mono ?_; rintro e w2 ⟨b2, A2, n2, c2, ok, rfl, hx, hb2⟩; replace hx := Hd.mk hx; replace hb2 := Hd.mk hb2)
  have r2 := Hd.mk (((SR.start w [] (fun p hp => by cases hp)).op hb2.out).box2 (b0 := b2) (A := A2) (m := n2) (c := c2))
  have hba : Below w2.heap.size w2 (w2.alloc (.cells #[.bool b2, .slice A2 n2 c2] 24)) := (Below.refl _ _).alloc (Nat.le_refl _) _
  have hC : Hd (updC (fun _ => none) w2.heap.size [.bool b2, .slice A2 n2 c2] w2.heap.size = some [.bool b2, .slice A2 n2 c2]) := ⟨updC_same⟩
  have hlt3 : w2.heap.size < (w2.alloc (.cells #[.bool b2, .slice A2 n2 c2] 24)).heap.size := by rw [World.size_alloc]; omega
  generalize updC (fun _ => none) w2.heap.size [.bool b2, .slice A2 n2 c2] = C at *
  have hxb := Hd.mk fun x (h : NumV w2 (.agg #[.bool b2, .slice A2 n2 c2]) x) => h.below hba
  clear hba
  generalize w2.alloc (.cells #[.bool b2, .slice A2 n2 c2] 24) = w3 at *
  refine SR.cellK r2.out hC.out ?_
  intro f0 f1 fz fy fl
  go_upto_region 5 with (go_at_call 8; refine (hpb.out w3).mono ?_; rintro e w4 ⟨b4, A4, n4, c4, ok2, rfl, hy, hb4⟩; replace hy := Hd.mk hy; replace hb4 := Hd.mk hb4)
  have hlt4 : w2.heap.size < w4.heap.size := Nat.lt_of_lt_of_le hlt3 hb4.out.size
  have r4 := Hd.mk ((r2.out.op hb4.out).box2 (b0 := b4) (A := A4) (m := n4) (c := c4))
  have hbb : Below w4.heap.size w4 (w4.alloc (.cells #[.bool b4, .slice A4 n4 c4] 24)) := (Below.refl _ _).alloc (Nat.le_refl _) _
  have hD : Hd (updC C w4.heap.size [.bool b4, .slice A4 n4 c4] w4.heap.size = some [.bool b4, .slice A4 n4 c4]) := ⟨updC_same⟩
  have hC4 : Hd (updC C w4.heap.size [.bool b4, .slice A4 n4 c4] w2.heap.size = some [.bool b2, .slice A2 n2 c2]) := ⟨by rw [updC_off (by omega)]; exact hC.out⟩
  generalize updC C w4.heap.size [.bool b4, .slice A4 n4 c4] = C4 at *
  have hxb4 := Hd.mk fun x (h : NumV w2 (.agg #[.bool b2, .slice A2 n2 c2]) x) => ((hxb.out x h).below hb4.out).below hbb
  have hyb4 := Hd.mk fun y (h : NumV w4 (.agg #[.bool b4, .slice A4 n4 c4]) y) => h.below hbb
  have hlt5 : w4.heap.size < (w4.alloc (.cells #[.bool b4, .slice A4 n4 c4] 24)).heap.size := by rw [World.size_alloc]; omega
  clear hbb hxb r2 hC
  generalize w4.alloc (.cells #[.bool b4, .slice A4 n4 c4] 24) = w5 at *
  refine SR.cellK r4.out hC4.out ?_
  clear f0 f1 fz fy fl
  intro f0 f1 fz fy fl
  refine SR.cellK r4.out hD.out ?_
  intro g0 g1 gz gy gl
  have htw := Hd.mk fun w1 => nv (two_any 128 w1 (by omega))
  by_cases hoo : ok = true ∧ ok2 = true
  case neg =>
    have h := hoo
    rcases Bool.eq_false_or_eq_true ok with h1 | h1
    · rcases Bool.eq_false_or_eq_true ok2 with h2 | h2
      · exact absurd ⟨h1, h2⟩ h
      · subst h1; subst h2
        clear hoo h
        go_upto_region 6 with (go_at_call 16; refine (htw.out _).mono ?_; rintro e w6 ⟨b6, A6, m6, c6, rfl, hn6, hb6⟩; have s6 := hb6.size; have r6 := Hd.mk (((r4.out.op hb6).add hn6).box2 (b0 := b6) (A := A6) (m := m6) (c := c6)); clear hb6 hn6)
        go_quiet (fail)
        go_wp2_with (go_at_call 9; refine (hal.out _ (hok.below (r6.out.drewN _).bel) (her.below (r6.out.drewN _).bel)).mono ?_; rintro e w9 ⟨rfl, hb9⟩; have r9 := Hd.mk ((r6.out.drewN _).op hb9); clear hb9)
        go_ret
        exact ⟨rfl, r9.out.bel⟩
    · subst h1
      clear hoo h
      go_upto_region 6 with (go_at_call 16; refine (htw.out _).mono ?_; rintro e w6 ⟨b6, A6, m6, c6, rfl, hn6, hb6⟩; have s6 := hb6.size; have r6 := Hd.mk (((r4.out.op hb6).add hn6).box2 (b0 := b6) (A := A6) (m := m6) (c := c6)); clear hb6 hn6)
      go_quiet (fail)
      go_wp2_with (go_at_call 9; refine (hal.out _ (hok.below (r6.out.drewN _).bel) (her.below (r6.out.drewN _).bel)).mono ?_; rintro e w9 ⟨rfl, hb9⟩; have r9 := Hd.mk ((r6.out.drewN _).op hb9); clear hb9)
      go_ret
      exact ⟨rfl, r9.out.bel⟩
  obtain ⟨rfl, rfl⟩ := hoo
  obtain ⟨x, hsx, hxm, hnx⟩ := hx.out rfl
  obtain ⟨y, hsy, hym, hny⟩ := hy.out rfl
  subst hsx
  subst hsy
  have r5 := Hd.mk ((r4.out.add (hxb4.out x hnx)).add (hyb4.out y hny))
  have hab := Hd.mk fun w1 v1 (h : NumV w1 v1 x) => nv (nabs_any v1 x w1 h)
  have haby := Hd.mk fun w1 v1 (h : NumV w1 v1 y) => nv (nabs_any v1 y w1 h)
  have hwl := pow2_wl (n := 128) (by omega)
  have hcx := Hd.mk fun w1 v1 v2 (h1 : NumV w1 v1 (x.natAbs : Int)) (h2 : NumV w1 v2 (2 ^ 128)) => ncmpI_any v1 v2 _ _ w1 h1 h2 (by rw [Int.natAbs_natCast]; have := i256_wl hxm; omega) (by omega)
  have hcy := Hd.mk fun w1 v1 v2 (h1 : NumV w1 v1 (y.natAbs : Int)) (h2 : NumV w1 v2 (2 ^ 128)) => ncmpI_any v1 v2 _ _ w1 h1 h2 (by rw [Int.natAbs_natCast]; have := i256_wl hym; omega) (by omega)
  have hp : ((2 ^ 128 : Nat) : Int) = (2 : Int) ^ 128 := by rw [Int.natCast_pow]; rfl
  have hgx := cmp_geq x.natAbs (2 ^ 128)
  have hgy := cmp_geq y.natAbs (2 ^ 128)
  rw [hp] at hgx hgy
  clear hp hwl
  generalize cmpI (x.natAbs : Int) (2 ^ 128) = cx at *
  generalize cmpI (y.natAbs : Int) (2 ^ 128) = cy at *
  by_cases hx1 : 2 ^ 128 ≤ x.natAbs
  · rw [decide_eq_true hx1] at hgx
    replace hx1 := Hd.mk hx1
    replace hxm := Hd.mk hxm
    replace hym := Hd.mk hym
    generalize (2 : Int) ^ 128 = L at *
    generalize zT x = sx at *
    generalize zT y = sy at *
    go_upto_region 6 with (go_at_call 16; refine (htw.out _).mono ?_; rintro e w6 ⟨b6, A6, m6, c6, rfl, hn6, hb6⟩; have s6 := hb6.size; have r6 := Hd.mk (((r5.out.op hb6).add hn6).box2 (b0 := b6) (A := A6) (m := m6) (c := c6)); clear hb6 hn6)
    have hE : Hd (updC C4 w6.heap.size [.bool b6, .slice A6 m6 c6] w6.heap.size = some [.bool b6, .slice A6 m6 c6]) := ⟨updC_same⟩
    have hC6 : Hd (updC C4 w6.heap.size [.bool b6, .slice A6 m6 c6] w2.heap.size = some [.bool b2, .slice A2 n2 c2]) := ⟨by rw [updC_off (by omega)]; exact hC4.out⟩
    have hD6 : Hd (updC C4 w6.heap.size [.bool b6, .slice A6 m6 c6] w4.heap.size = some [.bool b4, .slice A4 n4 c4]) := ⟨by rw [updC_off (by omega)]; exact hD.out⟩
    have hlt6 : w4.heap.size < w6.heap.size := by omega
    have hlt7 : w6.heap.size < (w6.alloc (.cells #[.bool b6, .slice A6 m6 c6] 24)).heap.size := by rw [World.size_alloc]; omega
    generalize updC C4 w6.heap.size [.bool b6, .slice A6 m6 c6] = C6 at *
    generalize w6.alloc (.cells #[.bool b6, .slice A6 m6 c6] 24) = w7 at *
    clear f0 f1 fz fy fl g0 g1 gz gy gl
    refine SR.cellK r6.out.drew hC6.out ?_
    intro i0 i1 iz iy il
    refine SR.cellK r6.out.drew hE.out ?_
    intro i2 i3 iv iu ik
    go_region_law (first
      | (go_simp; go_at_call 28; refine (hab.out _ _ r6.out.drew.v2).mono ?_; rintro e w8 ⟨b8, A8, m8, c8, rfl, hn8, hb8⟩; have r8 := Hd.mk ((r6.out.drew.op hb8).add hn8); clear hb8 hn8; refine SR.cellK r8.out hE.out ?_; intro j0 j1 jz jy jl)
      | (go_simp; go_at_call 15; refine (hcx.out _ _ _ r8.out.v0 r8.out.v1).mono ?_; rintro e w10 ⟨rfl, hb10⟩; have r10 := Hd.mk (r8.out.op hb10); clear hb10))
    all_goals
      go_wp2_with (go_at_call 9; refine (hal.out _ (hok.below r10.out.bel) (her.below r10.out.bel)).mono ?_; rintro e w9 ⟨rfl, hb9⟩; have r9 := Hd.mk (r10.out.op hb9); clear hb9)
      go_ret
      exact ⟨rfl, r9.out.bel⟩
  rw [decide_eq_false hx1] at hgx
  have hx128 : x.natAbs < 2 ^ 128 := Nat.lt_of_not_le hx1
  clear hx1
  by_cases hy1 : 2 ^ 128 ≤ y.natAbs
  · rw [decide_eq_true hy1] at hgy
    replace hy1 := Hd.mk hy1
    replace hx128 := Hd.mk hx128
    replace hxm := Hd.mk hxm
    replace hym := Hd.mk hym
    generalize (2 : Int) ^ 128 = L at *
    generalize zT x = sx at *
    generalize zT y = sy at *
    go_upto_region 6 with (go_at_call 16; refine (htw.out _).mono ?_; rintro e w6 ⟨b6, A6, m6, c6, rfl, hn6, hb6⟩; have s6 := hb6.size; have r6 := Hd.mk (((r5.out.op hb6).add hn6).box2 (b0 := b6) (A := A6) (m := m6) (c := c6)); clear hb6 hn6)
    have hE : Hd (updC C4 w6.heap.size [.bool b6, .slice A6 m6 c6] w6.heap.size = some [.bool b6, .slice A6 m6 c6]) := ⟨updC_same⟩
    have hC6 : Hd (updC C4 w6.heap.size [.bool b6, .slice A6 m6 c6] w2.heap.size = some [.bool b2, .slice A2 n2 c2]) := ⟨by rw [updC_off (by omega)]; exact hC4.out⟩
    have hD6 : Hd (updC C4 w6.heap.size [.bool b6, .slice A6 m6 c6] w4.heap.size = some [.bool b4, .slice A4 n4 c4]) := ⟨by rw [updC_off (by omega)]; exact hD.out⟩
    have hlt6 : w4.heap.size < w6.heap.size := by omega
    have hlt7 : w6.heap.size < (w6.alloc (.cells #[.bool b6, .slice A6 m6 c6] 24)).heap.size := by rw [World.size_alloc]; omega
    generalize updC C4 w6.heap.size [.bool b6, .slice A6 m6 c6] = C6 at *
    generalize w6.alloc (.cells #[.bool b6, .slice A6 m6 c6] 24) = w7 at *
    clear f0 f1 fz fy fl g0 g1 gz gy gl
    have s7 : w7.drew.cell? ⟨w2.heap.size, 0, none⟩ = some (.bool b2) ∧ w7.drew.cell? ⟨w2.heap.size, 1, none⟩ = some (.slice A2 n2 c2) ∧ w7.drew.cell? ⟨w4.heap.size, 0, none⟩ = some (.bool b4) ∧ w7.drew.cell? ⟨w4.heap.size, 1, none⟩ = some (.slice A4 n4 c4) ∧ w7.drew.cell? ⟨w6.heap.size, 0, none⟩ = some (.bool b6) ∧ w7.drew.cell? ⟨w6.heap.size, 1, none⟩ = some (.slice A6 m6 c6) := ⟨(r6.out.drew.blk _ _ hC6.out).2.cell 0, (r6.out.drew.blk _ _ hC6.out).2.cell 1, (r6.out.drew.blk _ _ hD6.out).2.cell 0, (r6.out.drew.blk _ _ hD6.out).2.cell 1, (r6.out.drew.blk _ _ hE.out).2.cell 0, (r6.out.drew.blk _ _ hE.out).2.cell 1⟩
    go_region_held3 (fun wx => wx.cell? ⟨w2.heap.size, 0, none⟩ = some (.bool b2) ∧ wx.cell? ⟨w2.heap.size, 1, none⟩ = some (.slice A2 n2 c2) ∧ wx.cell? ⟨w4.heap.size, 0, none⟩ = some (.bool b4) ∧ wx.cell? ⟨w4.heap.size, 1, none⟩ = some (.slice A4 n4 c4) ∧ wx.cell? ⟨w6.heap.size, 0, none⟩ = some (.bool b6) ∧ wx.cell? ⟨w6.heap.size, 1, none⟩ = some (.slice A6 m6 c6)) (first | with_reducible exact s7 | with_reducible exact s8 | with_reducible exact s10 | with_reducible exact s11 | with_reducible exact s12) (first
       | (go_at_call 28; (with_reducible show Calls _ _ #[Value.agg #[Value.bool b2, Value.slice A2 n2 c2]] _ _); refine (hab.out _ _ r6.out.drew.v2).mono ?_; rintro e w8 ⟨b8, A8, m8, c8, rfl, hn8, hb8⟩; have r8 := Hd.mk ((r6.out.drew.op hb8).add hn8); clear hb8 hn8; have s8 : w8.cell? ⟨w2.heap.size, 0, none⟩ = some (.bool b2) ∧ w8.cell? ⟨w2.heap.size, 1, none⟩ = some (.slice A2 n2 c2) ∧ w8.cell? ⟨w4.heap.size, 0, none⟩ = some (.bool b4) ∧ w8.cell? ⟨w4.heap.size, 1, none⟩ = some (.slice A4 n4 c4) ∧ w8.cell? ⟨w6.heap.size, 0, none⟩ = some (.bool b6) ∧ w8.cell? ⟨w6.heap.size, 1, none⟩ = some (.slice A6 m6 c6) := ⟨(r8.out.blk _ _ hC6.out).2.cell 0, (r8.out.blk _ _ hC6.out).2.cell 1, (r8.out.blk _ _ hD6.out).2.cell 0, (r8.out.blk _ _ hD6.out).2.cell 1, (r8.out.blk _ _ hE.out).2.cell 0, (r8.out.blk _ _ hE.out).2.cell 1⟩)
       | (go_at_call 15; (with_reducible show Calls _ _ #[Value.agg #[Value.bool b8, Value.slice A8 m8 c8], _] _ _); refine (hcx.out _ _ _ r8.out.v0 r8.out.v1).mono ?_; rintro e w10 ⟨rfl, hb10⟩; have r10 := Hd.mk (r8.out.op hb10); clear hb10; have s10 : w10.cell? ⟨w2.heap.size, 0, none⟩ = some (.bool b2) ∧ w10.cell? ⟨w2.heap.size, 1, none⟩ = some (.slice A2 n2 c2) ∧ w10.cell? ⟨w4.heap.size, 0, none⟩ = some (.bool b4) ∧ w10.cell? ⟨w4.heap.size, 1, none⟩ = some (.slice A4 n4 c4) ∧ w10.cell? ⟨w6.heap.size, 0, none⟩ = some (.bool b6) ∧ w10.cell? ⟨w6.heap.size, 1, none⟩ = some (.slice A6 m6 c6) := ⟨(r10.out.blk _ _ hC6.out).2.cell 0, (r10.out.blk _ _ hC6.out).2.cell 1, (r10.out.blk _ _ hD6.out).2.cell 0, (r10.out.blk _ _ hD6.out).2.cell 1, (r10.out.blk _ _ hE.out).2.cell 0, (r10.out.blk _ _ hE.out).2.cell 1⟩)
       | (go_at_call 28; refine (haby.out _ _ r10.out.v2).mono ?_; rintro e w11 ⟨b11, A11, m11, c11, rfl, hn11, hb11⟩; have r11 := Hd.mk ((r10.out.op hb11).add hn11); clear hb11 hn11; have s11 : w11.cell? ⟨w2.heap.size, 0, none⟩ = some (.bool b2) ∧ w11.cell? ⟨w2.heap.size, 1, none⟩ = some (.slice A2 n2 c2) ∧ w11.cell? ⟨w4.heap.size, 0, none⟩ = some (.bool b4) ∧ w11.cell? ⟨w4.heap.size, 1, none⟩ = some (.slice A4 n4 c4) ∧ w11.cell? ⟨w6.heap.size, 0, none⟩ = some (.bool b6) ∧ w11.cell? ⟨w6.heap.size, 1, none⟩ = some (.slice A6 m6 c6) := ⟨(r11.out.blk _ _ hC6.out).2.cell 0, (r11.out.blk _ _ hC6.out).2.cell 1, (r11.out.blk _ _ hD6.out).2.cell 0, (r11.out.blk _ _ hD6.out).2.cell 1, (r11.out.blk _ _ hE.out).2.cell 0, (r11.out.blk _ _ hE.out).2.cell 1⟩)
       | (go_at_call 15; refine (hcy.out _ _ _ r11.out.v0 r11.out.v2).mono ?_; rintro e w12 ⟨rfl, hb12⟩; have r12 := Hd.mk (r11.out.op hb12); clear hb12; have s12 : w12.cell? ⟨w2.heap.size, 0, none⟩ = some (.bool b2) ∧ w12.cell? ⟨w2.heap.size, 1, none⟩ = some (.slice A2 n2 c2) ∧ w12.cell? ⟨w4.heap.size, 0, none⟩ = some (.bool b4) ∧ w12.cell? ⟨w4.heap.size, 1, none⟩ = some (.slice A4 n4 c4) ∧ w12.cell? ⟨w6.heap.size, 0, none⟩ = some (.bool b6) ∧ w12.cell? ⟨w6.heap.size, 1, none⟩ = some (.slice A6 m6 c6) := ⟨(r12.out.blk _ _ hC6.out).2.cell 0, (r12.out.blk _ _ hC6.out).2.cell 1, (r12.out.blk _ _ hD6.out).2.cell 0, (r12.out.blk _ _ hD6.out).2.cell 1, (r12.out.blk _ _ hE.out).2.cell 0, (r12.out.blk _ _ hE.out).2.cell 1⟩))
    all_goals
      go_wp2_with (go_at_call 9; refine (hal.out _ (hok.below r12.out.bel) (her.below r12.out.bel)).mono ?_; rintro e w9 ⟨rfl, hb9⟩; have r9 := Hd.mk (r12.out.op hb9); clear hb9)
      go_ret
      exact ⟨rfl, r9.out.bel⟩
  rw [decide_eq_false hy1] at hgy
  have hy128 : y.natAbs < 2 ^ 128 := Nat.lt_of_not_le hy1
  clear hy1
  have hzm := mul_128 hx128 hy128
  obtain ⟨k, hk3, hk⟩ : ∃ k : Nat, k < 3 ∧ way.tmod 3 = (k : Int) := ⟨(way.tmod 3).toNat, by have := Int.tmod_lt_of_pos way (b := 3) (by decide); have := Int.tmod_nonneg 3 h0; omega, by have := Int.tmod_nonneg 3 h0; omega⟩
  have hio := Hd.mk fun w1 q1 q2 => IntDo_ok 2 (by omega) x y (x * y) w1 q1 q2 hxm hym hzm rfl
  have hdd := Hd.mk fun w1 q1 q2 => DecMulK_ok k hk3 x y w1 q1 q2 hxm hym hzm
  have hdi := Hd.mk fun w1 q1 q2 => DecMulInt_ok (x * E18) y w1 q1 q2 (inR_whole hxm) hym (by rw [whole_mul1]; exact inR_whole hzm)
  rw [whole_mul1] at hdi
  have hdx := Hd.mk fun w1 v1 (h : NumV w1 v1 x) => decOf_any v1 x w1 h hxm
  have hdy := Hd.mk fun w1 v1 (h : NumV w1 v1 y) => decOf_any v1 y w1 h hym
  have hdz := Hd.mk fun w1 v1 (h : NumV w1 v1 (x * y)) => decOf_any v1 _ w1 h hzm
  have htx := Hd.mk fun w1 v1 (h : NumV w1 v1 (x * y)) => text_any v1 _ w1 h (by have := i256_wl hzm; omega)
  have hmu := Hd.mk fun w1 v1 v2 (h1 : NumV w1 v1 x) (h2 : NumV w1 v2 y) => nv (ntimes_any v1 v2 _ _ w1 h1 h2 (by have := i256_wl hxm; omega) (by have := i256_wl hym; omega))
  generalize x * y = z at *
  replace hx128 := Hd.mk hx128
  replace hy128 := Hd.mk hy128
  replace hxm := Hd.mk hxm
  replace hym := Hd.mk hym
  replace hzm := Hd.mk hzm
  generalize (2 : Int) ^ 128 = L at *
  generalize zT (x * E18) = tx at *
  generalize zT (y * E18) = ty at *
  generalize zT (z * E18) = tz at *
  generalize zT x = sx at *
  generalize zT y = sy at *
  generalize zT z = sz at *
  go_upto_region 6 with (go_at_call 16; refine (htw.out _).mono ?_; rintro e w6 ⟨b6, A6, m6, c6, rfl, hn6, hb6⟩; have s6 := hb6.size; have r6 := Hd.mk (((r5.out.op hb6).add hn6).box2 (b0 := b6) (A := A6) (m := m6) (c := c6)); clear hb6 hn6)
  have hE : Hd (updC C4 w6.heap.size [.bool b6, .slice A6 m6 c6] w6.heap.size = some [.bool b6, .slice A6 m6 c6]) := ⟨updC_same⟩
  have hC6 : Hd (updC C4 w6.heap.size [.bool b6, .slice A6 m6 c6] w2.heap.size = some [.bool b2, .slice A2 n2 c2]) := ⟨by rw [updC_off (by omega)]; exact hC4.out⟩
  have hD6 : Hd (updC C4 w6.heap.size [.bool b6, .slice A6 m6 c6] w4.heap.size = some [.bool b4, .slice A4 n4 c4]) := ⟨by rw [updC_off (by omega)]; exact hD.out⟩
  have hlt6 : w4.heap.size < w6.heap.size := by omega
  have hlt7 : w6.heap.size < (w6.alloc (.cells #[.bool b6, .slice A6 m6 c6] 24)).heap.size := by rw [World.size_alloc]; omega
  generalize updC C4 w6.heap.size [.bool b6, .slice A6 m6 c6] = C6 at *
  generalize w6.alloc (.cells #[.bool b6, .slice A6 m6 c6] 24) = w7 at *
  clear f0 f1 fz fy fl g0 g1 gz gy gl
  have s7 : w7.drew.cell? ⟨w2.heap.size, 0, none⟩ = some (.bool b2) ∧ w7.drew.cell? ⟨w2.heap.size, 1, none⟩ = some (.slice A2 n2 c2) ∧ w7.drew.cell? ⟨w4.heap.size, 0, none⟩ = some (.bool b4) ∧ w7.drew.cell? ⟨w4.heap.size, 1, none⟩ = some (.slice A4 n4 c4) ∧ w7.drew.cell? ⟨w6.heap.size, 0, none⟩ = some (.bool b6) ∧ w7.drew.cell? ⟨w6.heap.size, 1, none⟩ = some (.slice A6 m6 c6) := ⟨(r6.out.drew.blk _ _ hC6.out).2.cell 0, (r6.out.drew.blk _ _ hC6.out).2.cell 1, (r6.out.drew.blk _ _ hD6.out).2.cell 0, (r6.out.drew.blk _ _ hD6.out).2.cell 1, (r6.out.drew.blk _ _ hE.out).2.cell 0, (r6.out.drew.blk _ _ hE.out).2.cell 1⟩
  go_region_held3 (fun wx => wx.cell? ⟨w2.heap.size, 0, none⟩ = some (.bool b2) ∧ wx.cell? ⟨w2.heap.size, 1, none⟩ = some (.slice A2 n2 c2) ∧ wx.cell? ⟨w4.heap.size, 0, none⟩ = some (.bool b4) ∧ wx.cell? ⟨w4.heap.size, 1, none⟩ = some (.slice A4 n4 c4) ∧ wx.cell? ⟨w6.heap.size, 0, none⟩ = some (.bool b6) ∧ wx.cell? ⟨w6.heap.size, 1, none⟩ = some (.slice A6 m6 c6)) (first | with_reducible exact s7 | with_reducible exact s8 | with_reducible exact s10 | with_reducible exact s11 | with_reducible exact s12) (first
     | (go_at_call 28; (with_reducible show Calls _ _ #[Value.agg #[Value.bool b2, Value.slice A2 n2 c2]] _ _); refine (hab.out _ _ r6.out.drew.v2).mono ?_; rintro e w8 ⟨b8, A8, m8, c8, rfl, hn8, hb8⟩; have r8 := Hd.mk ((r6.out.drew.op hb8).add hn8); clear hb8 hn8; have s8 : w8.cell? ⟨w2.heap.size, 0, none⟩ = some (.bool b2) ∧ w8.cell? ⟨w2.heap.size, 1, none⟩ = some (.slice A2 n2 c2) ∧ w8.cell? ⟨w4.heap.size, 0, none⟩ = some (.bool b4) ∧ w8.cell? ⟨w4.heap.size, 1, none⟩ = some (.slice A4 n4 c4) ∧ w8.cell? ⟨w6.heap.size, 0, none⟩ = some (.bool b6) ∧ w8.cell? ⟨w6.heap.size, 1, none⟩ = some (.slice A6 m6 c6) := ⟨(r8.out.blk _ _ hC6.out).2.cell 0, (r8.out.blk _ _ hC6.out).2.cell 1, (r8.out.blk _ _ hD6.out).2.cell 0, (r8.out.blk _ _ hD6.out).2.cell 1, (r8.out.blk _ _ hE.out).2.cell 0, (r8.out.blk _ _ hE.out).2.cell 1⟩)
     | (go_at_call 15; (with_reducible show Calls _ _ #[Value.agg #[Value.bool b8, Value.slice A8 m8 c8], _] _ _); refine (hcx.out _ _ _ r8.out.v0 r8.out.v1).mono ?_; rintro e w10 ⟨rfl, hb10⟩; have r10 := Hd.mk (r8.out.op hb10); clear hb10; have s10 : w10.cell? ⟨w2.heap.size, 0, none⟩ = some (.bool b2) ∧ w10.cell? ⟨w2.heap.size, 1, none⟩ = some (.slice A2 n2 c2) ∧ w10.cell? ⟨w4.heap.size, 0, none⟩ = some (.bool b4) ∧ w10.cell? ⟨w4.heap.size, 1, none⟩ = some (.slice A4 n4 c4) ∧ w10.cell? ⟨w6.heap.size, 0, none⟩ = some (.bool b6) ∧ w10.cell? ⟨w6.heap.size, 1, none⟩ = some (.slice A6 m6 c6) := ⟨(r10.out.blk _ _ hC6.out).2.cell 0, (r10.out.blk _ _ hC6.out).2.cell 1, (r10.out.blk _ _ hD6.out).2.cell 0, (r10.out.blk _ _ hD6.out).2.cell 1, (r10.out.blk _ _ hE.out).2.cell 0, (r10.out.blk _ _ hE.out).2.cell 1⟩)
     | (go_at_call 28; refine (haby.out _ _ r10.out.v2).mono ?_; rintro e w11 ⟨b11, A11, m11, c11, rfl, hn11, hb11⟩; have r11 := Hd.mk ((r10.out.op hb11).add hn11); clear hb11 hn11; have s11 : w11.cell? ⟨w2.heap.size, 0, none⟩ = some (.bool b2) ∧ w11.cell? ⟨w2.heap.size, 1, none⟩ = some (.slice A2 n2 c2) ∧ w11.cell? ⟨w4.heap.size, 0, none⟩ = some (.bool b4) ∧ w11.cell? ⟨w4.heap.size, 1, none⟩ = some (.slice A4 n4 c4) ∧ w11.cell? ⟨w6.heap.size, 0, none⟩ = some (.bool b6) ∧ w11.cell? ⟨w6.heap.size, 1, none⟩ = some (.slice A6 m6 c6) := ⟨(r11.out.blk _ _ hC6.out).2.cell 0, (r11.out.blk _ _ hC6.out).2.cell 1, (r11.out.blk _ _ hD6.out).2.cell 0, (r11.out.blk _ _ hD6.out).2.cell 1, (r11.out.blk _ _ hE.out).2.cell 0, (r11.out.blk _ _ hE.out).2.cell 1⟩)
     | (go_at_call 15; refine (hcy.out _ _ _ r11.out.v0 r11.out.v2).mono ?_; rintro e w12 ⟨rfl, hb12⟩; have r12 := Hd.mk (r11.out.op hb12); clear hb12; have s12 : w12.cell? ⟨w2.heap.size, 0, none⟩ = some (.bool b2) ∧ w12.cell? ⟨w2.heap.size, 1, none⟩ = some (.slice A2 n2 c2) ∧ w12.cell? ⟨w4.heap.size, 0, none⟩ = some (.bool b4) ∧ w12.cell? ⟨w4.heap.size, 1, none⟩ = some (.slice A4 n4 c4) ∧ w12.cell? ⟨w6.heap.size, 0, none⟩ = some (.bool b6) ∧ w12.cell? ⟨w6.heap.size, 1, none⟩ = some (.slice A6 m6 c6) := ⟨(r12.out.blk _ _ hC6.out).2.cell 0, (r12.out.blk _ _ hC6.out).2.cell 1, (r12.out.blk _ _ hD6.out).2.cell 0, (r12.out.blk _ _ hD6.out).2.cell 1, (r12.out.blk _ _ hE.out).2.cell 0, (r12.out.blk _ _ hE.out).2.cell 1⟩))
  all_goals
    clear s7 s8 s10 s11
    refine SR.cellK r12.out hC6.out ?_
    intro i0 i1 iz iy il
    refine SR.cellK r12.out hD6.out ?_
    intro i2 i3 iv iu ik
    clear s12
    have hs12 := r12.out.bel.size
    have lt12 : w6.heap.size < w12.heap.size := (r12.out.blk _ _ hE.out).2.lt
    go_upto_region 9 with (go_at_call 29; refine (hmu.out _ _ _ r12.out.v4 r12.out.v3).mono ?_; rintro e w14 ⟨b14, A14, m14, c14, rfl, hn14, hb14⟩; have s14 := hb14.size; have r14 := Hd.mk (((r12.out.op hb14).add hn14).box2 (b0 := b14) (A := A14) (m := m14) (c := c14)); clear hb14 hn14)
    have hF : Hd (updC C6 w14.heap.size [.bool b14, .slice A14 m14 c14] w14.heap.size = some [.bool b14, .slice A14 m14 c14]) := ⟨updC_same⟩
    have hCf : Hd (updC C6 w14.heap.size [.bool b14, .slice A14 m14 c14] w2.heap.size = some [.bool b2, .slice A2 n2 c2]) := ⟨by rw [updC_off (by omega)]; exact hC6.out⟩
    have hDf : Hd (updC C6 w14.heap.size [.bool b14, .slice A14 m14 c14] w4.heap.size = some [.bool b4, .slice A4 n4 c4]) := ⟨by rw [updC_off (by omega)]; exact hD6.out⟩
    generalize updC C6 w14.heap.size [.bool b14, .slice A14 m14 c14] = CF at *
    generalize w14.alloc (.cells #[.bool b14, .slice A14 m14 c14] 24) = w15 at *
    clear i0 i1 iz iy il i2 i3 iv iu ik
    go_upto_region 10 with (go_at_call 21; refine (hio.out _ (hok.below r14.out.bel) (her.below r14.out.bel)).mono ?_; rintro e w16 ⟨rfl, hb16⟩; have r16 := Hd.mk (r14.out.op hb16); clear hb16)
    clear hcx hcy hab haby hmu hgx hgy
    refine SR.cellK r16.out.drew hCf.out ?_
    intro i0 i1 iz iy il
    refine SR.cellK r16.out.drew hDf.out ?_
    intro i2 i3 iv iu ik
    refine SR.cellK r16.out hCf.out ?_
    intro o0 o1 oz oy ol
    refine SR.cellK r16.out hDf.out ?_
    intro o2 o3 ov ou ok'
    have l2 : w2.heap.size < w16.heap.size := il
    have l4 : w4.heap.size < w16.heap.size := ik
    go_cut [15, 16, 17] (fun t15 t16 t17 wx => t15 = .string tz ∧ t16 = .bool true ∧ t17 = .bool true ∧ Hd (SR w wx CF [(.agg #[.bool b14, .slice A14 m14 c14], z), (.agg #[.bool b4, .slice A4 n4 c4], y), (.agg #[.bool b2, .slice A2 n2 c2], x)]))
    case first =>
      have hk0 : (0 : Int) ≤ (k : Int) := by omega
      have hk2 : (k : Int) < 3 := by omega
      have hce : ∀ W : World, (W.alloc (.cells #[.int .i64 2, .int .i64 3, .int .i64 4] 3)).cell? ⟨W.heap.size, k, none⟩ = some (.int .i64 ((k + 2 : Nat) : Int)) := fun W => sl_cell k hk3 W
      have hcd : ∀ W : World, (W.drew.alloc (.cells #[.int .i64 2, .int .i64 3, .int .i64 4] 3)).cell? ⟨W.heap.size, k, none⟩ = some (.int .i64 ((k + 2 : Nat) : Int)) := fun W => hce W.drew
      have hcf : ∀ W : World, (W.alloc (.cells #[.int .i64 2, .int .i64 3, .int .i64 4] 3)).drew.cell? ⟨W.heap.size, k, none⟩ = some (.int .i64 ((k + 2 : Nat) : Int)) := fun W => hce W
      refine wp_region_held_drew (S := fun wx => wx.cell? ⟨w2.heap.size, 0, none⟩ = some (.bool b2) ∧ wx.cell? ⟨w2.heap.size, 1, none⟩ = some (.slice A2 n2 c2) ∧ wx.cell? ⟨w4.heap.size, 0, none⟩ = some (.bool b4) ∧ wx.cell? ⟨w4.heap.size, 1, none⟩ = some (.slice A4 n4 c4)) (by kernel_rfl) ⟨i0, i1, i2, i3⟩ (fun hHeld => ?_)
      refine wpAnyH_take (i := 1) (v := .int .u8 way) rfl (by kernel_rfl) (by kernel_rfl) (by kernel_rfl) (fun _ _ _ h => h) (Or.inl ⟨by rfl, ?_⟩) (by assumption) ?_
      · intro w hSw
        (try dsimp only at hSw)
        go_simp
        all_goals (with_reducible rfl)
      try simp only [Act.put, List.getElem_toArray, List.getElem_cons_succ, List.getElem_cons_zero, List.setIfInBounds_toArray, List.set_cons_zero, List.set_cons_succ]
      refine wpAnyH_take (i := 2) (v := .int .u8 (k : Int)) rfl (by kernel_rfl) (by kernel_rfl) (by kernel_rfl) (fun _ _ _ h => h) (Or.inl ⟨by rfl, ?_⟩) (by assumption) ?_
      · intro w hSw
        (try dsimp only at hSw)
        go_simp
        all_goals (with_reducible rfl)
      try simp only [Act.put, List.getElem_toArray, List.getElem_cons_succ, List.getElem_cons_zero, List.setIfInBounds_toArray, List.set_cons_zero, List.set_cons_succ]
      refine wpAnyH_take (i := 5) (v := .agg #[.bool b2, .slice A2 n2 c2]) rfl (by kernel_rfl) (by kernel_rfl) (by kernel_rfl) (fun _ _ _ h => h) (Or.inl ⟨by rfl, ?_⟩) (by assumption) ?_
      · intro w hSw
        (try dsimp only at hSw)
        go_simp
        all_goals (with_reducible rfl)
      try simp only [Act.put, List.getElem_toArray, List.getElem_cons_succ, List.getElem_cons_zero, List.setIfInBounds_toArray, List.set_cons_zero, List.set_cons_succ]
      refine wpAnyH_take (i := 7) (v := .agg #[.bool b4, .slice A4 n4 c4]) rfl (by kernel_rfl) (by kernel_rfl) (by kernel_rfl) (fun _ _ _ h => h) (Or.inl ⟨by rfl, ?_⟩) (by assumption) ?_
      · intro w hSw
        (try dsimp only at hSw)
        go_simp
        all_goals (with_reducible rfl)
      try simp only [Act.put, List.getElem_toArray, List.getElem_cons_succ, List.getElem_cons_zero, List.setIfInBounds_toArray, List.set_cons_zero, List.set_cons_succ]
      refine wpAnyH_ready (rs := [0, 6]) (by kernel_rfl) (by simp) ?_
      refine AllReadyH.cons rfl (fun K hK => ?_) (AllReadyH.cons rfl (fun K hK => ?_) AllReadyH.nil)
      · go_simp
        refine hK.out _ _ ?_ (fun hHeld => ?_)
        · exact ⟨by (try dsimp only); first | exact hHeld.1 | exact aw hHeld.1 (by assumption), by (try dsimp only); first | exact hHeld.2.1 | exact aw hHeld.2.1 (by assumption), by (try dsimp only); first | exact hHeld.2.2.1 | exact aw hHeld.2.2.1 (by assumption), by (try dsimp only); first | exact hHeld.2.2.2 | exact aw hHeld.2.2.2 (by assumption)⟩
        clear hK K
        try simp only [Act.put, List.getElem_toArray, List.getElem_cons_succ, List.getElem_cons_zero, List.setIfInBounds_toArray, List.set_cons_zero, List.set_cons_succ]
        refine wpAnyH_take (i := 3) (v := ?_) rfl (by kernel_rfl) (by kernel_rfl) (by kernel_rfl) (fun _ _ _ h => h) (Or.inl ⟨by rfl, ?_⟩) (by assumption) ?_
        rotate_left
        · intro w hSw
          (try dsimp only at hSw)
          go_simp
          all_goals (with_reducible rfl)
        try simp only [Act.put, List.getElem_toArray, List.getElem_cons_succ, List.getElem_cons_zero, List.setIfInBounds_toArray, List.set_cons_zero, List.set_cons_succ]
        refine wpAnyH_ready (rs := [4, 6]) (by kernel_rfl) (by simp) ?_
        refine AllReadyH.cons rfl (fun K hK => ?_) (AllReadyH.cons rfl (fun K hK => ?_) AllReadyH.nil)
        · go_simp
          refine hK.out _ _ ?_ (fun hHeld => ?_)
          · exact hHeld
          clear hK K
          try simp only [Act.put, List.getElem_toArray, List.getElem_cons_succ, List.getElem_cons_zero, List.setIfInBounds_toArray, List.set_cons_zero, List.set_cons_succ]
          refine wpAnyH_ready (rs := [6]) (by kernel_rfl) (by simp) ?_
          refine AllReadyH.cons rfl (fun K hK => ?_) AllReadyH.nil
          go_simp
          (go_at_call 12; refine (hdx.out _ _ ?_).mono ?_; (first | exact r16.out.drew.x5 | exact (r16.out.al _).drew.x5 | exact (r16.out.drew.al _).x5); rintro e w17 ⟨rfl, hb17⟩; have r17 := Hd.mk (p := SR _ _ _ _) (by (first | exact r16.out.drew.op hb17 | exact (r16.out.al _).drew.op hb17 | exact (r16.out.drew.al _).op hb17)); (try have q17 : w17.cell? ⟨w16.heap.size, k, none⟩ = some (.int .i64 ((k + 2 : Nat) : Int)) := cb' hb17 (by first | exact hcf _ | exact hcd _)); clear hb17; have l17 : w2.heap.size < w17.heap.size := (r17.out.blk _ _ hCf.out).2.lt; have m17 : w4.heap.size < w17.heap.size := (r17.out.blk _ _ hDf.out).2.lt)
          refine hK.out _ _ ?_ (fun hHeld => ?_)
          · exact ⟨(r17.out.blk _ _ hCf.out).2.cell 0, (r17.out.blk _ _ hCf.out).2.cell 1, (r17.out.blk _ _ hDf.out).2.cell 0, (r17.out.blk _ _ hDf.out).2.cell 1⟩
          clear hK K
          try simp only [Act.put, List.getElem_toArray, List.getElem_cons_succ, List.getElem_cons_zero, List.setIfInBounds_toArray, List.set_cons_zero, List.set_cons_succ]
          refine wpAnyH_ready (rs := [8]) (by kernel_rfl) (by simp) ?_
          refine AllReadyH.cons rfl (fun K hK => ?_) AllReadyH.nil
          go_simp
          (go_at_call 12; refine (hdy.out _ _ ?_).mono ?_; (first | exact r17.out.v4 | exact (r17.out.al _).v4 | exact r17.out.drew.v4 | exact (r17.out.al _).drew.v4); rintro e w18 ⟨rfl, hb18⟩; have r18 := Hd.mk (p := SR _ _ _ _) (by (first | exact r17.out.op hb18 | exact (r17.out.al _).op hb18 | exact r17.out.drew.op hb18 | exact (r17.out.al _).drew.op hb18)); (try have q18 : w18.cell? ⟨w16.heap.size, k, none⟩ = some (.int .i64 ((k + 2 : Nat) : Int)) := cb' hb18 q17); (try have q19 : w18.cell? ⟨w17.heap.size, k, none⟩ = some (.int .i64 ((k + 2 : Nat) : Int)) := cb' hb18 (by first | exact hce _ | exact hcf _ | exact hcd _)); clear hb18; have l18 : w2.heap.size < w18.heap.size := (r18.out.blk _ _ hCf.out).2.lt; have m18 : w4.heap.size < w18.heap.size := (r18.out.blk _ _ hDf.out).2.lt)
          refine hK.out _ _ ?_ (fun hHeld => ?_)
          · exact ⟨(r18.out.blk _ _ hCf.out).2.cell 0, (r18.out.blk _ _ hCf.out).2.cell 1, (r18.out.blk _ _ hDf.out).2.cell 0, (r18.out.blk _ _ hDf.out).2.cell 1⟩
          clear hK K
          try simp only [Act.put, List.getElem_toArray, List.getElem_cons_succ, List.getElem_cons_zero, List.setIfInBounds_toArray, List.set_cons_zero, List.set_cons_succ]
          refine wpAnyH_ready (rs := [9]) (by kernel_rfl) (by simp) ?_
          refine AllReadyH.cons rfl (fun K hK => ?_) AllReadyH.nil
          go_simp
          (go_at_call 27; refine (hdd.out _ ?_ ?_).mono ?_; (first | exact hok.below r18.out.bel | exact hok.below (r18.out.al _).bel | exact hok.below r18.out.drew.bel | exact hok.below (r18.out.al _).drew.bel); (first | exact her.below r18.out.bel | exact her.below (r18.out.al _).bel | exact her.below r18.out.drew.bel | exact her.below (r18.out.al _).drew.bel); rintro e w19 ⟨rfl, hb19⟩; have r19 := Hd.mk (p := SR _ _ _ _) (by (first | exact r18.out.op hb19 | exact (r18.out.al _).op hb19 | exact r18.out.drew.op hb19 | exact (r18.out.al _).drew.op hb19)); clear hb19)
          refine hK.out _ _ ?_ (fun hHeld => ?_)
          · exact ⟨(r19.out.blk _ _ hCf.out).2.cell 0, (r19.out.blk _ _ hCf.out).2.cell 1, (r19.out.blk _ _ hDf.out).2.cell 0, (r19.out.blk _ _ hDf.out).2.cell 1⟩
          clear hK K
          try simp only [Act.put, List.getElem_toArray, List.getElem_cons_succ, List.getElem_cons_zero, List.setIfInBounds_toArray, List.set_cons_zero, List.set_cons_succ]
          refine wpAnyH_take (i := 10) (v := ?_) rfl (by kernel_rfl) (by kernel_rfl) (by kernel_rfl) (fun _ _ _ h => h) (Or.inl ⟨by rfl, ?_⟩) (by assumption) ?_
          rotate_left
          · intro w hSw
            (try dsimp only at hSw)
            go_simp
            all_goals (with_reducible rfl)
          try simp only [Act.put, List.getElem_toArray, List.getElem_cons_succ, List.getElem_cons_zero, List.setIfInBounds_toArray, List.set_cons_zero, List.set_cons_succ]
          refine wpAnyH_take (i := 11) (v := ?_) rfl (by kernel_rfl) (by kernel_rfl) (by kernel_rfl) (fun _ _ _ h => h) (Or.inl ⟨by rfl, ?_⟩) (by assumption) ?_
          rotate_left
          · intro w hSw
            (try dsimp only at hSw)
            go_simp
            all_goals (with_reducible rfl)
          try simp only [Act.put, List.getElem_toArray, List.getElem_cons_succ, List.getElem_cons_zero, List.setIfInBounds_toArray, List.set_cons_zero, List.set_cons_succ]
          refine wpAnyH_take (i := 12) (v := ?_) rfl (by kernel_rfl) (by kernel_rfl) (by kernel_rfl) (fun _ _ _ h => h) (Or.inl ⟨by rfl, ?_⟩) (by assumption) ?_
          rotate_left
          · intro w hSw
            (try dsimp only at hSw)
            go_simp
            all_goals (with_reducible rfl)
          try simp only [Act.put, List.getElem_toArray, List.getElem_cons_succ, List.getElem_cons_zero, List.setIfInBounds_toArray, List.set_cons_zero, List.set_cons_succ]
          refine wpAnyH_take (i := 13) (v := ?_) rfl (by kernel_rfl) (by kernel_rfl) (by kernel_rfl) (fun _ _ _ h => h) (Or.inl ⟨by rfl, ?_⟩) (by assumption) ?_
          rotate_left
          · intro w hSw
            (try dsimp only at hSw)
            go_simp
            all_goals (with_reducible rfl)
          try simp only [Act.put, List.getElem_toArray, List.getElem_cons_succ, List.getElem_cons_zero, List.setIfInBounds_toArray, List.set_cons_zero, List.set_cons_succ]
          refine wpAnyH_take (i := 14) (v := ?_) rfl (by kernel_rfl) (by kernel_rfl) (by kernel_rfl) (fun _ _ _ h => h) (Or.inl ⟨by rfl, ?_⟩) (by assumption) ?_
          rotate_left
          · intro w hSw
            (try dsimp only at hSw)
            go_simp
            all_goals (with_reducible rfl)
          try simp only [Act.put, List.getElem_toArray, List.getElem_cons_succ, List.getElem_cons_zero, List.setIfInBounds_toArray, List.set_cons_zero, List.set_cons_succ]
          refine wpAnyH_take (i := 15) (v := ?_) rfl (by kernel_rfl) (by kernel_rfl) (by kernel_rfl) (fun _ _ _ h => h) (Or.inl ⟨by rfl, ?_⟩) (by assumption) ?_
          rotate_left
          · intro w hSw
            (try dsimp only at hSw)
            go_simp
            all_goals (with_reducible rfl)
          try simp only [Act.put, List.getElem_toArray, List.getElem_cons_succ, List.getElem_cons_zero, List.setIfInBounds_toArray, List.set_cons_zero, List.set_cons_succ]
          refine wpAnyH_take (i := 16) (v := ?_) rfl (by kernel_rfl) (by kernel_rfl) (by kernel_rfl) (fun _ _ _ h => h) (Or.inl ⟨by rfl, ?_⟩) (by assumption) ?_
          rotate_left
          · intro w hSw
            (try dsimp only at hSw)
            go_simp
            all_goals (with_reducible rfl)
          try simp only [Act.put, List.getElem_toArray, List.getElem_cons_succ, List.getElem_cons_zero, List.setIfInBounds_toArray, List.set_cons_zero, List.set_cons_succ]
          refine wpAnyH_done (by kernel_rfl) ?_ _
          go_wp2_with fail
          go_meet
          exact ⟨rfl, rfl, rfl, ⟨r19.out.keep3⟩⟩
        · go_simp
          (go_at_call 12; refine (hdx.out _ _ ?_).mono ?_; (first | exact r16.out.drew.x5 | exact (r16.out.al _).drew.x5 | exact (r16.out.drew.al _).x5); rintro e w17 ⟨rfl, hb17⟩; have r17 := Hd.mk (p := SR _ _ _ _) (by (first | exact r16.out.drew.op hb17 | exact (r16.out.al _).drew.op hb17 | exact (r16.out.drew.al _).op hb17)); (try have q17 : w17.cell? ⟨w16.heap.size, k, none⟩ = some (.int .i64 ((k + 2 : Nat) : Int)) := cb' hb17 (by first | exact hcf _ | exact hcd _)); clear hb17; have l17 : w2.heap.size < w17.heap.size := (r17.out.blk _ _ hCf.out).2.lt; have m17 : w4.heap.size < w17.heap.size := (r17.out.blk _ _ hDf.out).2.lt)
          refine hK.out _ _ ?_ (fun hHeld => ?_)
          · exact ⟨(r17.out.blk _ _ hCf.out).2.cell 0, (r17.out.blk _ _ hCf.out).2.cell 1, (r17.out.blk _ _ hDf.out).2.cell 0, (r17.out.blk _ _ hDf.out).2.cell 1⟩
          clear hK K
          try simp only [Act.put, List.getElem_toArray, List.getElem_cons_succ, List.getElem_cons_zero, List.setIfInBounds_toArray, List.set_cons_zero, List.set_cons_succ]
          refine wpAnyH_ready (rs := [4, 8]) (by kernel_rfl) (by simp) ?_
          refine AllReadyH.cons rfl (fun K hK => ?_) (AllReadyH.cons rfl (fun K hK => ?_) AllReadyH.nil)
          · go_simp
            refine hK.out _ _ ?_ (fun hHeld => ?_)
            · exact hHeld
            clear hK K
            try simp only [Act.put, List.getElem_toArray, List.getElem_cons_succ, List.getElem_cons_zero, List.setIfInBounds_toArray, List.set_cons_zero, List.set_cons_succ]
            refine wpAnyH_ready (rs := [8]) (by kernel_rfl) (by simp) ?_
            refine AllReadyH.cons rfl (fun K hK => ?_) AllReadyH.nil
            go_simp
            (go_at_call 12; refine (hdy.out _ _ ?_).mono ?_; (first | exact r17.out.v4 | exact (r17.out.al _).v4 | exact r17.out.drew.v4 | exact (r17.out.al _).drew.v4); rintro e w18 ⟨rfl, hb18⟩; have r18 := Hd.mk (p := SR _ _ _ _) (by (first | exact r17.out.op hb18 | exact (r17.out.al _).op hb18 | exact r17.out.drew.op hb18 | exact (r17.out.al _).drew.op hb18)); (try have q18 : w18.cell? ⟨w16.heap.size, k, none⟩ = some (.int .i64 ((k + 2 : Nat) : Int)) := cb' hb18 q17); (try have q19 : w18.cell? ⟨w17.heap.size, k, none⟩ = some (.int .i64 ((k + 2 : Nat) : Int)) := cb' hb18 (by first | exact hce _ | exact hcf _ | exact hcd _)); clear hb18; have l18 : w2.heap.size < w18.heap.size := (r18.out.blk _ _ hCf.out).2.lt; have m18 : w4.heap.size < w18.heap.size := (r18.out.blk _ _ hDf.out).2.lt)
            refine hK.out _ _ ?_ (fun hHeld => ?_)
            · exact ⟨(r18.out.blk _ _ hCf.out).2.cell 0, (r18.out.blk _ _ hCf.out).2.cell 1, (r18.out.blk _ _ hDf.out).2.cell 0, (r18.out.blk _ _ hDf.out).2.cell 1⟩
            clear hK K
            try simp only [Act.put, List.getElem_toArray, List.getElem_cons_succ, List.getElem_cons_zero, List.setIfInBounds_toArray, List.set_cons_zero, List.set_cons_succ]
            refine wpAnyH_ready (rs := [9]) (by kernel_rfl) (by simp) ?_
            refine AllReadyH.cons rfl (fun K hK => ?_) AllReadyH.nil
            go_simp
            (go_at_call 27; refine (hdd.out _ ?_ ?_).mono ?_; (first | exact hok.below r18.out.bel | exact hok.below (r18.out.al _).bel | exact hok.below r18.out.drew.bel | exact hok.below (r18.out.al _).drew.bel); (first | exact her.below r18.out.bel | exact her.below (r18.out.al _).bel | exact her.below r18.out.drew.bel | exact her.below (r18.out.al _).drew.bel); rintro e w19 ⟨rfl, hb19⟩; have r19 := Hd.mk (p := SR _ _ _ _) (by (first | exact r18.out.op hb19 | exact (r18.out.al _).op hb19 | exact r18.out.drew.op hb19 | exact (r18.out.al _).drew.op hb19)); clear hb19)
            refine hK.out _ _ ?_ (fun hHeld => ?_)
            · exact ⟨(r19.out.blk _ _ hCf.out).2.cell 0, (r19.out.blk _ _ hCf.out).2.cell 1, (r19.out.blk _ _ hDf.out).2.cell 0, (r19.out.blk _ _ hDf.out).2.cell 1⟩
            clear hK K
            try simp only [Act.put, List.getElem_toArray, List.getElem_cons_succ, List.getElem_cons_zero, List.setIfInBounds_toArray, List.set_cons_zero, List.set_cons_succ]
            refine wpAnyH_take (i := 10) (v := ?_) rfl (by kernel_rfl) (by kernel_rfl) (by kernel_rfl) (fun _ _ _ h => h) (Or.inl ⟨by rfl, ?_⟩) (by assumption) ?_
            rotate_left
            · intro w hSw
              (try dsimp only at hSw)
              go_simp
              all_goals (with_reducible rfl)
            try simp only [Act.put, List.getElem_toArray, List.getElem_cons_succ, List.getElem_cons_zero, List.setIfInBounds_toArray, List.set_cons_zero, List.set_cons_succ]
            refine wpAnyH_take (i := 11) (v := ?_) rfl (by kernel_rfl) (by kernel_rfl) (by kernel_rfl) (fun _ _ _ h => h) (Or.inl ⟨by rfl, ?_⟩) (by assumption) ?_
            rotate_left
            · intro w hSw
              (try dsimp only at hSw)
              go_simp
              all_goals (with_reducible rfl)
            try simp only [Act.put, List.getElem_toArray, List.getElem_cons_succ, List.getElem_cons_zero, List.setIfInBounds_toArray, List.set_cons_zero, List.set_cons_succ]
            refine wpAnyH_take (i := 12) (v := ?_) rfl (by kernel_rfl) (by kernel_rfl) (by kernel_rfl) (fun _ _ _ h => h) (Or.inl ⟨by rfl, ?_⟩) (by assumption) ?_
            rotate_left
            · intro w hSw
              (try dsimp only at hSw)
              go_simp
              all_goals (with_reducible rfl)
            try simp only [Act.put, List.getElem_toArray, List.getElem_cons_succ, List.getElem_cons_zero, List.setIfInBounds_toArray, List.set_cons_zero, List.set_cons_succ]
            refine wpAnyH_take (i := 13) (v := ?_) rfl (by kernel_rfl) (by kernel_rfl) (by kernel_rfl) (fun _ _ _ h => h) (Or.inl ⟨by rfl, ?_⟩) (by assumption) ?_
            rotate_left
            · intro w hSw
              (try dsimp only at hSw)
              go_simp
              all_goals (with_reducible rfl)
            try simp only [Act.put, List.getElem_toArray, List.getElem_cons_succ, List.getElem_cons_zero, List.setIfInBounds_toArray, List.set_cons_zero, List.set_cons_succ]
            refine wpAnyH_take (i := 14) (v := ?_) rfl (by kernel_rfl) (by kernel_rfl) (by kernel_rfl) (fun _ _ _ h => h) (Or.inl ⟨by rfl, ?_⟩) (by assumption) ?_
            rotate_left
            · intro w hSw
              (try dsimp only at hSw)
              go_simp
              all_goals (with_reducible rfl)
            try simp only [Act.put, List.getElem_toArray, List.getElem_cons_succ, List.getElem_cons_zero, List.setIfInBounds_toArray, List.set_cons_zero, List.set_cons_succ]
            refine wpAnyH_take (i := 15) (v := ?_) rfl (by kernel_rfl) (by kernel_rfl) (by kernel_rfl) (fun _ _ _ h => h) (Or.inl ⟨by rfl, ?_⟩) (by assumption) ?_
            rotate_left
            · intro w hSw
              (try dsimp only at hSw)
              go_simp
              all_goals (with_reducible rfl)
            try simp only [Act.put, List.getElem_toArray, List.getElem_cons_succ, List.getElem_cons_zero, List.setIfInBounds_toArray, List.set_cons_zero, List.set_cons_succ]
            refine wpAnyH_take (i := 16) (v := ?_) rfl (by kernel_rfl) (by kernel_rfl) (by kernel_rfl) (fun _ _ _ h => h) (Or.inl ⟨by rfl, ?_⟩) (by assumption) ?_
            rotate_left
            · intro w hSw
              (try dsimp only at hSw)
              go_simp
              all_goals (with_reducible rfl)
            try simp only [Act.put, List.getElem_toArray, List.getElem_cons_succ, List.getElem_cons_zero, List.setIfInBounds_toArray, List.set_cons_zero, List.set_cons_succ]
            refine wpAnyH_done (by kernel_rfl) ?_ _
            go_wp2_with fail
            go_meet
            exact ⟨rfl, rfl, rfl, ⟨r19.out.keep3⟩⟩
          · go_simp
            (go_at_call 12; refine (hdy.out _ _ ?_).mono ?_; (first | exact r17.out.v4 | exact (r17.out.al _).v4 | exact r17.out.drew.v4 | exact (r17.out.al _).drew.v4); rintro e w18 ⟨rfl, hb18⟩; have r18 := Hd.mk (p := SR _ _ _ _) (by (first | exact r17.out.op hb18 | exact (r17.out.al _).op hb18 | exact r17.out.drew.op hb18 | exact (r17.out.al _).drew.op hb18)); (try have q18 : w18.cell? ⟨w16.heap.size, k, none⟩ = some (.int .i64 ((k + 2 : Nat) : Int)) := cb' hb18 q17); (try have q19 : w18.cell? ⟨w17.heap.size, k, none⟩ = some (.int .i64 ((k + 2 : Nat) : Int)) := cb' hb18 (by first | exact hce _ | exact hcf _ | exact hcd _)); clear hb18; have l18 : w2.heap.size < w18.heap.size := (r18.out.blk _ _ hCf.out).2.lt; have m18 : w4.heap.size < w18.heap.size := (r18.out.blk _ _ hDf.out).2.lt)
            refine hK.out _ _ ?_ (fun hHeld => ?_)
            · exact ⟨(r18.out.blk _ _ hCf.out).2.cell 0, (r18.out.blk _ _ hCf.out).2.cell 1, (r18.out.blk _ _ hDf.out).2.cell 0, (r18.out.blk _ _ hDf.out).2.cell 1⟩
            clear hK K
            try simp only [Act.put, List.getElem_toArray, List.getElem_cons_succ, List.getElem_cons_zero, List.setIfInBounds_toArray, List.set_cons_zero, List.set_cons_succ]
            refine wpAnyH_ready (rs := [4]) (by kernel_rfl) (by simp) ?_
            refine AllReadyH.cons rfl (fun K hK => ?_) AllReadyH.nil
            go_simp
            refine hK.out _ _ ?_ (fun hHeld => ?_)
            · exact hHeld
            clear hK K
            try simp only [Act.put, List.getElem_toArray, List.getElem_cons_succ, List.getElem_cons_zero, List.setIfInBounds_toArray, List.set_cons_zero, List.set_cons_succ]
            refine wpAnyH_ready (rs := [9]) (by kernel_rfl) (by simp) ?_
            refine AllReadyH.cons rfl (fun K hK => ?_) AllReadyH.nil
            go_simp
            (go_at_call 27; refine (hdd.out _ ?_ ?_).mono ?_; (first | exact hok.below r18.out.bel | exact hok.below (r18.out.al _).bel | exact hok.below r18.out.drew.bel | exact hok.below (r18.out.al _).drew.bel); (first | exact her.below r18.out.bel | exact her.below (r18.out.al _).bel | exact her.below r18.out.drew.bel | exact her.below (r18.out.al _).drew.bel); rintro e w19 ⟨rfl, hb19⟩; have r19 := Hd.mk (p := SR _ _ _ _) (by (first | exact r18.out.op hb19 | exact (r18.out.al _).op hb19 | exact r18.out.drew.op hb19 | exact (r18.out.al _).drew.op hb19)); clear hb19)
            refine hK.out _ _ ?_ (fun hHeld => ?_)
            · exact ⟨(r19.out.blk _ _ hCf.out).2.cell 0, (r19.out.blk _ _ hCf.out).2.cell 1, (r19.out.blk _ _ hDf.out).2.cell 0, (r19.out.blk _ _ hDf.out).2.cell 1⟩
            clear hK K
            try simp only [Act.put, List.getElem_toArray, List.getElem_cons_succ, List.getElem_cons_zero, List.setIfInBounds_toArray, List.set_cons_zero, List.set_cons_succ]
            refine wpAnyH_take (i := 10) (v := ?_) rfl (by kernel_rfl) (by kernel_rfl) (by kernel_rfl) (fun _ _ _ h => h) (Or.inl ⟨by rfl, ?_⟩) (by assumption) ?_
            rotate_left
            · intro w hSw
              (try dsimp only at hSw)
              go_simp
              all_goals (with_reducible rfl)
            try simp only [Act.put, List.getElem_toArray, List.getElem_cons_succ, List.getElem_cons_zero, List.setIfInBounds_toArray, List.set_cons_zero, List.set_cons_succ]
            refine wpAnyH_take (i := 11) (v := ?_) rfl (by kernel_rfl) (by kernel_rfl) (by kernel_rfl) (fun _ _ _ h => h) (Or.inl ⟨by rfl, ?_⟩) (by assumption) ?_
            rotate_left
            · intro w hSw
              (try dsimp only at hSw)
              go_simp
              all_goals (with_reducible rfl)
            try simp only [Act.put, List.getElem_toArray, List.getElem_cons_succ, List.getElem_cons_zero, List.setIfInBounds_toArray, List.set_cons_zero, List.set_cons_succ]
            refine wpAnyH_take (i := 12) (v := ?_) rfl (by kernel_rfl) (by kernel_rfl) (by kernel_rfl) (fun _ _ _ h => h) (Or.inl ⟨by rfl, ?_⟩) (by assumption) ?_
            rotate_left
            · intro w hSw
              (try dsimp only at hSw)
              go_simp
              all_goals (with_reducible rfl)
            try simp only [Act.put, List.getElem_toArray, List.getElem_cons_succ, List.getElem_cons_zero, List.setIfInBounds_toArray, List.set_cons_zero, List.set_cons_succ]
            refine wpAnyH_take (i := 13) (v := ?_) rfl (by kernel_rfl) (by kernel_rfl) (by kernel_rfl) (fun _ _ _ h => h) (Or.inl ⟨by rfl, ?_⟩) (by assumption) ?_
            rotate_left
            · intro w hSw
              (try dsimp only at hSw)
              go_simp
              all_goals (with_reducible rfl)
            try simp only [Act.put, List.getElem_toArray, List.getElem_cons_succ, List.getElem_cons_zero, List.setIfInBounds_toArray, List.set_cons_zero, List.set_cons_succ]
            refine wpAnyH_take (i := 14) (v := ?_) rfl (by kernel_rfl) (by kernel_rfl) (by kernel_rfl) (fun _ _ _ h => h) (Or.inl ⟨by rfl, ?_⟩) (by assumption) ?_
            rotate_left
            · intro w hSw
              (try dsimp only at hSw)
              go_simp
              all_goals (with_reducible rfl)
            try simp only [Act.put, List.getElem_toArray, List.getElem_cons_succ, List.getElem_cons_zero, List.setIfInBounds_toArray, List.set_cons_zero, List.set_cons_succ]
            refine wpAnyH_take (i := 15) (v := ?_) rfl (by kernel_rfl) (by kernel_rfl) (by kernel_rfl) (fun _ _ _ h => h) (Or.inl ⟨by rfl, ?_⟩) (by assumption) ?_
            rotate_left
            · intro w hSw
              (try dsimp only at hSw)
              go_simp
              all_goals (with_reducible rfl)
            try simp only [Act.put, List.getElem_toArray, List.getElem_cons_succ, List.getElem_cons_zero, List.setIfInBounds_toArray, List.set_cons_zero, List.set_cons_succ]
            refine wpAnyH_take (i := 16) (v := ?_) rfl (by kernel_rfl) (by kernel_rfl) (by kernel_rfl) (fun _ _ _ h => h) (Or.inl ⟨by rfl, ?_⟩) (by assumption) ?_
            rotate_left
            · intro w hSw
              (try dsimp only at hSw)
              go_simp
              all_goals (with_reducible rfl)
            try simp only [Act.put, List.getElem_toArray, List.getElem_cons_succ, List.getElem_cons_zero, List.setIfInBounds_toArray, List.set_cons_zero, List.set_cons_succ]
            refine wpAnyH_done (by kernel_rfl) ?_ _
            go_wp2_with fail
            go_meet
            exact ⟨rfl, rfl, rfl, ⟨r19.out.keep3⟩⟩
      · go_simp
        (go_at_call 12; refine (hdx.out _ _ ?_).mono ?_; (first | exact r16.out.drew.x5 | exact (r16.out.al _).drew.x5 | exact (r16.out.drew.al _).x5); rintro e w17 ⟨rfl, hb17⟩; have r17 := Hd.mk (p := SR _ _ _ _) (by (first | exact r16.out.drew.op hb17 | exact (r16.out.al _).drew.op hb17 | exact (r16.out.drew.al _).op hb17)); (try have q17 : w17.cell? ⟨w16.heap.size, k, none⟩ = some (.int .i64 ((k + 2 : Nat) : Int)) := cb' hb17 (by first | exact hcf _ | exact hcd _)); clear hb17; have l17 : w2.heap.size < w17.heap.size := (r17.out.blk _ _ hCf.out).2.lt; have m17 : w4.heap.size < w17.heap.size := (r17.out.blk _ _ hDf.out).2.lt)
        refine hK.out _ _ ?_ (fun hHeld => ?_)
        · exact ⟨(r17.out.blk _ _ hCf.out).2.cell 0, (r17.out.blk _ _ hCf.out).2.cell 1, (r17.out.blk _ _ hDf.out).2.cell 0, (r17.out.blk _ _ hDf.out).2.cell 1⟩
        clear hK K
        try simp only [Act.put, List.getElem_toArray, List.getElem_cons_succ, List.getElem_cons_zero, List.setIfInBounds_toArray, List.set_cons_zero, List.set_cons_succ]
        refine wpAnyH_ready (rs := [0, 8]) (by kernel_rfl) (by simp) ?_
        refine AllReadyH.cons rfl (fun K hK => ?_) (AllReadyH.cons rfl (fun K hK => ?_) AllReadyH.nil)
        · go_simp
          refine hK.out _ _ ?_ (fun hHeld => ?_)
          · exact ⟨by (try dsimp only); first | exact hHeld.1 | exact aw hHeld.1 (by assumption), by (try dsimp only); first | exact hHeld.2.1 | exact aw hHeld.2.1 (by assumption), by (try dsimp only); first | exact hHeld.2.2.1 | exact aw hHeld.2.2.1 (by assumption), by (try dsimp only); first | exact hHeld.2.2.2 | exact aw hHeld.2.2.2 (by assumption)⟩
          clear hK K
          try simp only [Act.put, List.getElem_toArray, List.getElem_cons_succ, List.getElem_cons_zero, List.setIfInBounds_toArray, List.set_cons_zero, List.set_cons_succ]
          refine wpAnyH_take (i := 3) (v := ?_) rfl (by kernel_rfl) (by kernel_rfl) (by kernel_rfl) (fun _ _ _ h => h) (Or.inl ⟨by rfl, ?_⟩) (by assumption) ?_
          rotate_left
          · intro w hSw
            (try dsimp only at hSw)
            go_simp
            all_goals (with_reducible rfl)
          try simp only [Act.put, List.getElem_toArray, List.getElem_cons_succ, List.getElem_cons_zero, List.setIfInBounds_toArray, List.set_cons_zero, List.set_cons_succ]
          refine wpAnyH_ready (rs := [4, 8]) (by kernel_rfl) (by simp) ?_
          refine AllReadyH.cons rfl (fun K hK => ?_) (AllReadyH.cons rfl (fun K hK => ?_) AllReadyH.nil)
          · go_simp
            refine hK.out _ _ ?_ (fun hHeld => ?_)
            · exact hHeld
            clear hK K
            try simp only [Act.put, List.getElem_toArray, List.getElem_cons_succ, List.getElem_cons_zero, List.setIfInBounds_toArray, List.set_cons_zero, List.set_cons_succ]
            refine wpAnyH_ready (rs := [8]) (by kernel_rfl) (by simp) ?_
            refine AllReadyH.cons rfl (fun K hK => ?_) AllReadyH.nil
            go_simp
            (go_at_call 12; refine (hdy.out _ _ ?_).mono ?_; (first | exact r17.out.v4 | exact (r17.out.al _).v4 | exact r17.out.drew.v4 | exact (r17.out.al _).drew.v4); rintro e w18 ⟨rfl, hb18⟩; have r18 := Hd.mk (p := SR _ _ _ _) (by (first | exact r17.out.op hb18 | exact (r17.out.al _).op hb18 | exact r17.out.drew.op hb18 | exact (r17.out.al _).drew.op hb18)); (try have q18 : w18.cell? ⟨w16.heap.size, k, none⟩ = some (.int .i64 ((k + 2 : Nat) : Int)) := cb' hb18 q17); (try have q19 : w18.cell? ⟨w17.heap.size, k, none⟩ = some (.int .i64 ((k + 2 : Nat) : Int)) := cb' hb18 (by first | exact hce _ | exact hcf _ | exact hcd _)); clear hb18; have l18 : w2.heap.size < w18.heap.size := (r18.out.blk _ _ hCf.out).2.lt; have m18 : w4.heap.size < w18.heap.size := (r18.out.blk _ _ hDf.out).2.lt)
            refine hK.out _ _ ?_ (fun hHeld => ?_)
            · exact ⟨(r18.out.blk _ _ hCf.out).2.cell 0, (r18.out.blk _ _ hCf.out).2.cell 1, (r18.out.blk _ _ hDf.out).2.cell 0, (r18.out.blk _ _ hDf.out).2.cell 1⟩
            clear hK K
            try simp only [Act.put, List.getElem_toArray, List.getElem_cons_succ, List.getElem_cons_zero, List.setIfInBounds_toArray, List.set_cons_zero, List.set_cons_succ]
            refine wpAnyH_ready (rs := [9]) (by kernel_rfl) (by simp) ?_
            refine AllReadyH.cons rfl (fun K hK => ?_) AllReadyH.nil
            go_simp
            (go_at_call 27; refine (hdd.out _ ?_ ?_).mono ?_; (first | exact hok.below r18.out.bel | exact hok.below (r18.out.al _).bel | exact hok.below r18.out.drew.bel | exact hok.below (r18.out.al _).drew.bel); (first | exact her.below r18.out.bel | exact her.below (r18.out.al _).bel | exact her.below r18.out.drew.bel | exact her.below (r18.out.al _).drew.bel); rintro e w19 ⟨rfl, hb19⟩; have r19 := Hd.mk (p := SR _ _ _ _) (by (first | exact r18.out.op hb19 | exact (r18.out.al _).op hb19 | exact r18.out.drew.op hb19 | exact (r18.out.al _).drew.op hb19)); clear hb19)
            refine hK.out _ _ ?_ (fun hHeld => ?_)
            · exact ⟨(r19.out.blk _ _ hCf.out).2.cell 0, (r19.out.blk _ _ hCf.out).2.cell 1, (r19.out.blk _ _ hDf.out).2.cell 0, (r19.out.blk _ _ hDf.out).2.cell 1⟩
            clear hK K
            try simp only [Act.put, List.getElem_toArray, List.getElem_cons_succ, List.getElem_cons_zero, List.setIfInBounds_toArray, List.set_cons_zero, List.set_cons_succ]
            refine wpAnyH_take (i := 10) (v := ?_) rfl (by kernel_rfl) (by kernel_rfl) (by kernel_rfl) (fun _ _ _ h => h) (Or.inl ⟨by rfl, ?_⟩) (by assumption) ?_
            rotate_left
            · intro w hSw
              (try dsimp only at hSw)
              go_simp
              all_goals (with_reducible rfl)
            try simp only [Act.put, List.getElem_toArray, List.getElem_cons_succ, List.getElem_cons_zero, List.setIfInBounds_toArray, List.set_cons_zero, List.set_cons_succ]
            refine wpAnyH_take (i := 11) (v := ?_) rfl (by kernel_rfl) (by kernel_rfl) (by kernel_rfl) (fun _ _ _ h => h) (Or.inl ⟨by rfl, ?_⟩) (by assumption) ?_
            rotate_left
            · intro w hSw
              (try dsimp only at hSw)
              go_simp
              all_goals (with_reducible rfl)
            try simp only [Act.put, List.getElem_toArray, List.getElem_cons_succ, List.getElem_cons_zero, List.setIfInBounds_toArray, List.set_cons_zero, List.set_cons_succ]
            refine wpAnyH_take (i := 12) (v := ?_) rfl (by kernel_rfl) (by kernel_rfl) (by kernel_rfl) (fun _ _ _ h => h) (Or.inl ⟨by rfl, ?_⟩) (by assumption) ?_
            rotate_left
            · intro w hSw
              (try dsimp only at hSw)
              go_simp
              all_goals (with_reducible rfl)
            try simp only [Act.put, List.getElem_toArray, List.getElem_cons_succ, List.getElem_cons_zero, List.setIfInBounds_toArray, List.set_cons_zero, List.set_cons_succ]
            refine wpAnyH_take (i := 13) (v := ?_) rfl (by kernel_rfl) (by kernel_rfl) (by kernel_rfl) (fun _ _ _ h => h) (Or.inl ⟨by rfl, ?_⟩) (by assumption) ?_
            rotate_left
            · intro w hSw
              (try dsimp only at hSw)
              go_simp
              all_goals (with_reducible rfl)
            try simp only [Act.put, List.getElem_toArray, List.getElem_cons_succ, List.getElem_cons_zero, List.setIfInBounds_toArray, List.set_cons_zero, List.set_cons_succ]
            refine wpAnyH_take (i := 14) (v := ?_) rfl (by kernel_rfl) (by kernel_rfl) (by kernel_rfl) (fun _ _ _ h => h) (Or.inl ⟨by rfl, ?_⟩) (by assumption) ?_
            rotate_left
            · intro w hSw
              (try dsimp only at hSw)
              go_simp
              all_goals (with_reducible rfl)
            try simp only [Act.put, List.getElem_toArray, List.getElem_cons_succ, List.getElem_cons_zero, List.setIfInBounds_toArray, List.set_cons_zero, List.set_cons_succ]
            refine wpAnyH_take (i := 15) (v := ?_) rfl (by kernel_rfl) (by kernel_rfl) (by kernel_rfl) (fun _ _ _ h => h) (Or.inl ⟨by rfl, ?_⟩) (by assumption) ?_
            rotate_left
            · intro w hSw
              (try dsimp only at hSw)
              go_simp
              all_goals (with_reducible rfl)
            try simp only [Act.put, List.getElem_toArray, List.getElem_cons_succ, List.getElem_cons_zero, List.setIfInBounds_toArray, List.set_cons_zero, List.set_cons_succ]
            refine wpAnyH_take (i := 16) (v := ?_) rfl (by kernel_rfl) (by kernel_rfl) (by kernel_rfl) (fun _ _ _ h => h) (Or.inl ⟨by rfl, ?_⟩) (by assumption) ?_
            rotate_left
            · intro w hSw
              (try dsimp only at hSw)
              go_simp
              all_goals (with_reducible rfl)
            try simp only [Act.put, List.getElem_toArray, List.getElem_cons_succ, List.getElem_cons_zero, List.setIfInBounds_toArray, List.set_cons_zero, List.set_cons_succ]
            refine wpAnyH_done (by kernel_rfl) ?_ _
            go_wp2_with fail
            go_meet
            exact ⟨rfl, rfl, rfl, ⟨r19.out.keep3⟩⟩
          · go_simp
            (go_at_call 12; refine (hdy.out _ _ ?_).mono ?_; (first | exact r17.out.v4 | exact (r17.out.al _).v4 | exact r17.out.drew.v4 | exact (r17.out.al _).drew.v4); rintro e w18 ⟨rfl, hb18⟩; have r18 := Hd.mk (p := SR _ _ _ _) (by (first | exact r17.out.op hb18 | exact (r17.out.al _).op hb18 | exact r17.out.drew.op hb18 | exact (r17.out.al _).drew.op hb18)); (try have q18 : w18.cell? ⟨w16.heap.size, k, none⟩ = some (.int .i64 ((k + 2 : Nat) : Int)) := cb' hb18 q17); (try have q19 : w18.cell? ⟨w17.heap.size, k, none⟩ = some (.int .i64 ((k + 2 : Nat) : Int)) := cb' hb18 (by first | exact hce _ | exact hcf _ | exact hcd _)); clear hb18; have l18 : w2.heap.size < w18.heap.size := (r18.out.blk _ _ hCf.out).2.lt; have m18 : w4.heap.size < w18.heap.size := (r18.out.blk _ _ hDf.out).2.lt)
            refine hK.out _ _ ?_ (fun hHeld => ?_)
            · exact ⟨(r18.out.blk _ _ hCf.out).2.cell 0, (r18.out.blk _ _ hCf.out).2.cell 1, (r18.out.blk _ _ hDf.out).2.cell 0, (r18.out.blk _ _ hDf.out).2.cell 1⟩
            clear hK K
            try simp only [Act.put, List.getElem_toArray, List.getElem_cons_succ, List.getElem_cons_zero, List.setIfInBounds_toArray, List.set_cons_zero, List.set_cons_succ]
            refine wpAnyH_ready (rs := [4]) (by kernel_rfl) (by simp) ?_
            refine AllReadyH.cons rfl (fun K hK => ?_) AllReadyH.nil
            go_simp
            refine hK.out _ _ ?_ (fun hHeld => ?_)
            · exact hHeld
            clear hK K
            try simp only [Act.put, List.getElem_toArray, List.getElem_cons_succ, List.getElem_cons_zero, List.setIfInBounds_toArray, List.set_cons_zero, List.set_cons_succ]
            refine wpAnyH_ready (rs := [9]) (by kernel_rfl) (by simp) ?_
            refine AllReadyH.cons rfl (fun K hK => ?_) AllReadyH.nil
            go_simp
            (go_at_call 27; refine (hdd.out _ ?_ ?_).mono ?_; (first | exact hok.below r18.out.bel | exact hok.below (r18.out.al _).bel | exact hok.below r18.out.drew.bel | exact hok.below (r18.out.al _).drew.bel); (first | exact her.below r18.out.bel | exact her.below (r18.out.al _).bel | exact her.below r18.out.drew.bel | exact her.below (r18.out.al _).drew.bel); rintro e w19 ⟨rfl, hb19⟩; have r19 := Hd.mk (p := SR _ _ _ _) (by (first | exact r18.out.op hb19 | exact (r18.out.al _).op hb19 | exact r18.out.drew.op hb19 | exact (r18.out.al _).drew.op hb19)); clear hb19)
            refine hK.out _ _ ?_ (fun hHeld => ?_)
            · exact ⟨(r19.out.blk _ _ hCf.out).2.cell 0, (r19.out.blk _ _ hCf.out).2.cell 1, (r19.out.blk _ _ hDf.out).2.cell 0, (r19.out.blk _ _ hDf.out).2.cell 1⟩
            clear hK K
            try simp only [Act.put, List.getElem_toArray, List.getElem_cons_succ, List.getElem_cons_zero, List.setIfInBounds_toArray, List.set_cons_zero, List.set_cons_succ]
            refine wpAnyH_take (i := 10) (v := ?_) rfl (by kernel_rfl) (by kernel_rfl) (by kernel_rfl) (fun _ _ _ h => h) (Or.inl ⟨by rfl, ?_⟩) (by assumption) ?_
            rotate_left
            · intro w hSw
              (try dsimp only at hSw)
              go_simp
              all_goals (with_reducible rfl)
            try simp only [Act.put, List.getElem_toArray, List.getElem_cons_succ, List.getElem_cons_zero, List.setIfInBounds_toArray, List.set_cons_zero, List.set_cons_succ]
            refine wpAnyH_take (i := 11) (v := ?_) rfl (by kernel_rfl) (by kernel_rfl) (by kernel_rfl) (fun _ _ _ h => h) (Or.inl ⟨by rfl, ?_⟩) (by assumption) ?_
            rotate_left
            · intro w hSw
              (try dsimp only at hSw)
              go_simp
              all_goals (with_reducible rfl)
            try simp only [Act.put, List.getElem_toArray, List.getElem_cons_succ, List.getElem_cons_zero, List.setIfInBounds_toArray, List.set_cons_zero, List.set_cons_succ]
            refine wpAnyH_take (i := 12) (v := ?_) rfl (by kernel_rfl) (by kernel_rfl) (by kernel_rfl) (fun _ _ _ h => h) (Or.inl ⟨by rfl, ?_⟩) (by assumption) ?_
            rotate_left
            · intro w hSw
              (try dsimp only at hSw)
              go_simp
              all_goals (with_reducible rfl)
            try simp only [Act.put, List.getElem_toArray, List.getElem_cons_succ, List.getElem_cons_zero, List.setIfInBounds_toArray, List.set_cons_zero, List.set_cons_succ]
            refine wpAnyH_take (i := 13) (v := ?_) rfl (by kernel_rfl) (by kernel_rfl) (by kernel_rfl) (fun _ _ _ h => h) (Or.inl ⟨by rfl, ?_⟩) (by assumption) ?_
            rotate_left
            · intro w hSw
              (try dsimp only at hSw)
              go_simp
              all_goals (with_reducible rfl)
            try simp only [Act.put, List.getElem_toArray, List.getElem_cons_succ, List.getElem_cons_zero, List.setIfInBounds_toArray, List.set_cons_zero, List.set_cons_succ]
            refine wpAnyH_take (i := 14) (v := ?_) rfl (by kernel_rfl) (by kernel_rfl) (by kernel_rfl) (fun _ _ _ h => h) (Or.inl ⟨by rfl, ?_⟩) (by assumption) ?_
            rotate_left
            · intro w hSw
              (try dsimp only at hSw)
              go_simp
              all_goals (with_reducible rfl)
            try simp only [Act.put, List.getElem_toArray, List.getElem_cons_succ, List.getElem_cons_zero, List.setIfInBounds_toArray, List.set_cons_zero, List.set_cons_succ]
            refine wpAnyH_take (i := 15) (v := ?_) rfl (by kernel_rfl) (by kernel_rfl) (by kernel_rfl) (fun _ _ _ h => h) (Or.inl ⟨by rfl, ?_⟩) (by assumption) ?_
            rotate_left
            · intro w hSw
              (try dsimp only at hSw)
              go_simp
              all_goals (with_reducible rfl)
            try simp only [Act.put, List.getElem_toArray, List.getElem_cons_succ, List.getElem_cons_zero, List.setIfInBounds_toArray, List.set_cons_zero, List.set_cons_succ]
            refine wpAnyH_take (i := 16) (v := ?_) rfl (by kernel_rfl) (by kernel_rfl) (by kernel_rfl) (fun _ _ _ h => h) (Or.inl ⟨by rfl, ?_⟩) (by assumption) ?_
            rotate_left
            · intro w hSw
              (try dsimp only at hSw)
              go_simp
              all_goals (with_reducible rfl)
            try simp only [Act.put, List.getElem_toArray, List.getElem_cons_succ, List.getElem_cons_zero, List.setIfInBounds_toArray, List.set_cons_zero, List.set_cons_succ]
            refine wpAnyH_done (by kernel_rfl) ?_ _
            go_wp2_with fail
            go_meet
            exact ⟨rfl, rfl, rfl, ⟨r19.out.keep3⟩⟩
        · go_simp
          (go_at_call 12; refine (hdy.out _ _ ?_).mono ?_; (first | exact r17.out.v4 | exact (r17.out.al _).v4 | exact r17.out.drew.v4 | exact (r17.out.al _).drew.v4); rintro e w18 ⟨rfl, hb18⟩; have r18 := Hd.mk (p := SR _ _ _ _) (by (first | exact r17.out.op hb18 | exact (r17.out.al _).op hb18 | exact r17.out.drew.op hb18 | exact (r17.out.al _).drew.op hb18)); (try have q18 : w18.cell? ⟨w16.heap.size, k, none⟩ = some (.int .i64 ((k + 2 : Nat) : Int)) := cb' hb18 q17); (try have q19 : w18.cell? ⟨w17.heap.size, k, none⟩ = some (.int .i64 ((k + 2 : Nat) : Int)) := cb' hb18 (by first | exact hce _ | exact hcf _ | exact hcd _)); clear hb18; have l18 : w2.heap.size < w18.heap.size := (r18.out.blk _ _ hCf.out).2.lt; have m18 : w4.heap.size < w18.heap.size := (r18.out.blk _ _ hDf.out).2.lt)
          refine hK.out _ _ ?_ (fun hHeld => ?_)
          · exact ⟨(r18.out.blk _ _ hCf.out).2.cell 0, (r18.out.blk _ _ hCf.out).2.cell 1, (r18.out.blk _ _ hDf.out).2.cell 0, (r18.out.blk _ _ hDf.out).2.cell 1⟩
          clear hK K
          try simp only [Act.put, List.getElem_toArray, List.getElem_cons_succ, List.getElem_cons_zero, List.setIfInBounds_toArray, List.set_cons_zero, List.set_cons_succ]
          refine wpAnyH_ready (rs := [0]) (by kernel_rfl) (by simp) ?_
          refine AllReadyH.cons rfl (fun K hK => ?_) AllReadyH.nil
          go_simp
          refine hK.out _ _ ?_ (fun hHeld => ?_)
          · exact ⟨by (try dsimp only); first | exact hHeld.1 | exact aw hHeld.1 (by assumption), by (try dsimp only); first | exact hHeld.2.1 | exact aw hHeld.2.1 (by assumption), by (try dsimp only); first | exact hHeld.2.2.1 | exact aw hHeld.2.2.1 (by assumption), by (try dsimp only); first | exact hHeld.2.2.2 | exact aw hHeld.2.2.2 (by assumption)⟩
          clear hK K
          try simp only [Act.put, List.getElem_toArray, List.getElem_cons_succ, List.getElem_cons_zero, List.setIfInBounds_toArray, List.set_cons_zero, List.set_cons_succ]
          refine wpAnyH_take (i := 3) (v := ?_) rfl (by kernel_rfl) (by kernel_rfl) (by kernel_rfl) (fun _ _ _ h => h) (Or.inl ⟨by rfl, ?_⟩) (by assumption) ?_
          rotate_left
          · intro w hSw
            (try dsimp only at hSw)
            go_simp
            all_goals (with_reducible rfl)
          try simp only [Act.put, List.getElem_toArray, List.getElem_cons_succ, List.getElem_cons_zero, List.setIfInBounds_toArray, List.set_cons_zero, List.set_cons_succ]
          refine wpAnyH_ready (rs := [4]) (by kernel_rfl) (by simp) ?_
          refine AllReadyH.cons rfl (fun K hK => ?_) AllReadyH.nil
          go_simp
          refine hK.out _ _ ?_ (fun hHeld => ?_)
          · exact hHeld
          clear hK K
          try simp only [Act.put, List.getElem_toArray, List.getElem_cons_succ, List.getElem_cons_zero, List.setIfInBounds_toArray, List.set_cons_zero, List.set_cons_succ]
          refine wpAnyH_ready (rs := [9]) (by kernel_rfl) (by simp) ?_
          refine AllReadyH.cons rfl (fun K hK => ?_) AllReadyH.nil
          go_simp
          (go_at_call 27; refine (hdd.out _ ?_ ?_).mono ?_; (first | exact hok.below r18.out.bel | exact hok.below (r18.out.al _).bel | exact hok.below r18.out.drew.bel | exact hok.below (r18.out.al _).drew.bel); (first | exact her.below r18.out.bel | exact her.below (r18.out.al _).bel | exact her.below r18.out.drew.bel | exact her.below (r18.out.al _).drew.bel); rintro e w19 ⟨rfl, hb19⟩; have r19 := Hd.mk (p := SR _ _ _ _) (by (first | exact r18.out.op hb19 | exact (r18.out.al _).op hb19 | exact r18.out.drew.op hb19 | exact (r18.out.al _).drew.op hb19)); clear hb19)
          refine hK.out _ _ ?_ (fun hHeld => ?_)
          · exact ⟨(r19.out.blk _ _ hCf.out).2.cell 0, (r19.out.blk _ _ hCf.out).2.cell 1, (r19.out.blk _ _ hDf.out).2.cell 0, (r19.out.blk _ _ hDf.out).2.cell 1⟩
          clear hK K
          try simp only [Act.put, List.getElem_toArray, List.getElem_cons_succ, List.getElem_cons_zero, List.setIfInBounds_toArray, List.set_cons_zero, List.set_cons_succ]
          refine wpAnyH_take (i := 10) (v := ?_) rfl (by kernel_rfl) (by kernel_rfl) (by kernel_rfl) (fun _ _ _ h => h) (Or.inl ⟨by rfl, ?_⟩) (by assumption) ?_
          rotate_left
          · intro w hSw
            (try dsimp only at hSw)
            go_simp
            all_goals (with_reducible rfl)
          try simp only [Act.put, List.getElem_toArray, List.getElem_cons_succ, List.getElem_cons_zero, List.setIfInBounds_toArray, List.set_cons_zero, List.set_cons_succ]
          refine wpAnyH_take (i := 11) (v := ?_) rfl (by kernel_rfl) (by kernel_rfl) (by kernel_rfl) (fun _ _ _ h => h) (Or.inl ⟨by rfl, ?_⟩) (by assumption) ?_
          rotate_left
          · intro w hSw
            (try dsimp only at hSw)
            go_simp
            all_goals (with_reducible rfl)
          try simp only [Act.put, List.getElem_toArray, List.getElem_cons_succ, List.getElem_cons_zero, List.setIfInBounds_toArray, List.set_cons_zero, List.set_cons_succ]
          refine wpAnyH_take (i := 12) (v := ?_) rfl (by kernel_rfl) (by kernel_rfl) (by kernel_rfl) (fun _ _ _ h => h) (Or.inl ⟨by rfl, ?_⟩) (by assumption) ?_
          rotate_left
          · intro w hSw
            (try dsimp only at hSw)
            go_simp
            all_goals (with_reducible rfl)
          try simp only [Act.put, List.getElem_toArray, List.getElem_cons_succ, List.getElem_cons_zero, List.setIfInBounds_toArray, List.set_cons_zero, List.set_cons_succ]
          refine wpAnyH_take (i := 13) (v := ?_) rfl (by kernel_rfl) (by kernel_rfl) (by kernel_rfl) (fun _ _ _ h => h) (Or.inl ⟨by rfl, ?_⟩) (by assumption) ?_
          rotate_left
          · intro w hSw
            (try dsimp only at hSw)
            go_simp
            all_goals (with_reducible rfl)
          try simp only [Act.put, List.getElem_toArray, List.getElem_cons_succ, List.getElem_cons_zero, List.setIfInBounds_toArray, List.set_cons_zero, List.set_cons_succ]
          refine wpAnyH_take (i := 14) (v := ?_) rfl (by kernel_rfl) (by kernel_rfl) (by kernel_rfl) (fun _ _ _ h => h) (Or.inl ⟨by rfl, ?_⟩) (by assumption) ?_
          rotate_left
          · intro w hSw
            (try dsimp only at hSw)
            go_simp
            all_goals (with_reducible rfl)
          try simp only [Act.put, List.getElem_toArray, List.getElem_cons_succ, List.getElem_cons_zero, List.setIfInBounds_toArray, List.set_cons_zero, List.set_cons_succ]
          refine wpAnyH_take (i := 15) (v := ?_) rfl (by kernel_rfl) (by kernel_rfl) (by kernel_rfl) (fun _ _ _ h => h) (Or.inl ⟨by rfl, ?_⟩) (by assumption) ?_
          rotate_left
          · intro w hSw
            (try dsimp only at hSw)
            go_simp
            all_goals (with_reducible rfl)
          try simp only [Act.put, List.getElem_toArray, List.getElem_cons_succ, List.getElem_cons_zero, List.setIfInBounds_toArray, List.set_cons_zero, List.set_cons_succ]
          refine wpAnyH_take (i := 16) (v := ?_) rfl (by kernel_rfl) (by kernel_rfl) (by kernel_rfl) (fun _ _ _ h => h) (Or.inl ⟨by rfl, ?_⟩) (by assumption) ?_
          rotate_left
          · intro w hSw
            (try dsimp only at hSw)
            go_simp
            all_goals (with_reducible rfl)
          try simp only [Act.put, List.getElem_toArray, List.getElem_cons_succ, List.getElem_cons_zero, List.setIfInBounds_toArray, List.set_cons_zero, List.set_cons_succ]
          refine wpAnyH_done (by kernel_rfl) ?_ _
          go_wp2_with fail
          go_meet
          exact ⟨rfl, rfl, rfl, ⟨r19.out.keep3⟩⟩
    case rest =>
    obtain ⟨rfl, rfl, rfl, r20⟩ := hcut
    refine SR.cellK r20.out hCf.out ?_
    clear i0 i1 iz iy il
    intro i0 i1 iz iy il
    go_wp2_with (first
      | (go_at_call 12; (with_reducible show Calls _ _ #[Value.agg #[Value.bool b2, Value.slice A2 n2 c2]] _ _); refine (hdx.out _ _ r20.out.v2).mono ?_; rintro e w21 ⟨rfl, hb21⟩; have r21 := Hd.mk (r20.out.op hb21); clear hb21)
      | (go_at_call 30; refine (hdi.out _ (hok.below r21.out.bel) (her.below r21.out.bel)).mono ?_; rintro e w22 ⟨rfl, hb22⟩; have r22 := Hd.mk (r21.out.op hb22); clear hb22)
      | (go_at_call 9; refine (hal.out _ (hok.below r22.out.bel) (her.below r22.out.bel)).mono ?_; rintro e w23 ⟨rfl, hb23⟩; have r23 := Hd.mk (r22.out.op hb23); clear hb23; refine SR.cellK r23.out hF.out ?_; intro k0 k1 kz ky kl)
      | (go_at_call 19; refine (htx.out _ _ r23.out.v0).mono ?_; rintro e w24 ⟨rfl, hb24⟩; have r24 := Hd.mk (r23.out.op hb24); clear hb24; refine SR.cellK r24.out hF.out ?_; intro m0 m1 mz my ml)
      | (go_at_call 12; refine (hdz.out _ _ r24.out.v0).mono ?_; rintro e w25 ⟨rfl, hb25⟩; have r25 := Hd.mk (r24.out.op hb25); clear hb25))
    go_ret
    exact ⟨by simp, r25.out.bel⟩
end Go.Proofs.YtdbjdpooggaonaaGreatDoor
