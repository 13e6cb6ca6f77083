/- Whole numbers of at most 256 bits compared. The thin package: two whole numbers compared. The thin package: two whole numbers compared: the function. Conditions: those that each theorem states. -/
import Derived.Test.YtdbjdpooggaonaaGreatDoorBase29
import Derived.Laws.Tables
import Derived.Test.YtdbjdpooggaonaaGreatDoorBase25
import Derived.Test.YtdbjdpooggaonaaGreatDoorBase27
set_option linter.all false

section
namespace Go.Proofs.YtdbjdpooggaonaaGreatDoor
open Go.RowKit
set_option maxRecDepth 100000
set_option maxHeartbeats 1000000 in
theorem cequal_any (P : Nat → Prop) (bd be : Nat) (x y : Int) (S : Nat → Option Int) (w : World) (hI : Ints P w S) (hx : S bd = some x) (hy : S be = some y) (hw : wlen x.natAbs < 800) :
    Calls Tryz.prog 128 #[ptr bd, ptr be] w fun e w' => e = .returned (.bool (decide (x = y))) ∧ Keep P w w' ∧ Ints P w' S := by
  have r0 := Hd.mk (Run.start hI)
  have hc : (cmpI x y == 0) = (decide (x = y)) := by
    rcases Int.lt_trichotomy x y with h | h | h
    · rw [cmpI_lt h, Bool.eq_iff_iff]; simp <;> omega
    · subst h; rw [cmpI_eq, Bool.eq_iff_iff]; simp <;> omega
    · rw [cmpI_gt h, Bool.eq_iff_iff]; simp <;> omega
  have hm := Hd.mk (ICmp_any _ bd be x y S _ hI hx hy hw)
  clear hI
  generalize cmpI x y = c at *
  replace hc := Hd.mk hc
  replace hx := Hd.mk hx
  replace hy := Hd.mk hy
  go_enter Tryz.func128, Tryz.ntmps128
  go_wp2_with fail
  refine hm.out.mono ?_
  rintro e w3 ⟨rfl, q, rfl⟩
  have r3 := Hd.mk (r0.out.drewN q).fin
  go_wp2
  go_ret
  exact ⟨by rw [← hc.out]; rfl, r3.out.1, r3.out.2⟩
set_option maxHeartbeats 1000000 in
theorem ciEqual_any (P : Nat → Prop) (bd be : Nat) (x y : Int) (S : Nat → Option Int) (w : World) (hI : Ints P w S) (hx : S bd = some x) (hy : S be = some y) (hw : wlen x.natAbs < 800) :
    Calls Tryz.prog 36 #[.agg #[ptr bd], .agg #[ptr be]] w fun e w' => e = .returned (.bool (decide (x = y))) ∧ Keep P w w' ∧ Ints P w' S := by
  have r0 := Hd.mk (Run.start hI)
  clear hI
  have r1 := Hd.mk (r0.out.box #[ptr bd] 65)
  clear r0
  have r2 := Hd.mk (r1.out.box #[ptr be] 65)
  clear r1
  have hm := Hd.mk (cequal_any _ bd be x y S _ r2.out.ints hx hy hw)
  generalize (decide (x = y)) = c at *
  replace hx := Hd.mk hx
  replace hy := Hd.mk hy
  go_enter Tryz.func36, Tryz.ntmps36
  go_wp2_with fail
  refine hm.out.mono ?_
  rintro e w3 ⟨rfl, hk3, hI3⟩
  have r3 := Hd.mk (r2.out.op hk3 hI3).fin
  go_wp2
  go_ret
  exact ⟨rfl, r3.out.1, r3.out.2⟩
set_option maxHeartbeats 1000000 in
theorem cgt_any (P : Nat → Prop) (bd be : Nat) (x y : Int) (S : Nat → Option Int) (w : World) (hI : Ints P w S) (hx : S bd = some x) (hy : S be = some y) (hw : wlen x.natAbs < 800) :
    Calls Tryz.prog 129 #[ptr bd, ptr be] w fun e w' => e = .returned (.bool (decide (y < x))) ∧ Keep P w w' ∧ Ints P w' S := by
  have r0 := Hd.mk (Run.start hI)
  have hc : (cmpI x y == 1) = (decide (y < x)) := by
    rcases Int.lt_trichotomy x y with h | h | h
    · rw [cmpI_lt h, Bool.eq_iff_iff]; simp <;> omega
    · subst h; rw [cmpI_eq, Bool.eq_iff_iff]; simp <;> omega
    · rw [cmpI_gt h, Bool.eq_iff_iff]; simp <;> omega
  have hm := Hd.mk (ICmp_any _ bd be x y S _ hI hx hy hw)
  clear hI
  generalize cmpI x y = c at *
  replace hc := Hd.mk hc
  replace hx := Hd.mk hx
  replace hy := Hd.mk hy
  go_enter Tryz.func129, Tryz.ntmps129
  go_wp2_with fail
  refine hm.out.mono ?_
  rintro e w3 ⟨rfl, q, rfl⟩
  have r3 := Hd.mk (r0.out.drewN q).fin
  go_wp2
  go_ret
  exact ⟨by rw [← hc.out]; rfl, r3.out.1, r3.out.2⟩
set_option maxHeartbeats 1000000 in
theorem ciGT_any (P : Nat → Prop) (bd be : Nat) (x y : Int) (S : Nat → Option Int) (w : World) (hI : Ints P w S) (hx : S bd = some x) (hy : S be = some y) (hw : wlen x.natAbs < 800) :
    Calls Tryz.prog 37 #[.agg #[ptr bd], .agg #[ptr be]] w fun e w' => e = .returned (.bool (decide (y < x))) ∧ Keep P w w' ∧ Ints P w' S := by
  have r0 := Hd.mk (Run.start hI)
  clear hI
  have r1 := Hd.mk (r0.out.box #[ptr bd] 65)
  clear r0
  have r2 := Hd.mk (r1.out.box #[ptr be] 65)
  clear r1
  have hm := Hd.mk (cgt_any _ bd be x y S _ r2.out.ints hx hy hw)
  generalize (decide (y < x)) = c at *
  replace hx := Hd.mk hx
  replace hy := Hd.mk hy
  go_enter Tryz.func37, Tryz.ntmps37
  go_wp2_with fail
  refine hm.out.mono ?_
  rintro e w3 ⟨rfl, hk3, hI3⟩
  have r3 := Hd.mk (r2.out.op hk3 hI3).fin
  go_wp2
  go_ret
  exact ⟨rfl, r3.out.1, r3.out.2⟩
set_option maxHeartbeats 1000000 in
theorem cgte_any (P : Nat → Prop) (bd be : Nat) (x y : Int) (S : Nat → Option Int) (w : World) (hI : Ints P w S) (hx : S bd = some x) (hy : S be = some y) (hw : wlen x.natAbs < 800) :
    Calls Tryz.prog 130 #[ptr bd, ptr be] w fun e w' => e = .returned (.bool (decide (y ≤ x))) ∧ Keep P w w' ∧ Ints P w' S := by
  have r0 := Hd.mk (Run.start hI)
  have hc : (decide (0 ≤ cmpI x y)) = (decide (y ≤ x)) := by
    rcases Int.lt_trichotomy x y with h | h | h
    · rw [cmpI_lt h, Bool.eq_iff_iff]; simp <;> omega
    · subst h; rw [cmpI_eq, Bool.eq_iff_iff]; simp <;> omega
    · rw [cmpI_gt h, Bool.eq_iff_iff]; simp <;> omega
  have hm := Hd.mk (ICmp_any _ bd be x y S _ hI hx hy hw)
  clear hI
  generalize cmpI x y = c at *
  replace hc := Hd.mk hc
  replace hx := Hd.mk hx
  replace hy := Hd.mk hy
  go_enter Tryz.func130, Tryz.ntmps130
  go_wp2_with fail
  refine hm.out.mono ?_
  rintro e w3 ⟨rfl, q, rfl⟩
  have r3 := Hd.mk (r0.out.drewN q).fin
  go_wp2
  go_ret
  exact ⟨by rw [← hc.out]; rfl, r3.out.1, r3.out.2⟩
set_option maxHeartbeats 1000000 in
theorem ciGTE_any (P : Nat → Prop) (bd be : Nat) (x y : Int) (S : Nat → Option Int) (w : World) (hI : Ints P w S) (hx : S bd = some x) (hy : S be = some y) (hw : wlen x.natAbs < 800) :
    Calls Tryz.prog 38 #[.agg #[ptr bd], .agg #[ptr be]] w fun e w' => e = .returned (.bool (decide (y ≤ x))) ∧ Keep P w w' ∧ Ints P w' S := by
  have r0 := Hd.mk (Run.start hI)
  clear hI
  have r1 := Hd.mk (r0.out.box #[ptr bd] 65)
  clear r0
  have r2 := Hd.mk (r1.out.box #[ptr be] 65)
  clear r1
  have hm := Hd.mk (cgte_any _ bd be x y S _ r2.out.ints hx hy hw)
  generalize (decide (y ≤ x)) = c at *
  replace hx := Hd.mk hx
  replace hy := Hd.mk hy
  go_enter Tryz.func38, Tryz.ntmps38
  go_wp2_with fail
  refine hm.out.mono ?_
  rintro e w3 ⟨rfl, hk3, hI3⟩
  have r3 := Hd.mk (r2.out.op hk3 hI3).fin
  go_wp2
  go_ret
  exact ⟨rfl, r3.out.1, r3.out.2⟩
set_option maxHeartbeats 1000000 in
theorem clt_any (P : Nat → Prop) (bd be : Nat) (x y : Int) (S : Nat → Option Int) (w : World) (hI : Ints P w S) (hx : S bd = some x) (hy : S be = some y) (hw : wlen x.natAbs < 800) :
    Calls Tryz.prog 131 #[ptr bd, ptr be] w fun e w' => e = .returned (.bool (decide (x < y))) ∧ Keep P w w' ∧ Ints P w' S := by
  have r0 := Hd.mk (Run.start hI)
  have hc : (cmpI x y == -1) = (decide (x < y)) := by
    rcases Int.lt_trichotomy x y with h | h | h
    · rw [cmpI_lt h, Bool.eq_iff_iff]; simp <;> omega
    · subst h; rw [cmpI_eq, Bool.eq_iff_iff]; simp <;> omega
    · rw [cmpI_gt h, Bool.eq_iff_iff]; simp <;> omega
  have hm := Hd.mk (ICmp_any _ bd be x y S _ hI hx hy hw)
  clear hI
  generalize cmpI x y = c at *
  replace hc := Hd.mk hc
  replace hx := Hd.mk hx
  replace hy := Hd.mk hy
  go_enter Tryz.func131, Tryz.ntmps131
  go_wp2_with fail
  refine hm.out.mono ?_
  rintro e w3 ⟨rfl, q, rfl⟩
  have r3 := Hd.mk (r0.out.drewN q).fin
  go_wp2
  go_ret
  exact ⟨by rw [← hc.out]; rfl, r3.out.1, r3.out.2⟩
set_option maxHeartbeats 1000000 in
theorem ciLT_any (P : Nat → Prop) (bd be : Nat) (x y : Int) (S : Nat → Option Int) (w : World) (hI : Ints P w S) (hx : S bd = some x) (hy : S be = some y) (hw : wlen x.natAbs < 800) :
    Calls Tryz.prog 39 #[.agg #[ptr bd], .agg #[ptr be]] w fun e w' => e = .returned (.bool (decide (x < y))) ∧ Keep P w w' ∧ Ints P w' S := by
  have r0 := Hd.mk (Run.start hI)
  clear hI
  have r1 := Hd.mk (r0.out.box #[ptr bd] 65)
  clear r0
  have r2 := Hd.mk (r1.out.box #[ptr be] 65)
  clear r1
  have hm := Hd.mk (clt_any _ bd be x y S _ r2.out.ints hx hy hw)
  generalize (decide (x < y)) = c at *
  replace hx := Hd.mk hx
  replace hy := Hd.mk hy
  go_enter Tryz.func39, Tryz.ntmps39
  go_wp2_with fail
  refine hm.out.mono ?_
  rintro e w3 ⟨rfl, hk3, hI3⟩
  have r3 := Hd.mk (r2.out.op hk3 hI3).fin
  go_wp2
  go_ret
  exact ⟨rfl, r3.out.1, r3.out.2⟩
set_option maxHeartbeats 1000000 in
theorem clte_any (P : Nat → Prop) (bd be : Nat) (x y : Int) (S : Nat → Option Int) (w : World) (hI : Ints P w S) (hx : S bd = some x) (hy : S be = some y) (hw : wlen x.natAbs < 800) :
    Calls Tryz.prog 132 #[ptr bd, ptr be] w fun e w' => e = .returned (.bool (decide (x ≤ y))) ∧ Keep P w w' ∧ Ints P w' S := by
  have r0 := Hd.mk (Run.start hI)
  have hc : (decide (cmpI x y ≤ 0)) = (decide (x ≤ y)) := by
    rcases Int.lt_trichotomy x y with h | h | h
    · rw [cmpI_lt h, Bool.eq_iff_iff]; simp <;> omega
    · subst h; rw [cmpI_eq, Bool.eq_iff_iff]; simp <;> omega
    · rw [cmpI_gt h, Bool.eq_iff_iff]; simp <;> omega
  have hm := Hd.mk (ICmp_any _ bd be x y S _ hI hx hy hw)
  clear hI
  generalize cmpI x y = c at *
  replace hc := Hd.mk hc
  replace hx := Hd.mk hx
  replace hy := Hd.mk hy
  go_enter Tryz.func132, Tryz.ntmps132
  go_wp2_with fail
  refine hm.out.mono ?_
  rintro e w3 ⟨rfl, q, rfl⟩
  have r3 := Hd.mk (r0.out.drewN q).fin
  go_wp2
  go_ret
  exact ⟨by rw [← hc.out]; rfl, r3.out.1, r3.out.2⟩
set_option maxHeartbeats 1000000 in
theorem ciLTE_any (P : Nat → Prop) (bd be : Nat) (x y : Int) (S : Nat → Option Int) (w : World) (hI : Ints P w S) (hx : S bd = some x) (hy : S be = some y) (hw : wlen x.natAbs < 800) :
    Calls Tryz.prog 40 #[.agg #[ptr bd], .agg #[ptr be]] w fun e w' => e = .returned (.bool (decide (x ≤ y))) ∧ Keep P w w' ∧ Ints P w' S := by
  have r0 := Hd.mk (Run.start hI)
  clear hI
  have r1 := Hd.mk (r0.out.box #[ptr bd] 65)
  clear r0
  have r2 := Hd.mk (r1.out.box #[ptr be] 65)
  clear r1
  have hm := Hd.mk (clte_any _ bd be x y S _ r2.out.ints hx hy hw)
  generalize (decide (x ≤ y)) = c at *
  replace hx := Hd.mk hx
  replace hy := Hd.mk hy
  go_enter Tryz.func40, Tryz.ntmps40
  go_wp2_with fail
  refine hm.out.mono ?_
  rintro e w3 ⟨rfl, hk3, hI3⟩
  have r3 := Hd.mk (r2.out.op hk3 hI3).fin
  go_wp2
  go_ret
  exact ⟨rfl, r3.out.1, r3.out.2⟩
end Go.Proofs.YtdbjdpooggaonaaGreatDoor
end

section
namespace Go.Proofs.YtdbjdpooggaonaaGreatDoor
open Go.RowKit
set_option maxRecDepth 100000
theorem buildC (a b c d e : Bool) (w : World) : (Instr.build 29 #[(0, .bool a), (1, .bool b), (2, .bool c), (3, .bool d), (4, .bool e)]).run Tryz.prog w = .ok (.agg #[.bool a, .bool b, .bool c, .bool d, .bool e]) w :=
  run_build _ _ _ _ (by kernel_rfl)
theorem farC {w : World} {b bl : Nat} {u0 u1 u2 u3 u4 v : Value} (h : w.cell? ⟨b, 0, none⟩ = some v) (hne : bl ≠ b) : (((((w.setCell ⟨bl, 0, none⟩ u0).setCell ⟨bl, 1, none⟩ u1).setCell ⟨bl, 2, none⟩ u2).setCell ⟨bl, 3, none⟩ u3).setCell ⟨bl, 4, none⟩ u4).cell? ⟨b, 0, none⟩ = some v := by
  repeat rw [World.cell?_setCell_far _ _ _ _ hne]
  exact h
abbrev falsesC : List Value := [.bool false, .bool false, .bool false, .bool false, .bool false]
/-- Equal, GT, GTE, LT, LTE. -/
def cmpLC (x y : Int) : List Value := [.bool (decide (x = y)), .bool (decide (y < x)), .bool (decide (y ≤ x)), .bool (decide (x < y)), .bool (decide (x ≤ y))]
set_option maxHeartbeats 8000000 in
theorem ICmpC_ok (x y : Int) (hx : x.natAbs < 2 ^ 256) (hy : y.natAbs < 2 ^ 256) (ba bb bl : Nat) (w : World) (hok : Ok w) (her : Er w)
    (ha : Blk w ba 9 [.string (zT x)]) (hb : Blk w bb 9 [.string (zT y)]) (hl : Blk w bl 29 falsesC) (hd : ba ≠ bl ∧ bb ≠ bl) (hl1 : 16 ≤ bl) :
    Calls Tryz.prog 34 #[ptr ba, ptr bb, ptr bl] w fun e w' => e = .returned (.tuple #[]) ∧ Keep (fun k => k < w.heap.size ∧ k ≠ bl) w w' ∧ Blk w' bl 29 (cmpLC x y) := by
  have r0 := Hd.mk (Run.start1 hok hl hl1)
  have hdx := Hd.mk fun w1 h1 h2 => integer_ok x w1 h1 h2 hx
  have hdy := Hd.mk fun w1 h1 h2 => integer_ok y w1 h1 h2 hy
  have ca := ha.cell 0
  have cb := hb.cell 0
  simp only [List.getElem?_cons_zero] at ca cb
  have hPa := Hd.mk (p := ba < w.heap.size ∧ ba ≠ bl) ⟨ha.lt, hd.1⟩
  have hPb := Hd.mk (p := bb < w.heap.size ∧ bb ≠ bl) ⟨hb.lt, hd.2⟩
  have lu := hl.lt
  have la := ha.lt
  have lb := hb.lt
  have hwx := wl256 hx
  have hc0 := Hd.mk fun (Q : Nat → Prop) B C S1 w1 (h : Ints Q w1 S1) (h1 : S1 B = some x) (h2 : S1 C = some y) => ciEqual_any Q B C x y S1 w1 h h1 h2 (by omega)
  have hc1 := Hd.mk fun (Q : Nat → Prop) B C S1 w1 (h : Ints Q w1 S1) (h1 : S1 B = some x) (h2 : S1 C = some y) => ciGT_any Q B C x y S1 w1 h h1 h2 (by omega)
  have hc2 := Hd.mk fun (Q : Nat → Prop) B C S1 w1 (h : Ints Q w1 S1) (h1 : S1 B = some x) (h2 : S1 C = some y) => ciGTE_any Q B C x y S1 w1 h h1 h2 (by omega)
  have hc3 := Hd.mk fun (Q : Nat → Prop) B C S1 w1 (h : Ints Q w1 S1) (h1 : S1 B = some x) (h2 : S1 C = some y) => ciLT_any Q B C x y S1 w1 h h1 h2 (by omega)
  have hc4 := Hd.mk fun (Q : Nat → Prop) B C S1 w1 (h : Ints Q w1 S1) (h1 : S1 B = some x) (h2 : S1 C = some y) => ciLTE_any Q B C x y S1 w1 h h1 h2 (by omega)
  unfold cmpLC
  generalize decide (x = y) = q0 at *
  generalize decide (y < x) = q1 at *
  generalize decide (y ≤ x) = q2 at *
  generalize decide (x < y) = q3 at *
  generalize decide (x ≤ y) = q4 at *
  replace hx := Hd.mk hx
  replace hy := Hd.mk hy
  generalize zT x = sx at *
  generalize zT y = sy at *
  replace ha := Hd.mk ha
  replace hb := Hd.mk hb
  replace hl := Hd.mk hl
  go_enter Tryz.func34, Tryz.ntmps34
  go_upto_region 0 with fail
  go_cut [3, 4] (fun t6 t7 wx => ∃ b6 b7 BA BB, t6 = ptr b6 ∧ t7 = ptr b7 ∧ ∃ X S, Hd (Run (fun k => k < w.heap.size ∧ k ≠ bl) w wx X S) ∧ Hd (X b6 = some (65, [ptr BA])) ∧ Hd (X b7 = some (65, [ptr BB])) ∧ Hd (S BA = some x) ∧ Hd (S BB = some y) ∧ Hd (X bl = some (29, falsesC)) ∧ BA ≠ BB ∧ b6 ≠ b7 ∧ w.heap.size ≤ b6 ∧ w.heap.size ≤ b7)
  case first =>
    go_region_held3 (fun wx => wx.cell? ⟨ba, 0, none⟩ = some (.string sx) ∧ wx.cell? ⟨bb, 0, none⟩ = some (.string sy)) ((first | exact ⟨ca, cb⟩ | exact ⟨ka4, kb4⟩ | exact ⟨ka5, kb5⟩ | (constructor <;> (repeat first | assumption | rw [World.cell?_drew] | (rw [World.cell?_alloc_lt _ _ _ (by (try simp only [World.size_alloc, World.size_drew, World.size_setCell]); show _ < _; omega)]) | rw [World.cell?_setCell_far _ _ _ _ (by (try simp only [World.size_alloc, World.size_drew, World.size_setCell]); show _ ≠ _; omega)])))) (first | (go_at_call 35; (with_reducible show Calls _ _ #[Value.string sx] _ _); refine (hdx.out _ ?_ ?_).mono ?_; (first | exact (r0.out.drew).ok | exact ((r0.out.box _ _).drew).ok | exact (((r0.out.box _ _).box _ _).drew).ok); (first | exact (r0.out.drew).er her | exact ((r0.out.box _ _).drew).er her | exact (((r0.out.box _ _).box _ _).drew).er her); rintro e w4 ⟨B4, rfl, hn4⟩; have r4 := Hd.mk (p := Run _ _ _ _ _) (by first | exact (r0.out.drew).new_int hn4 | exact ((r0.out.box _ _).drew).new_int hn4 | exact (((r0.out.box _ _).box _ _).drew).new_int hn4); have g4 := hn4.ge; have s4 := hn4.bel.size; (try simp only [World.size_alloc, World.size_drew] at g4 s4); (try simp only [World.size_alloc, World.size_drew, World.size_setCell] at r4); have l4 := r4.out.ilt upd_same; clear hn4; have ka4 : w4.cell? ⟨ba, 0, none⟩ = some (.string sx) := (r4.out.keep.blk ha.out hPa.out).cell 0; have kb4 : w4.cell? ⟨bb, 0, none⟩ = some (.string sy) := (r4.out.keep.blk hb.out hPb.out).cell 0; (try (refine Run.cellK r4.out (b := w.heap.size) (T := 65) (v := .pointer none) ?_ ?_; (focus (((try simp only [World.size_alloc, World.size_drew, World.size_setCell]); (repeat first | exact updX_same | rw [updX_ne (by (try simp only [World.size_alloc, World.size_drew, World.size_setCell]); omega)])); done)); intro a6 a6z a6l)); (try (refine Run.cellK r4.out (b := (w.heap.size + 1)) (T := 65) (v := .pointer none) ?_ ?_; (focus (((try simp only [World.size_alloc, World.size_drew, World.size_setCell]); (repeat first | exact updX_same | rw [updX_ne (by (try simp only [World.size_alloc, World.size_drew, World.size_setCell]); omega)])); done)); intro a7 a7z a7l))) | (go_at_call 35; (with_reducible show Calls _ _ #[Value.string sy] _ _); refine (hdy.out _ ?_ ?_).mono ?_; (first | exact (r4.out).ok | exact ((r4.out.box _ _)).ok | exact (((r4.out.box _ _).box _ _)).ok); (first | exact (r4.out).er her | exact ((r4.out.box _ _)).er her | exact (((r4.out.box _ _).box _ _)).er her); rintro e w5 ⟨B5, rfl, hn5⟩; have r5 := Hd.mk (p := Run _ _ _ _ _) (by first | exact (r4.out).new_int hn5 | exact ((r4.out.box _ _)).new_int hn5 | exact (((r4.out.box _ _).box _ _)).new_int hn5); have g5 := hn5.ge; have s5 := hn5.bel.size; (try simp only [World.size_alloc, World.size_drew] at g5 s5); (try simp only [World.size_alloc, World.size_drew, World.size_setCell] at r5); have l5 := r5.out.ilt upd_same; clear hn5; have ka5 : w5.cell? ⟨ba, 0, none⟩ = some (.string sx) := (r5.out.keep.blk ha.out hPa.out).cell 0; have kb5 : w5.cell? ⟨bb, 0, none⟩ = some (.string sy) := (r5.out.keep.blk hb.out hPb.out).cell 0; (try (refine Run.cellK r5.out (b := w.heap.size) (T := 65) (v := .pointer none) ?_ ?_; (focus (((try simp only [World.size_alloc, World.size_drew, World.size_setCell]); (repeat first | exact updX_same | rw [updX_ne (by (try simp only [World.size_alloc, World.size_drew, World.size_setCell]); omega)])); done)); intro b6 b6z b6l)); (try (refine Run.cellK r5.out (b := (w.heap.size + 1)) (T := 65) (v := .pointer none) ?_ ?_; (focus (((try simp only [World.size_alloc, World.size_drew, World.size_setCell]); (repeat first | exact updX_same | rw [updX_ne (by (try simp only [World.size_alloc, World.size_drew, World.size_setCell]); omega)])); done)); intro b7 b7z b7l)); (try (refine Run.cellK r5.out (b := w4.heap.size) (T := 65) (v := .pointer none) ?_ ?_; (focus (((try simp only [World.size_alloc, World.size_drew, World.size_setCell]); (repeat first | exact updX_same | rw [updX_ne (by (try simp only [World.size_alloc, World.size_drew, World.size_setCell]); omega)])); done)); intro c6 c6z c6l)); (try (refine Run.cellK r5.out (b := (w4.heap.size + 1)) (T := 65) (v := .pointer none) ?_ ?_; (focus (((try simp only [World.size_alloc, World.size_drew, World.size_setCell]); (repeat first | exact updX_same | rw [updX_ne (by (try simp only [World.size_alloc, World.size_drew, World.size_setCell]); omega)])); done)); intro c7 c7z c7l))))
    all_goals
      go_wp2_with fail
      go_meet
      refine ⟨_, _, B4, B5, rfl, rfl, ?_⟩
      apply RunEx
      focus
        (repeat first | exact r5.out | apply Run.box | apply Run.set1 (v := .pointer none) (T := 65) | exact updX_same | rw [updX_ne (by (try simp only [World.size_alloc, World.size_drew, World.size_setCell]); omega)])
        done
      refine ⟨⟨?_⟩, ⟨?_⟩, ⟨?_⟩, ⟨?_⟩, ⟨?_⟩, ?_⟩
      focus
        ((try simp only [World.size_alloc, World.size_drew, World.size_setCell]); (repeat first | exact updX_same | rw [updX_ne (by (try simp only [World.size_alloc, World.size_drew, World.size_setCell]); omega)]))
        done
      focus
        ((try simp only [World.size_alloc, World.size_drew, World.size_setCell]); (repeat first | exact updX_same | rw [updX_ne (by (try simp only [World.size_alloc, World.size_drew, World.size_setCell]); omega)]))
        done
      focus
        rw [upd_ne (by omega)]
        exact upd_same
      focus
        exact upd_same
      focus
        ((try simp only [World.size_alloc, World.size_drew, World.size_setCell]); (repeat first | exact updX_same | rw [updX_ne (by (try simp only [World.size_alloc, World.size_drew, World.size_setCell]); omega)]))
        done
      (try simp only [World.size_alloc, World.size_drew, World.size_setCell])
      omega
  case rest =>
    obtain ⟨b6, b7, BA, BB, rfl, rfl, X, S, r6, h6, h7, hSA, hSB, hXl, hAB, h67, hb6, hb7⟩ := hcut
    have l6 := r6.out.lt h6.out
    have l7 := r6.out.lt h7.out
    have e6 : wc.cell? ⟨b6, 0, none⟩ = some (ptr BA) := (r6.out.bx _ _ _ h6.out).cell 0
    have e7 : wc.cell? ⟨b7, 0, none⟩ = some (ptr BB) := (r6.out.bx _ _ _ h7.out).cell 0
    have m9 : wc.drew.cell? ⟨b6, 0, none⟩ = some (ptr BA) ∧ wc.drew.cell? ⟨b7, 0, none⟩ = some (ptr BB) := ⟨e6, e7⟩
    have hb6l : b6 ≠ bl := by omega
    have hbd := buildC
    have hb7l : b7 ≠ bl := by omega
    go_upto_region 1 with fail
    go_region_held3 (fun wx => wx.cell? ⟨b6, 0, none⟩ = some (ptr BA) ∧ wx.cell? ⟨b7, 0, none⟩ = some (ptr BB)) (first | with_reducible exact m9 | with_reducible exact m0 | with_reducible exact m1 | with_reducible exact m2 | with_reducible exact m3 | with_reducible exact m4 | exact ⟨farC m4.1 (fun e => hb6l e.symm), farC m4.2 (fun e => hb7l e.symm)⟩) (first
      | (go_at_call 36; refine (hc0.out _ BA BB _ _ r6.out.drew.ints hSA.out hSB.out).mono ?_; rintro e v0 ⟨rfl, hk9, hI9⟩; have g0 := Hd.mk (r6.out.drew.op hk9 hI9); clear hk9 hI9; have m0 : v0.cell? ⟨b6, 0, none⟩ = some (ptr BA) ∧ v0.cell? ⟨b7, 0, none⟩ = some (ptr BB) := ⟨(g0.out.bx _ _ _ h6.out).cell 0, (g0.out.bx _ _ _ h7.out).cell 0⟩)
      | (go_at_call 37; refine (hc1.out _ BA BB _ _ g0.out.ints hSA.out hSB.out).mono ?_; rintro e v1 ⟨rfl, hk9, hI9⟩; have g1 := Hd.mk (g0.out.op hk9 hI9); clear hk9 hI9; have m1 : v1.cell? ⟨b6, 0, none⟩ = some (ptr BA) ∧ v1.cell? ⟨b7, 0, none⟩ = some (ptr BB) := ⟨(g1.out.bx _ _ _ h6.out).cell 0, (g1.out.bx _ _ _ h7.out).cell 0⟩)
      | (go_at_call 38; refine (hc2.out _ BA BB _ _ g1.out.ints hSA.out hSB.out).mono ?_; rintro e v2 ⟨rfl, hk9, hI9⟩; have g2 := Hd.mk (g1.out.op hk9 hI9); clear hk9 hI9; have m2 : v2.cell? ⟨b6, 0, none⟩ = some (ptr BA) ∧ v2.cell? ⟨b7, 0, none⟩ = some (ptr BB) := ⟨(g2.out.bx _ _ _ h6.out).cell 0, (g2.out.bx _ _ _ h7.out).cell 0⟩)
      | (go_at_call 39; refine (hc3.out _ BA BB _ _ g2.out.ints hSA.out hSB.out).mono ?_; rintro e v3 ⟨rfl, hk9, hI9⟩; have g3 := Hd.mk (g2.out.op hk9 hI9); clear hk9 hI9; have m3 : v3.cell? ⟨b6, 0, none⟩ = some (ptr BA) ∧ v3.cell? ⟨b7, 0, none⟩ = some (ptr BB) := ⟨(g3.out.bx _ _ _ h6.out).cell 0, (g3.out.bx _ _ _ h7.out).cell 0⟩)
      | (go_at_call 40; refine (hc4.out _ BA BB _ _ g3.out.ints hSA.out hSB.out).mono ?_; rintro e v4 ⟨rfl, hk9, hI9⟩; have g4 := Hd.mk (g3.out.op hk9 hI9); clear hk9 hI9; have m4 : v4.cell? ⟨b6, 0, none⟩ = some (ptr BA) ∧ v4.cell? ⟨b7, 0, none⟩ = some (ptr BB) := ⟨(g4.out.bx _ _ _ h6.out).cell 0, (g4.out.bx _ _ _ h7.out).cell 0⟩; have hbl := g4.out.bx _ _ _ hXl.out; have z0 := hbl.frozen 0; have z1 := hbl.frozen 1; have z2 := hbl.frozen 2; have z3 := hbl.frozen 3; have z4 := hbl.frozen 4; have y0 := hbl.cell 0; have y1 := hbl.cell 1; have y2 := hbl.cell 2; have y3 := hbl.cell 3; have y4 := hbl.cell 4; simp only [List.getElem?_cons_succ, List.getElem?_cons_zero] at y0 y1 y2 y3 y4; replace hbl := Hd.mk hbl))
    all_goals
      have r9 := g4.out.store hXl.out ((((((Put.refl hbl.out).set 0 (.bool q0)).set 1 (.bool q1)).set 2 (.bool q2)).set 3 (.bool q3)).set 4 (.bool q4))
      have hkk := Hd.mk r9.keep
      have hB := Hd.mk (r9.bx bl _ _ updX_same)
      clear r9
      go_wp2
      go_end0
      exact ⟨rfl, hkk.out, hB.out⟩
end Go.Proofs.YtdbjdpooggaonaaGreatDoor
end

section
namespace Go.Proofs.YtdbjdpooggaonaaGreatDoor
open Go.RowKit
set_option maxRecDepth 100000
abbrev icmpW (w : World) (a b : ByteArray) : World := ((w.alloc (.cells #[.string a] 9)).alloc (.cells #[.string b] 9)).alloc (.cells #[.bool false, .bool false, .bool false, .bool false, .bool false] 29)
theorem icmpW_below (w : World) (a b : ByteArray) : Below w.heap.size w (icmpW w a b) :=
  (((Below.refl _ _).alloc (Nat.le_refl _) _).alloc (by simp only [World.size_alloc]; omega) _).alloc (by simp only [World.size_alloc]; omega) _
theorem icmpW_blk (w : World) (a b : ByteArray) : Blk (icmpW w a b) w.heap.size 9 [.string a] ∧ Blk (icmpW w a b) (w.heap.size + 1) 9 [.string b] ∧ Blk (icmpW w a b) (w.heap.size + 2) 29 falsesC := by
  have h1 := Blk.new w #[.string a] 9
  have h2 := Blk.new (w.alloc (.cells #[.string a] 9)) #[.string b] 9
  have h3 := Blk.new ((w.alloc (.cells #[.string a] 9)).alloc (.cells #[.string b] 9)) #[.bool false, .bool false, .bool false, .bool false, .bool false] 29
  simp only [World.size_alloc] at h1 h2 h3
  exact ⟨(h1.alloc _).alloc _, h2.alloc _, h3⟩
set_option maxHeartbeats 2000000 in
theorem IntCompare_ok (x y : Int) (hx : x.natAbs < 2 ^ 256) (hy : y.natAbs < 2 ^ 256) (w : World) (hok : Ok w) (her : Er w) :
    Calls Tryz.prog 10 #[.string (zT x), .string (zT y)] w fun e w' => e = .returned (.agg #[.bool (decide (x = y)), .bool (decide (y < x)), .bool (decide (y ≤ x)), .bool (decide (x < y)), .bool (decide (x ≤ y))]) ∧ Below w.heap.size w w' := by
  obtain ⟨h1, h2, h3⟩ := icmpW_blk w (zT x) (zT y)
  have hb1 := icmpW_below w (zT x) (zT y)
  have hs1 : (icmpW w (zT x) (zT y)).heap.size = w.heap.size + 3 := by simp only [World.size_alloc]
  have h100 := hok.2
  generalize hW : icmpW w (zT x) (zT y) = w1 at *
  have hb2 : Below w1.heap.size w1 (okW w1) := (Below.refl _ _).alloc (Nat.le_refl _) _
  have hb3 := hb1.trans (hb2.mono hb1.size)
  have hs2 : (okW w1).heap.size = w1.heap.size + 1 := World.size_alloc _ _
  have hc := ICmpC_ok x y hx hy w.heap.size (w.heap.size + 1) (w.heap.size + 2) (okW w1) (hok.below hb3) (her.below hb3) (h1.alloc _) (h2.alloc _) (h3.alloc _) (by omega) (by omega)
  unfold cmpLC at hc
  generalize decide (x = y) = q0 at *
  generalize decide (y < x) = q1 at *
  generalize decide (y ≤ x) = q2 at *
  generalize decide (x < y) = q3 at *
  generalize decide (x ≤ y) = q4 at *
  have hsf := Hd.mk (safe_ok 34 _ w1 (fun w2 => Keep (fun k => k < (okW w1).heap.size ∧ k ≠ (w.heap.size + 2)) (okW w1) w2 ∧ Blk w2 (w.heap.size + 2) 29 [.bool q0, .bool q1, .bool q2, .bool q3, .bool q4]) (enters Tryz.func34 (by kernel_rfl) (by kernel_rfl)) (hc.mono fun e w2 ⟨q1, q2, q3⟩ => ⟨q1, q2.block _ ⟨by omega, by omega⟩ (by omega), q2, q3⟩))
  have hfin : Hd (∀ w2 w3, Keep (fun k => k < (okW w1).heap.size ∧ k ≠ (w.heap.size + 2)) (okW w1) w2 → Put w2 w3 w1.heap.size 4 [.bool true] → Below w.heap.size w w3) := ⟨fun w2 w3 q1 q2 => q2.bel (hb3.trans ⟨q1.os, q1.tape, q1.output, q1.size, fun k hk => q1.block k ⟨Nat.lt_of_lt_of_le hk hb3.size, by omega⟩ (Nat.lt_of_lt_of_le hk hb3.size)⟩) hb1.size⟩
  have hmf : ∀ (fn : Fn) (first cap : Array Value) (w : World), (Instr.makeFunc fn first cap).run Tryz.prog w = .ok (.func fn first cap) w := fun _ _ _ _ => rfl
  have hne : w.heap.size + 2 ≠ w1.heap.size := by omega
  clear hc h1 h2 h3 hb1 hb2 hb3 hok her
  go_enter Tryz.func10, Tryz.ntmps10
  go_wp2_with fail
  refine hsf.out.mono ?_
  rintro e w3 ⟨rfl, w2, ⟨hc2, hu2⟩, hp3⟩
  have hb3 := Hd.mk (hfin.out w2 w3 hc2 hp3)
  have hu3 := hp3.blk hu2 hne
  have y0 : w3.cell? ⟨w.heap.size + 1 + 1, 0, none⟩ = some (.bool q0) := hu3.cell 0
  have y1 : w3.cell? ⟨w.heap.size + 1 + 1, 1, none⟩ = some (.bool q1) := hu3.cell 1
  have y2 : w3.cell? ⟨w.heap.size + 1 + 1, 2, none⟩ = some (.bool q2) := hu3.cell 2
  have y3 : w3.cell? ⟨w.heap.size + 1 + 1, 3, none⟩ = some (.bool q3) := hu3.cell 3
  have y4 : w3.cell? ⟨w.heap.size + 1 + 1, 4, none⟩ = some (.bool q4) := hu3.cell 4
  have z0 : w3.frozen? ⟨w.heap.size + 1 + 1, 0, none⟩ = false := hu3.frozen 0
  have z1 : w3.frozen? ⟨w.heap.size + 1 + 1, 1, none⟩ = false := hu3.frozen 1
  have z2 : w3.frozen? ⟨w.heap.size + 1 + 1, 2, none⟩ = false := hu3.frozen 2
  have z3 : w3.frozen? ⟨w.heap.size + 1 + 1, 3, none⟩ = false := hu3.frozen 3
  have z4 : w3.frozen? ⟨w.heap.size + 1 + 1, 4, none⟩ = false := hu3.frozen 4
  have lu : w.heap.size + 1 + 1 < w3.heap.size := hu3.lt
  have hself := Hd.mk (((((Put.refl hu3).set 0 (.bool q0)).set 1 (.bool q1)).set 2 (.bool q2)).set 3 (.bool q3))
  clear hu3 hu2 hc2 hp3 hsf hfin
  go_wp2
  refine bodyPost_ret (v := .agg #[.bool q0, .bool q1, .bool q2, .bool q3, .bool q4]) (by simp [results, Tryz.results10, go_sem, y0, y1, y2, y3, y4, z0, z1, z2, z3, z4, lu]) rfl ⟨rfl, ?_⟩
  (repeat first | exact hb3.out | refine Below.setCell ?_ (by dsimp only; omega) _)
end Go.Proofs.YtdbjdpooggaonaaGreatDoor
end
