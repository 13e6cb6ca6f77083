/- The thin package: two decimals compared. Conditions: those that each theorem states. -/
import Derived.Laws.Tables
import Derived.Test.YtdbjdpooggaonaaGreatDoorBase28
import Derived.Test.YtdbjdpooggaonaaGreatDoorBase25
import Derived.Test.YtdbjdpooggaonaaGreatDoorBase27
import Derived.Test.YtdbjdpooggaonaaGreatDoorBase29
set_option linter.all false

namespace Go.Proofs.YtdbjdpooggaonaaGreatDoor
open Go.RowKit
set_option maxRecDepth 100000
theorem build5 (a b c d e : Bool) (w : World) : (Instr.build 31 #[(0, .bool a), (1, .bool b), (2, .bool c), (3, .bool d), (4, .bool e)]).run Tryz.prog w = .ok (.agg #[.bool a, .bool b, .bool c, .bool d, .bool e]) w :=
  run_build _ _ _ _ (by kernel_rfl)
theorem far5 {w : World} {b bl : Nat} {u0 u1 u2 u3 u4 v : Value} (h : w.cell? ⟨b, 0, none⟩ = some v) (hne : bl ≠ b) : (((((w.setCell ⟨bl, 0, none⟩ u0).setCell ⟨bl, 1, none⟩ u1).setCell ⟨bl, 2, none⟩ u2).setCell ⟨bl, 3, none⟩ u3).setCell ⟨bl, 4, none⟩ u4).cell? ⟨b, 0, none⟩ = some v := by
  repeat rw [World.cell?_setCell_far _ _ _ _ hne]
  exact h
abbrev falses : List Value := [.bool false, .bool false, .bool false, .bool false, .bool false]
/-- Equal, GT, GTE, LT, LTE. -/
def cmpL (x y : Int) : List Value := [.bool (decide (x = y)), .bool (decide (y < x)), .bool (decide (y ≤ x)), .bool (decide (x < y)), .bool (decide (x ≤ y))]
set_option maxHeartbeats 8000000 in
theorem CmpC_ok (x y : Int) (hx : inR x = true) (hy : inR y = true) (ba bb bl : Nat) (w : World) (hok : Ok w) (her : Er w)
    (ha : Blk w ba 9 [.string (zT x)]) (hb : Blk w bb 9 [.string (zT y)]) (hl : Blk w bl 31 falses) (hd : ba ≠ bl ∧ bb ≠ bl) (hl1 : 16 ≤ bl) :
    Calls Tryz.prog 41 #[ptr ba, ptr bb, ptr bl] w fun e w' => e = .returned (.tuple #[]) ∧ Keep (fun k => k < w.heap.size ∧ k ≠ bl) w w' ∧ Blk w' bl 31 (cmpL x y) := by
  have r0 := Hd.mk (Run.start1 hok hl hl1)
  have hdx := Hd.mk fun w1 h1 h2 => decimal_ok x w1 h1 h2 (inR_130 hx)
  have hdy := Hd.mk fun w1 h1 h2 => decimal_ok y w1 h1 h2 (inR_130 hy)
  have ca := ha.cell 0
  have cb := hb.cell 0
  simp only [List.getElem?_cons_zero] at ca cb
  have hPa := Hd.mk (p := ba < w.heap.size ∧ ba ≠ bl) ⟨ha.lt, hd.1⟩
  have hPb := Hd.mk (p := bb < w.heap.size ∧ bb ≠ bl) ⟨hb.lt, hd.2⟩
  have lu := hl.lt
  have la := ha.lt
  have lb := hb.lt
  have hwx := inR_wl hx
  have hc0 := Hd.mk fun (Q : Nat → Prop) B C S1 w1 (h : Ints Q w1 S1) (h1 : S1 B = some x) (h2 : S1 C = some y) => dEqual_any Q B C x y S1 w1 h h1 h2 (by omega)
  have hc1 := Hd.mk fun (Q : Nat → Prop) B C S1 w1 (h : Ints Q w1 S1) (h1 : S1 B = some x) (h2 : S1 C = some y) => dGT_any Q B C x y S1 w1 h h1 h2 (by omega)
  have hc2 := Hd.mk fun (Q : Nat → Prop) B C S1 w1 (h : Ints Q w1 S1) (h1 : S1 B = some x) (h2 : S1 C = some y) => dGTE_any Q B C x y S1 w1 h h1 h2 (by omega)
  have hc3 := Hd.mk fun (Q : Nat → Prop) B C S1 w1 (h : Ints Q w1 S1) (h1 : S1 B = some x) (h2 : S1 C = some y) => dLT_any Q B C x y S1 w1 h h1 h2 (by omega)
  have hc4 := Hd.mk fun (Q : Nat → Prop) B C S1 w1 (h : Ints Q w1 S1) (h1 : S1 B = some x) (h2 : S1 C = some y) => dLTE_any Q B C x y S1 w1 h h1 h2 (by omega)
  unfold cmpL
  generalize decide (x = y) = q0 at *
  generalize decide (y < x) = q1 at *
  generalize decide (y ≤ x) = q2 at *
  generalize decide (x < y) = q3 at *
  generalize decide (x ≤ y) = q4 at *
  generalize zT x = sx at *
  generalize zT y = sy at *
  replace ha := Hd.mk ha
  replace hb := Hd.mk hb
  replace hl := Hd.mk hl
  go_enter Tryz.func41, Tryz.ntmps41
  go_upto_region 0 with fail
  go_cut [3, 4] (fun t6 t7 wx => ∃ b6 b7 BA BB, t6 = ptr b6 ∧ t7 = ptr b7 ∧ ∃ X S, Hd (Run (fun k => k < w.heap.size ∧ k ≠ bl) w wx X S) ∧ Hd (X b6 = some (68, [ptr BA])) ∧ Hd (X b7 = some (68, [ptr BB])) ∧ Hd (S BA = some x) ∧ Hd (S BB = some y) ∧ Hd (X bl = some (31, falses)) ∧ BA ≠ BB ∧ b6 ≠ b7 ∧ w.heap.size ≤ b6 ∧ w.heap.size ≤ b7)
  case first =>
    go_region_held3 (fun wx => wx.cell? ⟨ba, 0, none⟩ = some (.string sx) ∧ wx.cell? ⟨bb, 0, none⟩ = some (.string sy)) ((first | exact ⟨ca, cb⟩ | exact ⟨ka4, kb4⟩ | exact ⟨ka5, kb5⟩ | (constructor <;> (repeat first | assumption | rw [World.cell?_drew] | (rw [World.cell?_alloc_lt _ _ _ (by (try simp only [World.size_alloc, World.size_drew, World.size_setCell]); show _ < _; omega)]) | rw [World.cell?_setCell_far _ _ _ _ (by (try simp only [World.size_alloc, World.size_drew, World.size_setCell]); show _ ≠ _; omega)])))) (first | (go_at_call 42; (with_reducible show Calls _ _ #[Value.string sx] _ _); refine (hdx.out _ ?_ ?_).mono ?_; (first | exact (r0.out.drew).ok | exact ((r0.out.box _ _).drew).ok | exact (((r0.out.box _ _).box _ _).drew).ok); (first | exact (r0.out.drew).er her | exact ((r0.out.box _ _).drew).er her | exact (((r0.out.box _ _).box _ _).drew).er her); rintro e w4 ⟨B4, rfl, hn4⟩; have r4 := Hd.mk (p := Run _ _ _ _ _) (by first | exact (r0.out.drew).new_int hn4 | exact ((r0.out.box _ _).drew).new_int hn4 | exact (((r0.out.box _ _).box _ _).drew).new_int hn4); have g4 := hn4.ge; have s4 := hn4.bel.size; (try simp only [World.size_alloc, World.size_drew] at g4 s4); (try simp only [World.size_alloc, World.size_drew, World.size_setCell] at r4); have l4 := r4.out.ilt upd_same; clear hn4; have ka4 : w4.cell? ⟨ba, 0, none⟩ = some (.string sx) := (r4.out.keep.blk ha.out hPa.out).cell 0; have kb4 : w4.cell? ⟨bb, 0, none⟩ = some (.string sy) := (r4.out.keep.blk hb.out hPb.out).cell 0; (try (refine Run.cellK r4.out (b := w.heap.size) (T := 68) (v := .pointer none) ?_ ?_; (focus (((try simp only [World.size_alloc, World.size_drew, World.size_setCell]); (repeat first | exact updX_same | rw [updX_ne (by (try simp only [World.size_alloc, World.size_drew, World.size_setCell]); omega)])); done)); intro a6 a6z a6l)); (try (refine Run.cellK r4.out (b := (w.heap.size + 1)) (T := 68) (v := .pointer none) ?_ ?_; (focus (((try simp only [World.size_alloc, World.size_drew, World.size_setCell]); (repeat first | exact updX_same | rw [updX_ne (by (try simp only [World.size_alloc, World.size_drew, World.size_setCell]); omega)])); done)); intro a7 a7z a7l))) | (go_at_call 42; (with_reducible show Calls _ _ #[Value.string sy] _ _); refine (hdy.out _ ?_ ?_).mono ?_; (first | exact (r4.out).ok | exact ((r4.out.box _ _)).ok | exact (((r4.out.box _ _).box _ _)).ok); (first | exact (r4.out).er her | exact ((r4.out.box _ _)).er her | exact (((r4.out.box _ _).box _ _)).er her); rintro e w5 ⟨B5, rfl, hn5⟩; have r5 := Hd.mk (p := Run _ _ _ _ _) (by first | exact (r4.out).new_int hn5 | exact ((r4.out.box _ _)).new_int hn5 | exact (((r4.out.box _ _).box _ _)).new_int hn5); have g5 := hn5.ge; have s5 := hn5.bel.size; (try simp only [World.size_alloc, World.size_drew] at g5 s5); (try simp only [World.size_alloc, World.size_drew, World.size_setCell] at r5); have l5 := r5.out.ilt upd_same; clear hn5; have ka5 : w5.cell? ⟨ba, 0, none⟩ = some (.string sx) := (r5.out.keep.blk ha.out hPa.out).cell 0; have kb5 : w5.cell? ⟨bb, 0, none⟩ = some (.string sy) := (r5.out.keep.blk hb.out hPb.out).cell 0; (try (refine Run.cellK r5.out (b := w.heap.size) (T := 68) (v := .pointer none) ?_ ?_; (focus (((try simp only [World.size_alloc, World.size_drew, World.size_setCell]); (repeat first | exact updX_same | rw [updX_ne (by (try simp only [World.size_alloc, World.size_drew, World.size_setCell]); omega)])); done)); intro b6 b6z b6l)); (try (refine Run.cellK r5.out (b := (w.heap.size + 1)) (T := 68) (v := .pointer none) ?_ ?_; (focus (((try simp only [World.size_alloc, World.size_drew, World.size_setCell]); (repeat first | exact updX_same | rw [updX_ne (by (try simp only [World.size_alloc, World.size_drew, World.size_setCell]); omega)])); done)); intro b7 b7z b7l)); (try (refine Run.cellK r5.out (b := w4.heap.size) (T := 68) (v := .pointer none) ?_ ?_; (focus (((try simp only [World.size_alloc, World.size_drew, World.size_setCell]); (repeat first | exact updX_same | rw [updX_ne (by (try simp only [World.size_alloc, World.size_drew, World.size_setCell]); omega)])); done)); intro c6 c6z c6l)); (try (refine Run.cellK r5.out (b := (w4.heap.size + 1)) (T := 68) (v := .pointer none) ?_ ?_; (focus (((try simp only [World.size_alloc, World.size_drew, World.size_setCell]); (repeat first | exact updX_same | rw [updX_ne (by (try simp only [World.size_alloc, World.size_drew, World.size_setCell]); omega)])); done)); intro c7 c7z c7l))))
    all_goals
      go_wp2_with fail
      go_meet
      refine ⟨_, _, B4, B5, rfl, rfl, ?_⟩
      apply RunEx
      focus
        (repeat first | exact r5.out | apply Run.box | apply Run.set1 (v := .pointer none) (T := 68) | exact updX_same | rw [updX_ne (by (try simp only [World.size_alloc, World.size_drew, World.size_setCell]); omega)])
        done
      refine ⟨⟨?_⟩, ⟨?_⟩, ⟨?_⟩, ⟨?_⟩, ⟨?_⟩, ?_⟩
      focus
        ((try simp only [World.size_alloc, World.size_drew, World.size_setCell]); (repeat first | exact updX_same | rw [updX_ne (by (try simp only [World.size_alloc, World.size_drew, World.size_setCell]); omega)]))
        done
      focus
        ((try simp only [World.size_alloc, World.size_drew, World.size_setCell]); (repeat first | exact updX_same | rw [updX_ne (by (try simp only [World.size_alloc, World.size_drew, World.size_setCell]); omega)]))
        done
      focus
        rw [upd_ne (by omega)]
        exact upd_same
      focus
        exact upd_same
      focus
        ((try simp only [World.size_alloc, World.size_drew, World.size_setCell]); (repeat first | exact updX_same | rw [updX_ne (by (try simp only [World.size_alloc, World.size_drew, World.size_setCell]); omega)]))
        done
      (try simp only [World.size_alloc, World.size_drew, World.size_setCell])
      omega
  case rest =>
    obtain ⟨b6, b7, BA, BB, rfl, rfl, X, S, r6, h6, h7, hSA, hSB, hXl, hAB, h67, hb6, hb7⟩ := hcut
    have l6 := r6.out.lt h6.out
    have l7 := r6.out.lt h7.out
    have e6 : wc.cell? ⟨b6, 0, none⟩ = some (ptr BA) := (r6.out.bx _ _ _ h6.out).cell 0
    have e7 : wc.cell? ⟨b7, 0, none⟩ = some (ptr BB) := (r6.out.bx _ _ _ h7.out).cell 0
    have m9 : wc.drew.cell? ⟨b6, 0, none⟩ = some (ptr BA) ∧ wc.drew.cell? ⟨b7, 0, none⟩ = some (ptr BB) := ⟨e6, e7⟩
    have hb6l : b6 ≠ bl := by omega
    have hbd := build5
    have hb7l : b7 ≠ bl := by omega
    go_upto_region 1 with fail
    go_region_held3 (fun wx => wx.cell? ⟨b6, 0, none⟩ = some (ptr BA) ∧ wx.cell? ⟨b7, 0, none⟩ = some (ptr BB)) (first | with_reducible exact m9 | with_reducible exact m0 | with_reducible exact m1 | with_reducible exact m2 | with_reducible exact m3 | with_reducible exact m4 | exact ⟨far5 m4.1 (fun e => hb6l e.symm), far5 m4.2 (fun e => hb7l e.symm)⟩) (first
      | (go_at_call 43; refine (hc0.out _ BA BB _ _ r6.out.drew.ints hSA.out hSB.out).mono ?_; rintro e v0 ⟨rfl, hk9, hI9⟩; have g0 := Hd.mk (r6.out.drew.op hk9 hI9); clear hk9 hI9; have m0 : v0.cell? ⟨b6, 0, none⟩ = some (ptr BA) ∧ v0.cell? ⟨b7, 0, none⟩ = some (ptr BB) := ⟨(g0.out.bx _ _ _ h6.out).cell 0, (g0.out.bx _ _ _ h7.out).cell 0⟩)
      | (go_at_call 44; refine (hc1.out _ BA BB _ _ g0.out.ints hSA.out hSB.out).mono ?_; rintro e v1 ⟨rfl, hk9, hI9⟩; have g1 := Hd.mk (g0.out.op hk9 hI9); clear hk9 hI9; have m1 : v1.cell? ⟨b6, 0, none⟩ = some (ptr BA) ∧ v1.cell? ⟨b7, 0, none⟩ = some (ptr BB) := ⟨(g1.out.bx _ _ _ h6.out).cell 0, (g1.out.bx _ _ _ h7.out).cell 0⟩)
      | (go_at_call 45; refine (hc2.out _ BA BB _ _ g1.out.ints hSA.out hSB.out).mono ?_; rintro e v2 ⟨rfl, hk9, hI9⟩; have g2 := Hd.mk (g1.out.op hk9 hI9); clear hk9 hI9; have m2 : v2.cell? ⟨b6, 0, none⟩ = some (ptr BA) ∧ v2.cell? ⟨b7, 0, none⟩ = some (ptr BB) := ⟨(g2.out.bx _ _ _ h6.out).cell 0, (g2.out.bx _ _ _ h7.out).cell 0⟩)
      | (go_at_call 46; refine (hc3.out _ BA BB _ _ g2.out.ints hSA.out hSB.out).mono ?_; rintro e v3 ⟨rfl, hk9, hI9⟩; have g3 := Hd.mk (g2.out.op hk9 hI9); clear hk9 hI9; have m3 : v3.cell? ⟨b6, 0, none⟩ = some (ptr BA) ∧ v3.cell? ⟨b7, 0, none⟩ = some (ptr BB) := ⟨(g3.out.bx _ _ _ h6.out).cell 0, (g3.out.bx _ _ _ h7.out).cell 0⟩)
      | (go_at_call 47; refine (hc4.out _ BA BB _ _ g3.out.ints hSA.out hSB.out).mono ?_; rintro e v4 ⟨rfl, hk9, hI9⟩; have g4 := Hd.mk (g3.out.op hk9 hI9); clear hk9 hI9; have m4 : v4.cell? ⟨b6, 0, none⟩ = some (ptr BA) ∧ v4.cell? ⟨b7, 0, none⟩ = some (ptr BB) := ⟨(g4.out.bx _ _ _ h6.out).cell 0, (g4.out.bx _ _ _ h7.out).cell 0⟩; have hbl := g4.out.bx _ _ _ hXl.out; have z0 := hbl.frozen 0; have z1 := hbl.frozen 1; have z2 := hbl.frozen 2; have z3 := hbl.frozen 3; have z4 := hbl.frozen 4; have y0 := hbl.cell 0; have y1 := hbl.cell 1; have y2 := hbl.cell 2; have y3 := hbl.cell 3; have y4 := hbl.cell 4; simp only [List.getElem?_cons_succ, List.getElem?_cons_zero] at y0 y1 y2 y3 y4; replace hbl := Hd.mk hbl))
    all_goals
      have r9 := g4.out.store hXl.out ((((((Put.refl hbl.out).set 0 (.bool q0)).set 1 (.bool q1)).set 2 (.bool q2)).set 3 (.bool q3)).set 4 (.bool q4))
      have hkk := Hd.mk r9.keep
      have hB := Hd.mk (r9.bx bl _ _ updX_same)
      clear r9
      go_wp2
      go_end0
      exact ⟨rfl, hkk.out, hB.out⟩
end Go.Proofs.YtdbjdpooggaonaaGreatDoor
