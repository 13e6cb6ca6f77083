/- The thin package: an operation of two decimals, any of them, by its contract. Conditions: those that each theorem states. -/
import Derived.Deep.CutBlock
import Derived.Test.YtdbjdpooggaonaaGreatDoorSumsB01
import Derived.Test.YtdbjdpooggaonaaGreatDoorBase25
import Derived.Test.YtdbjdpooggaonaaGreatDoorBase24
set_option linter.all false

namespace Go.Proofs.YtdbjdpooggaonaaGreatDoor
open Go.RowKit
set_option maxRecDepth 100000
set_option maxHeartbeats 16000000 in
theorem DecOpN_ok (k : Nat) (x y z : Int) (hk10 : k < 5) (hx : inR x = true) (hy : inR y = true) (hz : inR z = true) (hop : OpC k false x y z) (ba bb bo bm bu bk : Nat) (w : World) (hok : Ok w) (her : Er w)
    (ha : Blk w ba 9 [.string (zT x)]) (hb : Blk w bb 9 [.string (zT y)]) (ho : Blk w bo 3 [.int .i64 k]) (hm : Blk w bm 4 [.bool false]) (hu : Blk w bu 9 [.string (ByteArray.mk #[])]) (hk : Blk w bk 4 [.bool false])
    (hd : ba ≠ bu ∧ ba ≠ bk ∧ bb ≠ bu ∧ bb ≠ bk ∧ bo ≠ bu ∧ bo ≠ bk ∧ bm ≠ bu ∧ bm ≠ bk ∧ bu ≠ bk) (hb1 : 16 ≤ bu) (hk1 : 16 ≤ bk) :
    Calls Tryz.prog 95 #[ptr ba, ptr bb, ptr bo, ptr bm, ptr bu, ptr bk] w fun e w' => e = .returned (.tuple #[]) ∧ C2 w w' bu bk ∧ Blk w' bu 9 [.string (zT z)] ∧ Blk w' bk 4 [.bool true] := by
  have r0 := Hd.mk (Run.start2 hok hu hk hb1 hk1 hd.2.2.2.2.2.2.2.2)
  have hdx := Hd.mk fun w1 h1 h2 => decimal_ok x w1 h1 h2 (inR_130 hx)
  have hdy := Hd.mk fun w1 h1 h2 => decimal_ok y w1 h1 h2 (inR_130 hy)
  have ca := ha.cell 0
  have cb := hb.cell 0
  simp only [List.getElem?_cons_zero] at ca cb
  have hPo := Hd.mk (p := But2 w bu bk bo) ⟨ho.lt, hd.2.2.2.2.1, hd.2.2.2.2.2.1⟩
  have hPm := Hd.mk (p := But2 w bu bk bm) ⟨hm.lt, hd.2.2.2.2.2.2.1, hd.2.2.2.2.2.2.2.1⟩
  have hPa := Hd.mk (p := But2 w bu bk ba) ⟨ha.lt, hd.1, hd.2.1⟩
  have hPb := Hd.mk (p := But2 w bu bk bb) ⟨hb.lt, hd.2.2.1, hd.2.2.2.1⟩
  have lu := hu.lt
  have lk := hk.lt
  have la := ha.lt
  have lb := hb.lt
  have hpt := Hd.mk fun (Q : Nat → Prop) B z (hz : inR z = true) S1 w1 (h : Ints Q w1 S1) (h1 : S1 B = some z) => parts_ok Q B z S1 w1 h h1 (Nat.le_of_lt (inR_wl hz))
  have hpx := Hd.mk fun Q B => hpt.out Q B x hx
  have hpy := Hd.mk fun Q B => hpt.out Q B y hy
  have hpz := Hd.mk fun Q B => hpt.out Q B z hz
  clear hpt
  generalize zT x = sx at *
  generalize zT y = sy at *
  generalize zT z = sz at *
  replace ha := Hd.mk ha
  replace hb := Hd.mk hb
  replace ho := Hd.mk ho
  replace hm := Hd.mk hm
  replace hu := Hd.mk hu
  replace hk := Hd.mk hk
  replace hop := Hd.mk hop
  go_enter Tryz.func95, Tryz.ntmps95
  go_upto_region 1 with fail
  go_cut [6, 7] (fun t6 t7 wx => ∃ b6 b7 BA BB, t6 = ptr b6 ∧ t7 = ptr b7 ∧ ∃ X S, Hd (Run (But2 w bu bk) w wx X S) ∧ Hd (X b6 = some (68, [ptr BA])) ∧ Hd (X b7 = some (68, [ptr BB])) ∧ Hd (S BA = some x) ∧ Hd (S BB = some y) ∧ Hd (X bu = some (9, [.string (ByteArray.mk #[])])) ∧ Hd (X bk = some (4, [.bool false])) ∧ BA ≠ BB ∧ b6 ≠ b7 ∧ w.heap.size ≤ b6 ∧ w.heap.size ≤ b7 ∧ w.heap.size ≤ BA ∧ w.heap.size ≤ BB)
  case first =>
    as_aux_lemma =>
      go_region_held3 (fun wx => wx.cell? ⟨ba, 0, none⟩ = some (.string sx) ∧ wx.cell? ⟨bb, 0, none⟩ = some (.string sy)) ((first | exact ⟨ca, cb⟩ | exact ⟨ka4, kb4⟩ | exact ⟨ka5, kb5⟩ | (constructor <;> (repeat first | assumption | rw [World.cell?_drew] | (rw [World.cell?_alloc_lt _ _ _ (by (try simp only [World.size_alloc, World.size_drew, World.size_setCell]); show _ < _; omega)]) | rw [World.cell?_setCell_far _ _ _ _ (by (try simp only [World.size_alloc, World.size_drew, World.size_setCell]); show _ ≠ _; omega)])))) (first | (go_at_call 42; (with_reducible show Calls _ _ #[Value.string sx] _ _); refine (hdx.out _ ?_ ?_).mono ?_; (first | exact (r0.out.drew).ok | exact ((r0.out.box _ _).drew).ok | exact (((r0.out.box _ _).box _ _).drew).ok); (first | exact (r0.out.drew).er her | exact ((r0.out.box _ _).drew).er her | exact (((r0.out.box _ _).box _ _).drew).er her); rintro e w4 ⟨B4, rfl, hn4⟩; have r4 := Hd.mk (p := Run _ _ _ _ _) (by first | exact (r0.out.drew).new_int hn4 | exact ((r0.out.box _ _).drew).new_int hn4 | exact (((r0.out.box _ _).box _ _).drew).new_int hn4); have g4 := hn4.ge; have s4 := hn4.bel.size; (try simp only [World.size_alloc, World.size_drew] at g4 s4); (try simp only [World.size_alloc, World.size_drew, World.size_setCell] at r4); have l4 := r4.out.ilt upd_same; clear hn4; have ka4 : w4.cell? ⟨ba, 0, none⟩ = some (.string sx) := (r4.out.keep.blk ha.out hPa.out).cell 0; have kb4 : w4.cell? ⟨bb, 0, none⟩ = some (.string sy) := (r4.out.keep.blk hb.out hPb.out).cell 0; (try (refine Run.cellK r4.out (b := w.heap.size) (T := 68) (v := .pointer none) ?_ ?_; (focus (((try simp only [World.size_alloc, World.size_drew, World.size_setCell]); (repeat first | exact updX_same | rw [updX_ne (by (try simp only [World.size_alloc, World.size_drew, World.size_setCell]); omega)])); done)); intro a6 a6z a6l)); (try (refine Run.cellK r4.out (b := (w.heap.size + 1)) (T := 68) (v := .pointer none) ?_ ?_; (focus (((try simp only [World.size_alloc, World.size_drew, World.size_setCell]); (repeat first | exact updX_same | rw [updX_ne (by (try simp only [World.size_alloc, World.size_drew, World.size_setCell]); omega)])); done)); intro a7 a7z a7l))) | (go_at_call 42; (with_reducible show Calls _ _ #[Value.string sy] _ _); refine (hdy.out _ ?_ ?_).mono ?_; (first | exact (r4.out).ok | exact ((r4.out.box _ _)).ok | exact (((r4.out.box _ _).box _ _)).ok); (first | exact (r4.out).er her | exact ((r4.out.box _ _)).er her | exact (((r4.out.box _ _).box _ _)).er her); rintro e w5 ⟨B5, rfl, hn5⟩; have r5 := Hd.mk (p := Run _ _ _ _ _) (by first | exact (r4.out).new_int hn5 | exact ((r4.out.box _ _)).new_int hn5 | exact (((r4.out.box _ _).box _ _)).new_int hn5); have g5 := hn5.ge; have s5 := hn5.bel.size; (try simp only [World.size_alloc, World.size_drew] at g5 s5); (try simp only [World.size_alloc, World.size_drew, World.size_setCell] at r5); have l5 := r5.out.ilt upd_same; clear hn5; have ka5 : w5.cell? ⟨ba, 0, none⟩ = some (.string sx) := (r5.out.keep.blk ha.out hPa.out).cell 0; have kb5 : w5.cell? ⟨bb, 0, none⟩ = some (.string sy) := (r5.out.keep.blk hb.out hPb.out).cell 0; (try (refine Run.cellK r5.out (b := w.heap.size) (T := 68) (v := .pointer none) ?_ ?_; (focus (((try simp only [World.size_alloc, World.size_drew, World.size_setCell]); (repeat first | exact updX_same | rw [updX_ne (by (try simp only [World.size_alloc, World.size_drew, World.size_setCell]); omega)])); done)); intro b6 b6z b6l)); (try (refine Run.cellK r5.out (b := (w.heap.size + 1)) (T := 68) (v := .pointer none) ?_ ?_; (focus (((try simp only [World.size_alloc, World.size_drew, World.size_setCell]); (repeat first | exact updX_same | rw [updX_ne (by (try simp only [World.size_alloc, World.size_drew, World.size_setCell]); omega)])); done)); intro b7 b7z b7l)); (try (refine Run.cellK r5.out (b := w4.heap.size) (T := 68) (v := .pointer none) ?_ ?_; (focus (((try simp only [World.size_alloc, World.size_drew, World.size_setCell]); (repeat first | exact updX_same | rw [updX_ne (by (try simp only [World.size_alloc, World.size_drew, World.size_setCell]); omega)])); done)); intro c6 c6z c6l)); (try (refine Run.cellK r5.out (b := (w4.heap.size + 1)) (T := 68) (v := .pointer none) ?_ ?_; (focus (((try simp only [World.size_alloc, World.size_drew, World.size_setCell]); (repeat first | exact updX_same | rw [updX_ne (by (try simp only [World.size_alloc, World.size_drew, World.size_setCell]); omega)])); done)); intro c7 c7z c7l))))
      all_goals
        go_wp2_with fail
        go_meet
        refine ⟨_, _, B4, B5, rfl, rfl, ?_⟩
        apply RunEx
        focus
          (repeat first | exact r5.out | apply Run.box | apply Run.set1 (v := .pointer none) (T := 68) | exact updX_same | rw [updX_ne (by (try simp only [World.size_alloc, World.size_drew, World.size_setCell]); omega)])
          done
        refine ⟨⟨?_⟩, ⟨?_⟩, ⟨?_⟩, ⟨?_⟩, ⟨?_⟩, ⟨?_⟩, ?_⟩
        focus
          ((try simp only [World.size_alloc, World.size_drew, World.size_setCell]); (repeat first | exact updX_same | rw [updX_ne (by (try simp only [World.size_alloc, World.size_drew, World.size_setCell]); omega)]))
          done
        focus
          ((try simp only [World.size_alloc, World.size_drew, World.size_setCell]); (repeat first | exact updX_same | rw [updX_ne (by (try simp only [World.size_alloc, World.size_drew, World.size_setCell]); omega)]))
          done
        focus
          rw [upd_ne (by omega)]
          exact upd_same
        focus
          exact upd_same
        focus
          ((try simp only [World.size_alloc, World.size_drew, World.size_setCell]); (repeat first | exact updX_same | rw [updX_ne (by (try simp only [World.size_alloc, World.size_drew, World.size_setCell]); omega)]))
          done
        focus
          ((try simp only [World.size_alloc, World.size_drew, World.size_setCell]); (repeat first | exact updX_same | rw [updX_ne (by (try simp only [World.size_alloc, World.size_drew, World.size_setCell]); omega)]))
          done
        (try simp only [World.size_alloc, World.size_drew, World.size_setCell])
        omega
  case rest =>
    have hbuk := Hd.mk hd.2.2.2.2.2.2.2.2
    obtain ⟨b6, b7, BA, BB, rfl, rfl, X, S, r6, h6, h7, hSA, hSB, hXu, hXk, hAB, h67, hb6, hb7, hBA, hBB⟩ := hcut
    have l6 := r6.out.lt h6.out
    have l7 := r6.out.lt h7.out
    have lA := r6.out.ilt hSA.out
    have lB := r6.out.ilt hSB.out
    have gg6 := r6.out.ge
    obtain ⟨d6, d6z, d6l⟩ := r6.out.cell (b := b6) h6.out
    go_upto_region 2 with (go_at_call 51; refine (hpx.out _ BA _ _ r6.out.ints hSA.out).mono ?_; rintro e w7 ⟨rfl, hk7, hI7⟩; have r7 := Hd.mk (r6.out.op hk7 hI7); have s7 := hk7.size; clear hk7 hI7)
    clear d6 d6z d6l
    go_upto_region 3 with fail
    have r8 := Hd.mk (r7.out.box #[.pointer none] 68)
    have s8 : w7.heap.size < (w7.alloc (.cells #[.pointer none] 68)).heap.size := by rw [World.size_alloc]; omega
    have h68 : Hd (updX X w7.heap.size (68, [.pointer none]) b6 = some (68, [ptr BA])) := ⟨by rw [updX_ne (by omega)]; exact h6.out⟩
    have h78 : Hd (updX X w7.heap.size (68, [.pointer none]) b7 = some (68, [ptr BB])) := ⟨by rw [updX_ne (by omega)]; exact h7.out⟩
    have h98 : Hd (updX X w7.heap.size (68, [.pointer none]) w7.heap.size = some (68, [.pointer none])) := ⟨updX_same⟩
    have hu8 : Hd (updX X w7.heap.size (68, [.pointer none]) bu = some (9, [.string (ByteArray.mk #[])])) := ⟨by rw [updX_ne (by omega)]; exact hXu.out⟩
    have hk8 : Hd (updX X w7.heap.size (68, [.pointer none]) bk = some (4, [.bool false])) := ⟨by rw [updX_ne (by omega)]; exact hXk.out⟩
    clear r6 r7 h6 h7 hXu hXk
    generalize updX X w7.heap.size (68, [.pointer none]) = X8 at *
    generalize w7.alloc (.cells #[.pointer none] 68) = w8 at *
    have hb96 : b6 ≠ w7.heap.size := by omega
    have hb97 : b7 ≠ w7.heap.size := by omega
    have hb9u : bu ≠ w7.heap.size := by omega
    have hb9k : bk ≠ w7.heap.size := by omega
    generalize w7.heap.size = b9 at *
    obtain ⟨e6, e6z, e6l⟩ := r8.out.cell h68.out
    obtain ⟨e7, e7z, e7l⟩ := r8.out.cell h78.out
    have eo := (r8.out.keep.blk ho.out hPo.out).cell 0
    have em := (r8.out.keep.blk hm.out hPm.out).cell 0
    simp only [List.getElem?_cons_zero] at eo em
    go_upto_block 0 with fail
    have hopc := Hd.mk (hop.out _ BA BB S w8 r8.out.ints hSA.out hSB.out hAB)
    go_cut [] (fun wx => ∃ X2 S2 B9, Hd (Run (But2 w bu bk) w wx X2 S2) ∧ Hd (X2 b9 = some (68, [ptr B9])) ∧ Hd (X2 b6 = some (68, [ptr BA])) ∧ Hd (X2 b7 = some (68, [ptr BB])) ∧ Hd (X2 bu = some (9, [.string (ByteArray.mk #[])])) ∧ Hd (X2 bk = some (4, [.bool false])) ∧ Hd (S2 B9 = some z) ∧ Hd (S2 BB = some y) ∧ Hd (S2 BA = some (if (false && decide ((k : Int) < 8)) = true then z else x)))
    case first =>
      have hk' : k = 0 ∨ k = 1 ∨ k = 2 ∨ k = 3 ∨ k = 4 := by omega
      rcases hk' with rfl | rfl | rfl | rfl | rfl
      · as_aux_lemma =>
          have hopd : Hd (Calls Tryz.prog 97 #[.agg #[ptr BA], .agg #[ptr BB]] w8 _) := hopc
          clear hopc
          go_wp2_with (go_at_call 97; refine hopd.out.mono ?_; rintro e w9 ⟨B9, S9, rfl, hk9, hI9, hz9, hy9, hx9⟩; have r9 := Hd.mk (r8.out.op hk9 hI9); clear hk9 hI9; replace hz9 := Hd.mk hz9; replace hy9 := Hd.mk hy9; replace hx9 := Hd.mk hx9; obtain ⟨f8, f8z, f8l⟩ := r9.out.cell h98.out)
          go_meet
          exact ⟨_, _, B9, ⟨r9.out.set1 h98.out⟩, ⟨updX_same⟩, ⟨(updX_ne hb96).trans h68.out⟩, ⟨(updX_ne hb97).trans h78.out⟩, ⟨(updX_ne hb9u).trans hu8.out⟩, ⟨(updX_ne hb9k).trans hk8.out⟩, hz9, hy9, hx9⟩
      · as_aux_lemma =>
          have hopd : Hd (Calls Tryz.prog 99 #[.agg #[ptr BA], .agg #[ptr BB]] w8 _) := hopc
          clear hopc
          go_wp2_with (go_at_call 99; refine hopd.out.mono ?_; rintro e w9 ⟨B9, S9, rfl, hk9, hI9, hz9, hy9, hx9⟩; have r9 := Hd.mk (r8.out.op hk9 hI9); clear hk9 hI9; replace hz9 := Hd.mk hz9; replace hy9 := Hd.mk hy9; replace hx9 := Hd.mk hx9; obtain ⟨f8, f8z, f8l⟩ := r9.out.cell h98.out)
          go_meet
          exact ⟨_, _, B9, ⟨r9.out.set1 h98.out⟩, ⟨updX_same⟩, ⟨(updX_ne hb96).trans h68.out⟩, ⟨(updX_ne hb97).trans h78.out⟩, ⟨(updX_ne hb9u).trans hu8.out⟩, ⟨(updX_ne hb9k).trans hk8.out⟩, hz9, hy9, hx9⟩
      · as_aux_lemma =>
          have hopd : Hd (Calls Tryz.prog 101 #[.agg #[ptr BA], .agg #[ptr BB]] w8 _) := hopc
          clear hopc
          go_wp2_with (go_at_call 101; refine hopd.out.mono ?_; rintro e w9 ⟨B9, S9, rfl, hk9, hI9, hz9, hy9, hx9⟩; have r9 := Hd.mk (r8.out.op hk9 hI9); clear hk9 hI9; replace hz9 := Hd.mk hz9; replace hy9 := Hd.mk hy9; replace hx9 := Hd.mk hx9; obtain ⟨f8, f8z, f8l⟩ := r9.out.cell h98.out)
          go_meet
          exact ⟨_, _, B9, ⟨r9.out.set1 h98.out⟩, ⟨updX_same⟩, ⟨(updX_ne hb96).trans h68.out⟩, ⟨(updX_ne hb97).trans h78.out⟩, ⟨(updX_ne hb9u).trans hu8.out⟩, ⟨(updX_ne hb9k).trans hk8.out⟩, hz9, hy9, hx9⟩
      · as_aux_lemma =>
          have hopd : Hd (Calls Tryz.prog 103 #[.agg #[ptr BA], .agg #[ptr BB]] w8 _) := hopc
          clear hopc
          go_wp2_with (go_at_call 103; refine hopd.out.mono ?_; rintro e w9 ⟨B9, S9, rfl, hk9, hI9, hz9, hy9, hx9⟩; have r9 := Hd.mk (r8.out.op hk9 hI9); clear hk9 hI9; replace hz9 := Hd.mk hz9; replace hy9 := Hd.mk hy9; replace hx9 := Hd.mk hx9; obtain ⟨f8, f8z, f8l⟩ := r9.out.cell h98.out)
          go_meet
          exact ⟨_, _, B9, ⟨r9.out.set1 h98.out⟩, ⟨updX_same⟩, ⟨(updX_ne hb96).trans h68.out⟩, ⟨(updX_ne hb97).trans h78.out⟩, ⟨(updX_ne hb9u).trans hu8.out⟩, ⟨(updX_ne hb9k).trans hk8.out⟩, hz9, hy9, hx9⟩
      · as_aux_lemma =>
          have hopd : Hd (Calls Tryz.prog 105 #[.agg #[ptr BA], .agg #[ptr BB]] w8 _) := hopc
          clear hopc
          go_wp2_with (go_at_call 105; refine hopd.out.mono ?_; rintro e w9 ⟨B9, S9, rfl, hk9, hI9, hz9, hy9, hx9⟩; have r9 := Hd.mk (r8.out.op hk9 hI9); clear hk9 hI9; replace hz9 := Hd.mk hz9; replace hy9 := Hd.mk hy9; replace hx9 := Hd.mk hx9; obtain ⟨f8, f8z, f8l⟩ := r9.out.cell h98.out)
          go_meet
          exact ⟨_, _, B9, ⟨r9.out.set1 h98.out⟩, ⟨updX_same⟩, ⟨(updX_ne hb96).trans h68.out⟩, ⟨(updX_ne hb97).trans h78.out⟩, ⟨(updX_ne hb9u).trans hu8.out⟩, ⟨(updX_ne hb9k).trans hk8.out⟩, hz9, hy9, hx9⟩
    case rest =>
    obtain ⟨X2, S2, B9, r9, h9, h6', h7', hu', hk', hz9, hy9, hx9⟩ := hcut
    clear r8 h68 h78 h98 hu8 hk8 e6 e6z e6l e7 e7z e7l eo em hopc hSA hSB hop s8
    generalize wc = w9 at *
    have hbb := Hd.mk fun w1 X1 S1 (h : Run (But2 w bu bk) w w1 X1 S1) => (((h.keep.blk hb.out hPb.out).cell 0).trans rfl : w1.cell? ⟨bb, 0, none⟩ = some (.string sy))
    have hmm := Hd.mk fun w1 X1 S1 (h : Run (But2 w bu bk) w w1 X1 S1) => (((h.keep.blk hm.out hPm.out).cell 0).trans rfl : w1.cell? ⟨bm, 0, none⟩ = some (.bool false))
    have hoo := Hd.mk fun w1 X1 S1 (h : Run (But2 w bu bk) w w1 X1 S1) => (((h.keep.blk ho.out hPo.out).cell 0).trans rfl : w1.cell? ⟨bo, 0, none⟩ = some (.int .i64 k))
    obtain ⟨f9, f9z, f9l⟩ := r9.out.cell h9.out
    go_upto_region 41 with (go_at_call 51; refine (hpz.out _ B9 _ _ r9.out.ints hz9.out).mono ?_; rintro e w11 ⟨rfl, hk11, hI11⟩; have r11 := Hd.mk (r9.out.op hk11 hI11); clear hk11 hI11; obtain ⟨gu, guz, gul⟩ := r11.out.cell hu'.out)
    have r12 := Hd.mk (r11.out.set1 (v' := .string sz) hu'.out)
    have hbuk' : b6 ≠ bu := by omega
    have hX6 : Hd (updX X2 bu (9, [.string sz]) b6 = some (68, [ptr BA])) := ⟨(updX_ne hbuk').trans h6'.out⟩
    have hX7 : Hd (updX X2 bu (9, [.string sz]) b7 = some (68, [ptr BB])) := ⟨(updX_ne (by omega)).trans h7'.out⟩
    have hXK : Hd (updX X2 bu (9, [.string sz]) bk = some (4, [.bool false])) := ⟨(updX_ne (fun e => hbuk.out e.symm)).trans hk'.out⟩
    have hXU : Hd (updX X2 bu (9, [.string sz]) bu = some (9, [.string sz])) := ⟨updX_same⟩
    generalize w11.setCell ⟨bu, 0, none⟩ (.string sz) = w12 at *
    generalize updX X2 bu (9, [.string sz]) = X3 at *
    clear r9 r11 h9 h6' h7' hu' hk' hz9 f9 f9z f9l gu guz gul
    obtain ⟨e7, e7z, e7l⟩ := r12.out.cell hX7.out
    obtain ⟨e6, e6z, e6l⟩ := r12.out.cell hX6.out
    have eb := hbb.out _ _ _ r12.out
    have em := hmm.out _ _ _ r12.out
    have eo := hoo.out _ _ _ r12.out
    have lA2 := r12.out.ilt hx9.out
    generalize hkb : decide ((k : Int) < 8) = kb at *
    replace hk10 := Hd.mk hk10
    simp only [Bool.false_and, Bool.false_eq_true, if_false] at hx9
    replace hkb := Hd.mk hkb
    go_region_law (first
      | (go_simp; go_at_call 51; (with_reducible show Calls _ _ #[Value.agg #[ptr BB]] _ _); refine (hpy.out _ BB _ _ r12.out.drew.ints hy9.out).mono ?_; rintro e w13 ⟨rfl, hk13, hI13⟩; have r13 := Hd.mk (r12.out.drew.op hk13 hI13); have s13 := hk13.size; clear hk13 hI13; have eb13 := hbb.out _ _ _ r13.out; have em13 := hmm.out _ _ _ r13.out; have eo13 := hoo.out _ _ _ r13.out; obtain ⟨e613, e613z, e613l⟩ := r13.out.cell hX6.out)
      | (go_simp; go_at_call 42; refine (hdy.out _ r13.out.ok (r13.out.er her)).mono ?_; rintro e w14 ⟨B14, rfl, hn14⟩; have r14 := Hd.mk (r13.out.new_int hn14); have g14 := hn14.ge; (try simp only [World.size_drew] at s13); clear hn14; have em14 := hmm.out _ _ _ r14.out; have eo14 := hoo.out _ _ _ r14.out; obtain ⟨e614, e614z, e614l⟩ := r14.out.cell hX6.out)
      | (go_simp; go_at_call 51; (with_reducible show Calls _ _ #[Value.agg #[ptr B14]] _ _); refine (hpy.out _ B14 _ _ r14.out.ints upd_same).mono ?_; rintro e w15 ⟨rfl, hk15, hI15⟩; have r15 := Hd.mk (r14.out.op hk15 hI15); clear hk15 hI15; have em15 := hmm.out _ _ _ r15.out; have eo15 := hoo.out _ _ _ r15.out; obtain ⟨e615, e615z, e615l⟩ := r15.out.cell hX6.out)
      | (go_simp; go_at_call 51; (with_reducible show Calls _ _ #[Value.agg #[ptr BA]] _ _); refine (hpx.out _ BA _ _ r15.out.ints (by rw [upd_ne (by omega)]; exact hx9.out)).mono ?_; rintro e w16 ⟨rfl, hk16, hI16⟩; have r16 := Hd.mk (r15.out.op hk16 hI16); clear hk16 hI16; have em16 := hmm.out _ _ _ r16.out; have eo16 := hoo.out _ _ _ r16.out; obtain ⟨k16, k16z, k16l⟩ := r16.out.cell hXK.out))
    all_goals
      have r17 := Hd.mk (r16.out.set1 (b := bk) (v' := .bool true) hXK.out)
      have em17 := hmm.out _ _ _ r17.out
      have eo17 := hoo.out _ _ _ r17.out
      have hS17 := Hd.mk (r17.out.ints)
      generalize w16.setCell _ _ = w17 at *
      have hkk := Hd.mk r17.out.keep
      have hU := Hd.mk (r17.out.bx bu _ _ (by rw [updX_ne hbuk.out]; exact hXU.out))
      have hK := Hd.mk (r17.out.bx bk _ _ updX_same)
      clear r12 r13 r14 r15 r16 r17
      go_wp2_with fail
      go_quiet (fail)
      go_wp2
      go_end0
      exact ⟨rfl, ⟨hkk.out.os, hkk.out.tape, hkk.out.output, hkk.out.size, fun k h1 h2 h3 => hkk.out.block k ⟨h1, h2, h3⟩ h1⟩, hU.out, hK.out⟩
theorem DecOpKN_ok (k : Nat) (x y z : Int) (hk10 : k < 5) (hx : inR x = true) (hy : inR y = true) (hz : inR z = true) (hop : OpC k false x y z) (w : World) (hok : Ok w) (her : Er w) :
    Calls Tryz.prog 27 #[.int .i64 k, .string (zT x), .string (zT y), .bool false] w fun e w' => e = .returned (.tuple #[.string (zT z), .bool true, .bool true]) ∧ Below w.heap.size w w' :=
  DecOp_ok k _ _ _ false true w hok her fun ba bb bo bm bu bk w1 h1 h2 ha hb ho hm hu hk hd hb1 hk1 => (DecOpN_ok k x y z hk10 hx hy hz hop ba bb bo bm bu bk w1 h1 h2 ha hb ho hm hu hk hd hb1 hk1).mono fun _ _ ⟨q1, q2, q3, q4⟩ => ⟨q2, q1, q3, q4⟩
end Go.Proofs.YtdbjdpooggaonaaGreatDoor
