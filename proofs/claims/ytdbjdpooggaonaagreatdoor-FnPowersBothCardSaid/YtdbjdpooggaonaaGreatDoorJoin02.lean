/- The thin package: sums, differences, products of whole numbers: the closure. Conditions: those that each theorem states. -/
import Derived.Test.YtdbjdpooggaonaaGreatDoorJoin01
set_option linter.all false

namespace Go.Proofs.YtdbjdpooggaonaaGreatDoor
open Go.RowKit
set_option maxRecDepth 100000
set_option maxHeartbeats 8000000 in
theorem idoK_0 (x y z : Int) (hx : x.natAbs < 2 ^ 256) (hy : y.natAbs < 2 ^ 256) (hz : z.natAbs < 2 ^ 256) (hzz : x + y = z) : idoCl 0 (zT x) (zT y) fun e w' bu => e = .returned (.tuple #[]) ∧ Blk w' bu 9 [.string (zT z)] := by
  intro bk ba bb bu w hok her hk ha hb hl hd hl1
  have r0 := Hd.mk (Run.start1 hok hl hl1)
  have hdx := Hd.mk fun w1 h1 h2 => integer_ok x w1 h1 h2 hx
  have hdy := Hd.mk fun w1 h1 h2 => integer_ok y w1 h1 h2 hy
  have hop := Hd.mk fun (Q : Nat → Prop) B C S1 w1 (h : Ints Q w1 S1) (h1 : S1 B = some x) (h2 : S1 C = some y) => cAdd_ok Q B C x y z S1 w1 h h1 h2 (by have := wl256 hx; omega) (by have := wl256 hy; omega) hz hzz
  have hst := Hd.mk fun (Q : Nat → Prop) B S1 w1 (h : Ints Q w1 S1) (h1 : S1 B = some z) => cIntString_any Q B z S1 w1 h h1 (by have := wl256 hz; omega)
  have ck := hk.cell 0
  have ca := ha.cell 0
  have cb := hb.cell 0
  simp only [List.getElem?_cons_zero] at ck ca cb
  have hPk := Hd.mk (p := bk < w.heap.size ∧ bk ≠ bu) ⟨hk.lt, hd.1⟩
  have hPa := Hd.mk (p := ba < w.heap.size ∧ ba ≠ bu) ⟨ha.lt, hd.2.1⟩
  have hPb := Hd.mk (p := bb < w.heap.size ∧ bb ≠ bu) ⟨hb.lt, hd.2.2⟩
  have lu := hl.lt
  have la := ha.lt
  have lb := hb.lt
  have lk := hk.lt
  replace hx := Hd.mk hx
  replace hy := Hd.mk hy
  replace hz := Hd.mk hz
  replace hzz := Hd.mk hzz
  generalize zT x = sx at *
  generalize zT y = sy at *
  generalize zT z = sz at *
  replace hk := Hd.mk hk
  replace ha := Hd.mk ha
  replace hb := Hd.mk hb
  replace hl := Hd.mk hl
  go_enter Tryz.func58, Tryz.ntmps58
  go_upto_region 0 with fail
  go_cut [4, 5] (fun t6 t7 wx => ∃ b6 b7 BA BB, t6 = ptr b6 ∧ t7 = ptr b7 ∧ ∃ X S, Hd (Run (fun k => k < w.heap.size ∧ k ≠ bu) w wx X S) ∧ Hd (X b6 = some (65, [ptr BA])) ∧ Hd (X b7 = some (65, [ptr BB])) ∧ Hd (S BA = some x) ∧ Hd (S BB = some y) ∧ Hd (X bu = some (9, [.string (ByteArray.mk #[])])) ∧ BA ≠ BB ∧ b6 ≠ b7 ∧ w.heap.size ≤ b6 ∧ w.heap.size ≤ b7)
  case first =>
    go_region_held3 (fun wx => wx.cell? ⟨ba, 0, none⟩ = some (.string sx) ∧ wx.cell? ⟨bb, 0, none⟩ = some (.string sy)) ((first | exact ⟨ca, cb⟩ | exact ⟨ka4, kb4⟩ | exact ⟨ka5, kb5⟩ | (constructor <;> (repeat first | assumption | rw [World.cell?_drew] | (rw [World.cell?_alloc_lt _ _ _ (by (try simp only [World.size_alloc, World.size_drew, World.size_setCell]); show _ < _; omega)]) | rw [World.cell?_setCell_far _ _ _ _ (by (try simp only [World.size_alloc, World.size_drew, World.size_setCell]); show _ ≠ _; omega)])))) (first | (go_at_call 35; (with_reducible show Calls _ _ #[Value.string sx] _ _); refine (hdx.out _ ?_ ?_).mono ?_; (first | exact (r0.out.drew).ok | exact ((r0.out.box _ _).drew).ok | exact (((r0.out.box _ _).box _ _).drew).ok); (first | exact (r0.out.drew).er her | exact ((r0.out.box _ _).drew).er her | exact (((r0.out.box _ _).box _ _).drew).er her); rintro e w4 ⟨B4, rfl, hn4⟩; have r4 := Hd.mk (p := Run _ _ _ _ _) (by first | exact (r0.out.drew).new_int hn4 | exact ((r0.out.box _ _).drew).new_int hn4 | exact (((r0.out.box _ _).box _ _).drew).new_int hn4); have g4 := hn4.ge; have s4 := hn4.bel.size; (try simp only [World.size_alloc, World.size_drew] at g4 s4); (try simp only [World.size_alloc, World.size_drew, World.size_setCell] at r4); have l4 := r4.out.ilt upd_same; clear hn4; have ka4 : w4.cell? ⟨ba, 0, none⟩ = some (.string sx) := (r4.out.keep.blk ha.out hPa.out).cell 0; have kb4 : w4.cell? ⟨bb, 0, none⟩ = some (.string sy) := (r4.out.keep.blk hb.out hPb.out).cell 0; (try (refine Run.cellK r4.out (b := w.heap.size) (T := 65) (v := .pointer none) ?_ ?_; (focus (((try simp only [World.size_alloc, World.size_drew, World.size_setCell]); (repeat first | exact updX_same | rw [updX_ne (by (try simp only [World.size_alloc, World.size_drew, World.size_setCell]); omega)])); done)); intro a6 a6z a6l)); (try (refine Run.cellK r4.out (b := (w.heap.size + 1)) (T := 65) (v := .pointer none) ?_ ?_; (focus (((try simp only [World.size_alloc, World.size_drew, World.size_setCell]); (repeat first | exact updX_same | rw [updX_ne (by (try simp only [World.size_alloc, World.size_drew, World.size_setCell]); omega)])); done)); intro a7 a7z a7l))) | (go_at_call 35; (with_reducible show Calls _ _ #[Value.string sy] _ _); refine (hdy.out _ ?_ ?_).mono ?_; (first | exact (r4.out).ok | exact ((r4.out.box _ _)).ok | exact (((r4.out.box _ _).box _ _)).ok); (first | exact (r4.out).er her | exact ((r4.out.box _ _)).er her | exact (((r4.out.box _ _).box _ _)).er her); rintro e w5 ⟨B5, rfl, hn5⟩; have r5 := Hd.mk (p := Run _ _ _ _ _) (by first | exact (r4.out).new_int hn5 | exact ((r4.out.box _ _)).new_int hn5 | exact (((r4.out.box _ _).box _ _)).new_int hn5); have g5 := hn5.ge; have s5 := hn5.bel.size; (try simp only [World.size_alloc, World.size_drew] at g5 s5); (try simp only [World.size_alloc, World.size_drew, World.size_setCell] at r5); have l5 := r5.out.ilt upd_same; clear hn5; have ka5 : w5.cell? ⟨ba, 0, none⟩ = some (.string sx) := (r5.out.keep.blk ha.out hPa.out).cell 0; have kb5 : w5.cell? ⟨bb, 0, none⟩ = some (.string sy) := (r5.out.keep.blk hb.out hPb.out).cell 0; (try (refine Run.cellK r5.out (b := w.heap.size) (T := 65) (v := .pointer none) ?_ ?_; (focus (((try simp only [World.size_alloc, World.size_drew, World.size_setCell]); (repeat first | exact updX_same | rw [updX_ne (by (try simp only [World.size_alloc, World.size_drew, World.size_setCell]); omega)])); done)); intro b6 b6z b6l)); (try (refine Run.cellK r5.out (b := (w.heap.size + 1)) (T := 65) (v := .pointer none) ?_ ?_; (focus (((try simp only [World.size_alloc, World.size_drew, World.size_setCell]); (repeat first | exact updX_same | rw [updX_ne (by (try simp only [World.size_alloc, World.size_drew, World.size_setCell]); omega)])); done)); intro b7 b7z b7l)); (try (refine Run.cellK r5.out (b := w4.heap.size) (T := 65) (v := .pointer none) ?_ ?_; (focus (((try simp only [World.size_alloc, World.size_drew, World.size_setCell]); (repeat first | exact updX_same | rw [updX_ne (by (try simp only [World.size_alloc, World.size_drew, World.size_setCell]); omega)])); done)); intro c6 c6z c6l)); (try (refine Run.cellK r5.out (b := (w4.heap.size + 1)) (T := 65) (v := .pointer none) ?_ ?_; (focus (((try simp only [World.size_alloc, World.size_drew, World.size_setCell]); (repeat first | exact updX_same | rw [updX_ne (by (try simp only [World.size_alloc, World.size_drew, World.size_setCell]); omega)])); done)); intro c7 c7z c7l))))
    all_goals
      go_wp2_with fail
      go_meet
      refine ⟨_, _, B4, B5, rfl, rfl, ?_⟩
      apply RunEx
      focus
        (repeat first | exact r5.out | apply Run.box | apply Run.set1 (v := .pointer none) (T := 65) | exact updX_same | rw [updX_ne (by (try simp only [World.size_alloc, World.size_drew, World.size_setCell]); omega)])
        done
      refine ⟨⟨?_⟩, ⟨?_⟩, ⟨?_⟩, ⟨?_⟩, ⟨?_⟩, ?_⟩
      focus
        ((try simp only [World.size_alloc, World.size_drew, World.size_setCell]); (repeat first | exact updX_same | rw [updX_ne (by (try simp only [World.size_alloc, World.size_drew, World.size_setCell]); omega)]))
        done
      focus
        ((try simp only [World.size_alloc, World.size_drew, World.size_setCell]); (repeat first | exact updX_same | rw [updX_ne (by (try simp only [World.size_alloc, World.size_drew, World.size_setCell]); omega)]))
        done
      focus
        rw [upd_ne (by omega)]
        exact upd_same
      focus
        exact upd_same
      focus
        ((try simp only [World.size_alloc, World.size_drew, World.size_setCell]); (repeat first | exact updX_same | rw [updX_ne (by (try simp only [World.size_alloc, World.size_drew, World.size_setCell]); omega)]))
        done
      (try simp only [World.size_alloc, World.size_drew, World.size_setCell])
      omega
  case rest =>
    obtain ⟨b6, b7, BA, BB, rfl, rfl, X, S, r6, h6, h7, hSA, hSB, hXl, hAB, h67, hb6, hb7⟩ := hcut
    have l6 := r6.out.lt h6.out
    have l7 := r6.out.lt h7.out
    have e6 : wc.cell? ⟨b6, 0, none⟩ = some (ptr BA) := (r6.out.bx _ _ _ h6.out).cell 0
    have e7 : wc.cell? ⟨b7, 0, none⟩ = some (ptr BB) := (r6.out.bx _ _ _ h7.out).cell 0
    have jk : wc.cell? ⟨bk, 0, none⟩ = some (.int .i64 0) := (r6.out.keep.blk hk.out hPk.out).cell 0
    have lk2 : bk < wc.heap.size := Nat.lt_of_lt_of_le hPk.out.1 r6.out.ge
    go_wp2_with (first
      | (go_at_call 59; refine (hop.out _ BA BB _ _ r6.out.ints hSA.out hSB.out).mono ?_; rintro e w7 ⟨B7, rfl, g7, hk7, hI7⟩; have r7 := Hd.mk (r6.out.op hk7 hI7); clear hk7 hI7)
      | (go_at_call 60; refine (hst.out _ B7 _ _ r7.out.ints upd_same).mono ?_; rintro e w8 ⟨rfl, hk8, hI8⟩; have r8 := Hd.mk (r7.out.op hk8 hI8); clear hk8 hI8; obtain ⟨u8, u8z, u8l⟩ := r8.out.cell (b := bu) hXl.out))
    have r9 := r8.out.set1 (b := bu) (v' := .string sz) hXl.out
    have hkk := Hd.mk r9.keep
    have hub := Hd.mk (r9.bx bu _ _ updX_same)
    go_end0
    exact ⟨hkk.out, rfl, hub.out⟩
set_option maxHeartbeats 8000000 in
theorem idoK_1 (x y z : Int) (hx : x.natAbs < 2 ^ 256) (hy : y.natAbs < 2 ^ 256) (hz : z.natAbs < 2 ^ 256) (hzz : x - y = z) : idoCl 1 (zT x) (zT y) fun e w' bu => e = .returned (.tuple #[]) ∧ Blk w' bu 9 [.string (zT z)] := by
  intro bk ba bb bu w hok her hk ha hb hl hd hl1
  have r0 := Hd.mk (Run.start1 hok hl hl1)
  have hdx := Hd.mk fun w1 h1 h2 => integer_ok x w1 h1 h2 hx
  have hdy := Hd.mk fun w1 h1 h2 => integer_ok y w1 h1 h2 hy
  have hop := Hd.mk fun (Q : Nat → Prop) B C S1 w1 (h : Ints Q w1 S1) (h1 : S1 B = some x) (h2 : S1 C = some y) => cSub_ok Q B C x y z S1 w1 h h1 h2 (by have := wl256 hx; omega) (by have := wl256 hy; omega) hz hzz
  have hst := Hd.mk fun (Q : Nat → Prop) B S1 w1 (h : Ints Q w1 S1) (h1 : S1 B = some z) => cIntString_any Q B z S1 w1 h h1 (by have := wl256 hz; omega)
  have ck := hk.cell 0
  have ca := ha.cell 0
  have cb := hb.cell 0
  simp only [List.getElem?_cons_zero] at ck ca cb
  have hPk := Hd.mk (p := bk < w.heap.size ∧ bk ≠ bu) ⟨hk.lt, hd.1⟩
  have hPa := Hd.mk (p := ba < w.heap.size ∧ ba ≠ bu) ⟨ha.lt, hd.2.1⟩
  have hPb := Hd.mk (p := bb < w.heap.size ∧ bb ≠ bu) ⟨hb.lt, hd.2.2⟩
  have lu := hl.lt
  have la := ha.lt
  have lb := hb.lt
  have lk := hk.lt
  replace hx := Hd.mk hx
  replace hy := Hd.mk hy
  replace hz := Hd.mk hz
  replace hzz := Hd.mk hzz
  generalize zT x = sx at *
  generalize zT y = sy at *
  generalize zT z = sz at *
  replace hk := Hd.mk hk
  replace ha := Hd.mk ha
  replace hb := Hd.mk hb
  replace hl := Hd.mk hl
  go_enter Tryz.func58, Tryz.ntmps58
  go_upto_region 0 with fail
  go_cut [4, 5] (fun t6 t7 wx => ∃ b6 b7 BA BB, t6 = ptr b6 ∧ t7 = ptr b7 ∧ ∃ X S, Hd (Run (fun k => k < w.heap.size ∧ k ≠ bu) w wx X S) ∧ Hd (X b6 = some (65, [ptr BA])) ∧ Hd (X b7 = some (65, [ptr BB])) ∧ Hd (S BA = some x) ∧ Hd (S BB = some y) ∧ Hd (X bu = some (9, [.string (ByteArray.mk #[])])) ∧ BA ≠ BB ∧ b6 ≠ b7 ∧ w.heap.size ≤ b6 ∧ w.heap.size ≤ b7)
  case first =>
    go_region_held3 (fun wx => wx.cell? ⟨ba, 0, none⟩ = some (.string sx) ∧ wx.cell? ⟨bb, 0, none⟩ = some (.string sy)) ((first | exact ⟨ca, cb⟩ | exact ⟨ka4, kb4⟩ | exact ⟨ka5, kb5⟩ | (constructor <;> (repeat first | assumption | rw [World.cell?_drew] | (rw [World.cell?_alloc_lt _ _ _ (by (try simp only [World.size_alloc, World.size_drew, World.size_setCell]); show _ < _; omega)]) | rw [World.cell?_setCell_far _ _ _ _ (by (try simp only [World.size_alloc, World.size_drew, World.size_setCell]); show _ ≠ _; omega)])))) (first | (go_at_call 35; (with_reducible show Calls _ _ #[Value.string sx] _ _); refine (hdx.out _ ?_ ?_).mono ?_; (first | exact (r0.out.drew).ok | exact ((r0.out.box _ _).drew).ok | exact (((r0.out.box _ _).box _ _).drew).ok); (first | exact (r0.out.drew).er her | exact ((r0.out.box _ _).drew).er her | exact (((r0.out.box _ _).box _ _).drew).er her); rintro e w4 ⟨B4, rfl, hn4⟩; have r4 := Hd.mk (p := Run _ _ _ _ _) (by first | exact (r0.out.drew).new_int hn4 | exact ((r0.out.box _ _).drew).new_int hn4 | exact (((r0.out.box _ _).box _ _).drew).new_int hn4); have g4 := hn4.ge; have s4 := hn4.bel.size; (try simp only [World.size_alloc, World.size_drew] at g4 s4); (try simp only [World.size_alloc, World.size_drew, World.size_setCell] at r4); have l4 := r4.out.ilt upd_same; clear hn4; have ka4 : w4.cell? ⟨ba, 0, none⟩ = some (.string sx) := (r4.out.keep.blk ha.out hPa.out).cell 0; have kb4 : w4.cell? ⟨bb, 0, none⟩ = some (.string sy) := (r4.out.keep.blk hb.out hPb.out).cell 0; (try (refine Run.cellK r4.out (b := w.heap.size) (T := 65) (v := .pointer none) ?_ ?_; (focus (((try simp only [World.size_alloc, World.size_drew, World.size_setCell]); (repeat first | exact updX_same | rw [updX_ne (by (try simp only [World.size_alloc, World.size_drew, World.size_setCell]); omega)])); done)); intro a6 a6z a6l)); (try (refine Run.cellK r4.out (b := (w.heap.size + 1)) (T := 65) (v := .pointer none) ?_ ?_; (focus (((try simp only [World.size_alloc, World.size_drew, World.size_setCell]); (repeat first | exact updX_same | rw [updX_ne (by (try simp only [World.size_alloc, World.size_drew, World.size_setCell]); omega)])); done)); intro a7 a7z a7l))) | (go_at_call 35; (with_reducible show Calls _ _ #[Value.string sy] _ _); refine (hdy.out _ ?_ ?_).mono ?_; (first | exact (r4.out).ok | exact ((r4.out.box _ _)).ok | exact (((r4.out.box _ _).box _ _)).ok); (first | exact (r4.out).er her | exact ((r4.out.box _ _)).er her | exact (((r4.out.box _ _).box _ _)).er her); rintro e w5 ⟨B5, rfl, hn5⟩; have r5 := Hd.mk (p := Run _ _ _ _ _) (by first | exact (r4.out).new_int hn5 | exact ((r4.out.box _ _)).new_int hn5 | exact (((r4.out.box _ _).box _ _)).new_int hn5); have g5 := hn5.ge; have s5 := hn5.bel.size; (try simp only [World.size_alloc, World.size_drew] at g5 s5); (try simp only [World.size_alloc, World.size_drew, World.size_setCell] at r5); have l5 := r5.out.ilt upd_same; clear hn5; have ka5 : w5.cell? ⟨ba, 0, none⟩ = some (.string sx) := (r5.out.keep.blk ha.out hPa.out).cell 0; have kb5 : w5.cell? ⟨bb, 0, none⟩ = some (.string sy) := (r5.out.keep.blk hb.out hPb.out).cell 0; (try (refine Run.cellK r5.out (b := w.heap.size) (T := 65) (v := .pointer none) ?_ ?_; (focus (((try simp only [World.size_alloc, World.size_drew, World.size_setCell]); (repeat first | exact updX_same | rw [updX_ne (by (try simp only [World.size_alloc, World.size_drew, World.size_setCell]); omega)])); done)); intro b6 b6z b6l)); (try (refine Run.cellK r5.out (b := (w.heap.size + 1)) (T := 65) (v := .pointer none) ?_ ?_; (focus (((try simp only [World.size_alloc, World.size_drew, World.size_setCell]); (repeat first | exact updX_same | rw [updX_ne (by (try simp only [World.size_alloc, World.size_drew, World.size_setCell]); omega)])); done)); intro b7 b7z b7l)); (try (refine Run.cellK r5.out (b := w4.heap.size) (T := 65) (v := .pointer none) ?_ ?_; (focus (((try simp only [World.size_alloc, World.size_drew, World.size_setCell]); (repeat first | exact updX_same | rw [updX_ne (by (try simp only [World.size_alloc, World.size_drew, World.size_setCell]); omega)])); done)); intro c6 c6z c6l)); (try (refine Run.cellK r5.out (b := (w4.heap.size + 1)) (T := 65) (v := .pointer none) ?_ ?_; (focus (((try simp only [World.size_alloc, World.size_drew, World.size_setCell]); (repeat first | exact updX_same | rw [updX_ne (by (try simp only [World.size_alloc, World.size_drew, World.size_setCell]); omega)])); done)); intro c7 c7z c7l))))
    all_goals
      go_wp2_with fail
      go_meet
      refine ⟨_, _, B4, B5, rfl, rfl, ?_⟩
      apply RunEx
      focus
        (repeat first | exact r5.out | apply Run.box | apply Run.set1 (v := .pointer none) (T := 65) | exact updX_same | rw [updX_ne (by (try simp only [World.size_alloc, World.size_drew, World.size_setCell]); omega)])
        done
      refine ⟨⟨?_⟩, ⟨?_⟩, ⟨?_⟩, ⟨?_⟩, ⟨?_⟩, ?_⟩
      focus
        ((try simp only [World.size_alloc, World.size_drew, World.size_setCell]); (repeat first | exact updX_same | rw [updX_ne (by (try simp only [World.size_alloc, World.size_drew, World.size_setCell]); omega)]))
        done
      focus
        ((try simp only [World.size_alloc, World.size_drew, World.size_setCell]); (repeat first | exact updX_same | rw [updX_ne (by (try simp only [World.size_alloc, World.size_drew, World.size_setCell]); omega)]))
        done
      focus
        rw [upd_ne (by omega)]
        exact upd_same
      focus
        exact upd_same
      focus
        ((try simp only [World.size_alloc, World.size_drew, World.size_setCell]); (repeat first | exact updX_same | rw [updX_ne (by (try simp only [World.size_alloc, World.size_drew, World.size_setCell]); omega)]))
        done
      (try simp only [World.size_alloc, World.size_drew, World.size_setCell])
      omega
  case rest =>
    obtain ⟨b6, b7, BA, BB, rfl, rfl, X, S, r6, h6, h7, hSA, hSB, hXl, hAB, h67, hb6, hb7⟩ := hcut
    have l6 := r6.out.lt h6.out
    have l7 := r6.out.lt h7.out
    have e6 : wc.cell? ⟨b6, 0, none⟩ = some (ptr BA) := (r6.out.bx _ _ _ h6.out).cell 0
    have e7 : wc.cell? ⟨b7, 0, none⟩ = some (ptr BB) := (r6.out.bx _ _ _ h7.out).cell 0
    have jk : wc.cell? ⟨bk, 0, none⟩ = some (.int .i64 1) := (r6.out.keep.blk hk.out hPk.out).cell 0
    have lk2 : bk < wc.heap.size := Nat.lt_of_lt_of_le hPk.out.1 r6.out.ge
    go_wp2_with (first
      | (go_at_call 61; refine (hop.out _ BA BB _ _ r6.out.ints hSA.out hSB.out).mono ?_; rintro e w7 ⟨B7, rfl, g7, hk7, hI7⟩; have r7 := Hd.mk (r6.out.op hk7 hI7); clear hk7 hI7)
      | (go_at_call 60; refine (hst.out _ B7 _ _ r7.out.ints upd_same).mono ?_; rintro e w8 ⟨rfl, hk8, hI8⟩; have r8 := Hd.mk (r7.out.op hk8 hI8); clear hk8 hI8; obtain ⟨u8, u8z, u8l⟩ := r8.out.cell (b := bu) hXl.out))
    have r9 := r8.out.set1 (b := bu) (v' := .string sz) hXl.out
    have hkk := Hd.mk r9.keep
    have hub := Hd.mk (r9.bx bu _ _ updX_same)
    go_end0
    exact ⟨hkk.out, rfl, hub.out⟩
set_option maxHeartbeats 8000000 in
theorem idoK_2 (x y z : Int) (hx : x.natAbs < 2 ^ 256) (hy : y.natAbs < 2 ^ 256) (hz : z.natAbs < 2 ^ 256) (hzz : x * y = z) : idoCl 2 (zT x) (zT y) fun e w' bu => e = .returned (.tuple #[]) ∧ Blk w' bu 9 [.string (zT z)] := by
  intro bk ba bb bu w hok her hk ha hb hl hd hl1
  have r0 := Hd.mk (Run.start1 hok hl hl1)
  have hdx := Hd.mk fun w1 h1 h2 => integer_ok x w1 h1 h2 hx
  have hdy := Hd.mk fun w1 h1 h2 => integer_ok y w1 h1 h2 hy
  have hop := Hd.mk fun (Q : Nat → Prop) B C S1 w1 (h : Ints Q w1 S1) (h1 : S1 B = some x) (h2 : S1 C = some y) => cMul_ok Q B C x y z S1 w1 h h1 h2 (by have := wl256 hx; omega) (by have := wl256 hy; omega) hz hzz
  have hst := Hd.mk fun (Q : Nat → Prop) B S1 w1 (h : Ints Q w1 S1) (h1 : S1 B = some z) => cIntString_any Q B z S1 w1 h h1 (by have := wl256 hz; omega)
  have ck := hk.cell 0
  have ca := ha.cell 0
  have cb := hb.cell 0
  simp only [List.getElem?_cons_zero] at ck ca cb
  have hPk := Hd.mk (p := bk < w.heap.size ∧ bk ≠ bu) ⟨hk.lt, hd.1⟩
  have hPa := Hd.mk (p := ba < w.heap.size ∧ ba ≠ bu) ⟨ha.lt, hd.2.1⟩
  have hPb := Hd.mk (p := bb < w.heap.size ∧ bb ≠ bu) ⟨hb.lt, hd.2.2⟩
  have lu := hl.lt
  have la := ha.lt
  have lb := hb.lt
  have lk := hk.lt
  replace hx := Hd.mk hx
  replace hy := Hd.mk hy
  replace hz := Hd.mk hz
  replace hzz := Hd.mk hzz
  generalize zT x = sx at *
  generalize zT y = sy at *
  generalize zT z = sz at *
  replace hk := Hd.mk hk
  replace ha := Hd.mk ha
  replace hb := Hd.mk hb
  replace hl := Hd.mk hl
  go_enter Tryz.func58, Tryz.ntmps58
  go_upto_region 0 with fail
  go_cut [4, 5] (fun t6 t7 wx => ∃ b6 b7 BA BB, t6 = ptr b6 ∧ t7 = ptr b7 ∧ ∃ X S, Hd (Run (fun k => k < w.heap.size ∧ k ≠ bu) w wx X S) ∧ Hd (X b6 = some (65, [ptr BA])) ∧ Hd (X b7 = some (65, [ptr BB])) ∧ Hd (S BA = some x) ∧ Hd (S BB = some y) ∧ Hd (X bu = some (9, [.string (ByteArray.mk #[])])) ∧ BA ≠ BB ∧ b6 ≠ b7 ∧ w.heap.size ≤ b6 ∧ w.heap.size ≤ b7)
  case first =>
    go_region_held3 (fun wx => wx.cell? ⟨ba, 0, none⟩ = some (.string sx) ∧ wx.cell? ⟨bb, 0, none⟩ = some (.string sy)) ((first | exact ⟨ca, cb⟩ | exact ⟨ka4, kb4⟩ | exact ⟨ka5, kb5⟩ | (constructor <;> (repeat first | assumption | rw [World.cell?_drew] | (rw [World.cell?_alloc_lt _ _ _ (by (try simp only [World.size_alloc, World.size_drew, World.size_setCell]); show _ < _; omega)]) | rw [World.cell?_setCell_far _ _ _ _ (by (try simp only [World.size_alloc, World.size_drew, World.size_setCell]); show _ ≠ _; omega)])))) (first | (go_at_call 35; (with_reducible show Calls _ _ #[Value.string sx] _ _); refine (hdx.out _ ?_ ?_).mono ?_; (first | exact (r0.out.drew).ok | exact ((r0.out.box _ _).drew).ok | exact (((r0.out.box _ _).box _ _).drew).ok); (first | exact (r0.out.drew).er her | exact ((r0.out.box _ _).drew).er her | exact (((r0.out.box _ _).box _ _).drew).er her); rintro e w4 ⟨B4, rfl, hn4⟩; have r4 := Hd.mk (p := Run _ _ _ _ _) (by first | exact (r0.out.drew).new_int hn4 | exact ((r0.out.box _ _).drew).new_int hn4 | exact (((r0.out.box _ _).box _ _).drew).new_int hn4); have g4 := hn4.ge; have s4 := hn4.bel.size; (try simp only [World.size_alloc, World.size_drew] at g4 s4); (try simp only [World.size_alloc, World.size_drew, World.size_setCell] at r4); have l4 := r4.out.ilt upd_same; clear hn4; have ka4 : w4.cell? ⟨ba, 0, none⟩ = some (.string sx) := (r4.out.keep.blk ha.out hPa.out).cell 0; have kb4 : w4.cell? ⟨bb, 0, none⟩ = some (.string sy) := (r4.out.keep.blk hb.out hPb.out).cell 0; (try (refine Run.cellK r4.out (b := w.heap.size) (T := 65) (v := .pointer none) ?_ ?_; (focus (((try simp only [World.size_alloc, World.size_drew, World.size_setCell]); (repeat first | exact updX_same | rw [updX_ne (by (try simp only [World.size_alloc, World.size_drew, World.size_setCell]); omega)])); done)); intro a6 a6z a6l)); (try (refine Run.cellK r4.out (b := (w.heap.size + 1)) (T := 65) (v := .pointer none) ?_ ?_; (focus (((try simp only [World.size_alloc, World.size_drew, World.size_setCell]); (repeat first | exact updX_same | rw [updX_ne (by (try simp only [World.size_alloc, World.size_drew, World.size_setCell]); omega)])); done)); intro a7 a7z a7l))) | (go_at_call 35; (with_reducible show Calls _ _ #[Value.string sy] _ _); refine (hdy.out _ ?_ ?_).mono ?_; (first | exact (r4.out).ok | exact ((r4.out.box _ _)).ok | exact (((r4.out.box _ _).box _ _)).ok); (first | exact (r4.out).er her | exact ((r4.out.box _ _)).er her | exact (((r4.out.box _ _).box _ _)).er her); rintro e w5 ⟨B5, rfl, hn5⟩; have r5 := Hd.mk (p := Run _ _ _ _ _) (by first | exact (r4.out).new_int hn5 | exact ((r4.out.box _ _)).new_int hn5 | exact (((r4.out.box _ _).box _ _)).new_int hn5); have g5 := hn5.ge; have s5 := hn5.bel.size; (try simp only [World.size_alloc, World.size_drew] at g5 s5); (try simp only [World.size_alloc, World.size_drew, World.size_setCell] at r5); have l5 := r5.out.ilt upd_same; clear hn5; have ka5 : w5.cell? ⟨ba, 0, none⟩ = some (.string sx) := (r5.out.keep.blk ha.out hPa.out).cell 0; have kb5 : w5.cell? ⟨bb, 0, none⟩ = some (.string sy) := (r5.out.keep.blk hb.out hPb.out).cell 0; (try (refine Run.cellK r5.out (b := w.heap.size) (T := 65) (v := .pointer none) ?_ ?_; (focus (((try simp only [World.size_alloc, World.size_drew, World.size_setCell]); (repeat first | exact updX_same | rw [updX_ne (by (try simp only [World.size_alloc, World.size_drew, World.size_setCell]); omega)])); done)); intro b6 b6z b6l)); (try (refine Run.cellK r5.out (b := (w.heap.size + 1)) (T := 65) (v := .pointer none) ?_ ?_; (focus (((try simp only [World.size_alloc, World.size_drew, World.size_setCell]); (repeat first | exact updX_same | rw [updX_ne (by (try simp only [World.size_alloc, World.size_drew, World.size_setCell]); omega)])); done)); intro b7 b7z b7l)); (try (refine Run.cellK r5.out (b := w4.heap.size) (T := 65) (v := .pointer none) ?_ ?_; (focus (((try simp only [World.size_alloc, World.size_drew, World.size_setCell]); (repeat first | exact updX_same | rw [updX_ne (by (try simp only [World.size_alloc, World.size_drew, World.size_setCell]); omega)])); done)); intro c6 c6z c6l)); (try (refine Run.cellK r5.out (b := (w4.heap.size + 1)) (T := 65) (v := .pointer none) ?_ ?_; (focus (((try simp only [World.size_alloc, World.size_drew, World.size_setCell]); (repeat first | exact updX_same | rw [updX_ne (by (try simp only [World.size_alloc, World.size_drew, World.size_setCell]); omega)])); done)); intro c7 c7z c7l))))
    all_goals
      go_wp2_with fail
      go_meet
      refine ⟨_, _, B4, B5, rfl, rfl, ?_⟩
      apply RunEx
      focus
        (repeat first | exact r5.out | apply Run.box | apply Run.set1 (v := .pointer none) (T := 65) | exact updX_same | rw [updX_ne (by (try simp only [World.size_alloc, World.size_drew, World.size_setCell]); omega)])
        done
      refine ⟨⟨?_⟩, ⟨?_⟩, ⟨?_⟩, ⟨?_⟩, ⟨?_⟩, ?_⟩
      focus
        ((try simp only [World.size_alloc, World.size_drew, World.size_setCell]); (repeat first | exact updX_same | rw [updX_ne (by (try simp only [World.size_alloc, World.size_drew, World.size_setCell]); omega)]))
        done
      focus
        ((try simp only [World.size_alloc, World.size_drew, World.size_setCell]); (repeat first | exact updX_same | rw [updX_ne (by (try simp only [World.size_alloc, World.size_drew, World.size_setCell]); omega)]))
        done
      focus
        rw [upd_ne (by omega)]
        exact upd_same
      focus
        exact upd_same
      focus
        ((try simp only [World.size_alloc, World.size_drew, World.size_setCell]); (repeat first | exact updX_same | rw [updX_ne (by (try simp only [World.size_alloc, World.size_drew, World.size_setCell]); omega)]))
        done
      (try simp only [World.size_alloc, World.size_drew, World.size_setCell])
      omega
  case rest =>
    obtain ⟨b6, b7, BA, BB, rfl, rfl, X, S, r6, h6, h7, hSA, hSB, hXl, hAB, h67, hb6, hb7⟩ := hcut
    have l6 := r6.out.lt h6.out
    have l7 := r6.out.lt h7.out
    have e6 : wc.cell? ⟨b6, 0, none⟩ = some (ptr BA) := (r6.out.bx _ _ _ h6.out).cell 0
    have e7 : wc.cell? ⟨b7, 0, none⟩ = some (ptr BB) := (r6.out.bx _ _ _ h7.out).cell 0
    have jk : wc.cell? ⟨bk, 0, none⟩ = some (.int .i64 2) := (r6.out.keep.blk hk.out hPk.out).cell 0
    have lk2 : bk < wc.heap.size := Nat.lt_of_lt_of_le hPk.out.1 r6.out.ge
    go_wp2_with (first
      | (go_at_call 62; refine (hop.out _ BA BB _ _ r6.out.ints hSA.out hSB.out).mono ?_; rintro e w7 ⟨B7, rfl, g7, hk7, hI7⟩; have r7 := Hd.mk (r6.out.op hk7 hI7); clear hk7 hI7)
      | (go_at_call 60; refine (hst.out _ B7 _ _ r7.out.ints upd_same).mono ?_; rintro e w8 ⟨rfl, hk8, hI8⟩; have r8 := Hd.mk (r7.out.op hk8 hI8); clear hk8 hI8; obtain ⟨u8, u8z, u8l⟩ := r8.out.cell (b := bu) hXl.out))
    have r9 := r8.out.set1 (b := bu) (v' := .string sz) hXl.out
    have hkk := Hd.mk r9.keep
    have hub := Hd.mk (r9.bx bu _ _ updX_same)
    go_end0
    exact ⟨hkk.out, rfl, hub.out⟩
/-- What is done with two numbers (the first three ways). -/
def doZ (k : Nat) (x y : Int) : Int := if k = 0 then x + y else if k = 1 then x - y else x * y
theorem IntDo_ok (k : Nat) (hk : k < 3) (x y z : Int) (w : World) (hok : Ok w) (her : Er w) (hx : x.natAbs < 2 ^ 256) (hy : y.natAbs < 2 ^ 256) (hz : z.natAbs < 2 ^ 256) (hzz : doZ k x y = z) :
    Calls Tryz.prog 21 #[.int .i64 (k : Int), .string (zT x), .string (zT y)] w fun e w' => e = .returned (.tuple #[.string (zT z), .bool true]) ∧ Below w.heap.size w w' := by
  refine ido_ok (k : Int) (zT x) (zT y) (zT z) w hok her ?_
  match k, hk, hzz with
  | 0, _, hzz => exact idoK_0 x y z hx hy hz hzz
  | 1, _, hzz => exact idoK_1 x y z hx hy hz hzz
  | 2, _, hzz => exact idoK_2 x y z hx hy hz hzz
end Go.Proofs.YtdbjdpooggaonaaGreatDoor
