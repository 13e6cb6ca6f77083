/- The thin package: an operation of two decimals: the beginning. Conditions: those that each theorem states. -/
import Derived.Deep.RegionHeld3
import Derived.Deep.DeepCutAuto
import Derived.Test.YtdbjdpooggaonaaGreatDoorBase22
import Derived.Test.YtdbjdpooggaonaaGreatDoorBase14
import Derived.Test.YtdbjdpooggaonaaGreatDoorBase21
set_option linter.all false

namespace Go.Proofs.YtdbjdpooggaonaaGreatDoor
open Go.RowKit
set_option maxRecDepth 100000
/-- All blocks of w but b and c. -/
def But2 (w : World) (b c : Nat) (k : Nat) : Prop := k < w.heap.size ∧ k ≠ b ∧ k ≠ c
theorem Run.start2 {w : World} (hok : Ok w) {b c : Nat} {T U : TypeId} {u v : Value} (hb : Blk w b T [u]) (hc : Blk w c U [v]) (hb1 : 16 ≤ b) (hc1 : 16 ≤ c) (hbc : b ≠ c) :
    Run (But2 w b c) w w (updX (updX (fun _ => none) b (T, [u])) c (U, [v])) (fun _ => none) := by
  refine ⟨Keep.refl _ _, hok.none.less (fun k hk => .inl ⟨by have := hok.2; omega, by omega, by omega⟩) (fun k hk => ?_), fun k T' vs e => ?_, fun k hk hP => ?_, fun k hk => ⟨by have := hok.2; omega, by omega, by omega⟩⟩
  · rcases hk with hk | hk
    · exact hk.1
    · by_cases e : k = c
      · rw [e]; exact hc.lt
      · rw [updX_ne e] at hk
        by_cases e2 : k = b
        · rw [e2]; exact hb.lt
        · rw [updX_ne e2] at hk; exact absurd rfl hk
  · by_cases e1 : k = c
    · subst e1; rw [updX_same] at e; cases e; exact hc
    · rw [updX_ne e1] at e
      by_cases e2 : k = b
      · subst e2; rw [updX_same] at e; cases e; exact hb
      · rw [updX_ne e2] at e; cases e
  · rw [updX_ne hP.2.2, updX_ne hP.2.1] at hk; exact hk rfl
theorem Run.set1 {P : Nat → Prop} {w0 w : World} {X : Bxs} {S : Nat → Option Int} {b : Nat} {T : TypeId} {v v' : Value} (h : Run P w0 w X S) (hb : X b = some (T, [v])) : Run P w0 (w.setCell ⟨b, 0, none⟩ v') (updX X b (T, [v'])) S := h.store hb (put1 (h.bx _ _ _ hb))
theorem Run.cellK {P : Nat → Prop} {w0 w : World} {X : Bxs} {S : Nat → Option Int} {b : Nat} {T : TypeId} {v : Value} {G : Prop} (h : Run P w0 w X S) (hb : X b = some (T, [v])) (k : w.cell? ⟨b, 0, none⟩ = some v → w.frozen? ⟨b, 0, none⟩ = false → b < w.heap.size → G) : G := k (h.cell hb).1 (h.cell hb).2.1 (h.cell hb).2.2
theorem inR_130 {x : Int} (h : inR x = true) : x.natAbs < 10 ^ 130 := by
  have h1 := of_decide_eq_true h
  have h2 : lim < 10 ^ 130 := by decide
  have h3 : ((10 ^ 130 : Nat) : Int) = 10 ^ 130 := by rw [Int.natCast_pow]; rfl
  generalize (10 : Int) ^ 130 = T at *
  generalize lim = L at *
  generalize (10 : Nat) ^ 130 = N at *
  omega
theorem RunEx {P : Nat → Prop} {w0 w : World} {X : Bxs} {S : Nat → Option Int} {G : Bxs → (Nat → Option Int) → Prop} (h : Run P w0 w X S) (hg : G X S) : ∃ X S, Hd (Run P w0 w X S) ∧ G X S := ⟨X, S, ⟨h⟩, hg⟩
theorem Run.er {P : Nat → Prop} {w0 w : World} {X : Bxs} {S : Nat → Option Int} (h : Run P w0 w X S) (he : Er w0) : Er w := he.keep h.keep h.pg
set_option maxHeartbeats 4000000 in
theorem DecOpAdd_ok (ba bb bo bm bu bk : Nat) (x y : Int) (w : World) (hok : Ok w) (her : Er w) (hx : inR x = true) (hy : inR y = true)
    (ha : Blk w ba 9 [.string (zT x)]) (hb : Blk w bb 9 [.string (zT y)]) (ho : Blk w bo 3 [.int .i64 0]) (hm : Blk w bm 4 [.bool false]) (hu : Blk w bu 9 [.string (ByteArray.mk #[])]) (hk : Blk w bk 4 [.bool false])
    (hd : ba ≠ bu ∧ ba ≠ bk ∧ bb ≠ bu ∧ bb ≠ bk ∧ bo ≠ bu ∧ bo ≠ bk ∧ bm ≠ bu ∧ bm ≠ bk ∧ bu ≠ bk) (hb1 : 16 ≤ bu) (hk1 : 16 ≤ bk) (hr : inR (x + y) = true) :
    Calls Tryz.prog 95 #[ptr ba, ptr bb, ptr bo, ptr bm, ptr bu, ptr bk] w fun e w' => e = .returned (.tuple #[]) ∧ C2 w w' bu bk ∧ Blk w' bu 9 [.string (zT (x + y))] ∧ Blk w' bk 4 [.bool true] := by
  have r0 := Hd.mk (Run.start2 hok hu hk hb1 hk1 hd.2.2.2.2.2.2.2.2)
  have hdx := Hd.mk fun w1 h1 h2 => decimal_ok x w1 h1 h2 (inR_130 hx)
  have hdy := Hd.mk fun w1 h1 h2 => decimal_ok y w1 h1 h2 (inR_130 hy)
  have ca := ha.cell 0
  have cb := hb.cell 0
  simp only [List.getElem?_cons_zero] at ca cb
  have hPo := Hd.mk (p := But2 w bu bk bo) ⟨ho.lt, hd.2.2.2.2.1, hd.2.2.2.2.2.1⟩
  have hPm := Hd.mk (p := But2 w bu bk bm) ⟨hm.lt, hd.2.2.2.2.2.2.1, hd.2.2.2.2.2.2.2.1⟩
  have hPa := Hd.mk (p := But2 w bu bk ba) ⟨ha.lt, hd.1, hd.2.1⟩
  have hPb := Hd.mk (p := But2 w bu bk bb) ⟨hb.lt, hd.2.2.1, hd.2.2.2.1⟩
  have lu := hu.lt
  have lk := hk.lt
  have la := ha.lt
  have lb := hb.lt
  have hpt := Hd.mk fun (Q : Nat → Prop) B z (hz : inR z = true) S1 w1 (h : Ints Q w1 S1) (h1 : S1 B = some z) => parts_ok Q B z S1 w1 h h1 (Nat.le_of_lt (inR_wl hz))
  have hpx := Hd.mk fun Q B => hpt.out Q B x hx
  have hpy := Hd.mk fun Q B => hpt.out Q B y hy
  have hpz := Hd.mk fun Q B => hpt.out Q B (x + y) hr
  have hwx := inR_wl hx
  have hwy := inR_wl hy
  clear hpt
  generalize zT x = sx at *
  generalize zT y = sy at *
  generalize zT (x + y) = sz at *
  replace ha := Hd.mk ha
  replace hb := Hd.mk hb
  replace ho := Hd.mk ho
  replace hm := Hd.mk hm
  replace hu := Hd.mk hu
  replace hk := Hd.mk hk
  go_enter Tryz.func95, Tryz.ntmps95
  go_upto_region 1 with fail
  go_cut [6, 7] (fun t6 t7 wx => ∃ b6 b7 BA BB, t6 = ptr b6 ∧ t7 = ptr b7 ∧ ∃ X S, Hd (Run (But2 w bu bk) w wx X S) ∧ Hd (X b6 = some (68, [ptr BA])) ∧ Hd (X b7 = some (68, [ptr BB])) ∧ Hd (S BA = some x) ∧ Hd (S BB = some y) ∧ Hd (X bu = some (9, [.string (ByteArray.mk #[])])) ∧ Hd (X bk = some (4, [.bool false])) ∧ BA ≠ BB ∧ b6 ≠ b7 ∧ w.heap.size ≤ b6 ∧ w.heap.size ≤ b7 ∧ w.heap.size ≤ BA ∧ w.heap.size ≤ BB)
  case first =>
    go_region_held3 (fun wx => wx.cell? ⟨ba, 0, none⟩ = some (.string sx) ∧ wx.cell? ⟨bb, 0, none⟩ = some (.string sy)) ((first | exact ⟨ca, cb⟩ | exact ⟨ka4, kb4⟩ | exact ⟨ka5, kb5⟩ | (constructor <;> (repeat first | assumption | rw [World.cell?_drew] | (rw [World.cell?_alloc_lt _ _ _ (by (try simp only [World.size_alloc, World.size_drew, World.size_setCell]); show _ < _; omega)]) | rw [World.cell?_setCell_far _ _ _ _ (by (try simp only [World.size_alloc, World.size_drew, World.size_setCell]); show _ ≠ _; omega)])))) (first | (go_at_call 42; (with_reducible show Calls _ _ #[Value.string sx] _ _); refine (hdx.out _ ?_ ?_).mono ?_; (first | exact (r0.out.drew).ok | exact ((r0.out.box _ _).drew).ok | exact (((r0.out.box _ _).box _ _).drew).ok); (first | exact (r0.out.drew).er her | exact ((r0.out.box _ _).drew).er her | exact (((r0.out.box _ _).box _ _).drew).er her); rintro e w4 ⟨B4, rfl, hn4⟩; have r4 := Hd.mk (p := Run _ _ _ _ _) (by first | exact (r0.out.drew).new_int hn4 | exact ((r0.out.box _ _).drew).new_int hn4 | exact (((r0.out.box _ _).box _ _).drew).new_int hn4); have g4 := hn4.ge; have s4 := hn4.bel.size; (try simp only [World.size_alloc, World.size_drew] at g4 s4); (try simp only [World.size_alloc, World.size_drew, World.size_setCell] at r4); have l4 := r4.out.ilt upd_same; clear hn4; have ka4 : w4.cell? ⟨ba, 0, none⟩ = some (.string sx) := (r4.out.keep.blk ha.out hPa.out).cell 0; have kb4 : w4.cell? ⟨bb, 0, none⟩ = some (.string sy) := (r4.out.keep.blk hb.out hPb.out).cell 0; (try (refine Run.cellK r4.out (b := w.heap.size) (T := 68) (v := .pointer none) ?_ ?_; (focus (((try simp only [World.size_alloc, World.size_drew, World.size_setCell]); (repeat first | exact updX_same | rw [updX_ne (by (try simp only [World.size_alloc, World.size_drew, World.size_setCell]); omega)])); done)); intro a6 a6z a6l)); (try (refine Run.cellK r4.out (b := (w.heap.size + 1)) (T := 68) (v := .pointer none) ?_ ?_; (focus (((try simp only [World.size_alloc, World.size_drew, World.size_setCell]); (repeat first | exact updX_same | rw [updX_ne (by (try simp only [World.size_alloc, World.size_drew, World.size_setCell]); omega)])); done)); intro a7 a7z a7l))) | (go_at_call 42; (with_reducible show Calls _ _ #[Value.string sy] _ _); refine (hdy.out _ ?_ ?_).mono ?_; (first | exact (r4.out).ok | exact ((r4.out.box _ _)).ok | exact (((r4.out.box _ _).box _ _)).ok); (first | exact (r4.out).er her | exact ((r4.out.box _ _)).er her | exact (((r4.out.box _ _).box _ _)).er her); rintro e w5 ⟨B5, rfl, hn5⟩; have r5 := Hd.mk (p := Run _ _ _ _ _) (by first | exact (r4.out).new_int hn5 | exact ((r4.out.box _ _)).new_int hn5 | exact (((r4.out.box _ _).box _ _)).new_int hn5); have g5 := hn5.ge; have s5 := hn5.bel.size; (try simp only [World.size_alloc, World.size_drew] at g5 s5); (try simp only [World.size_alloc, World.size_drew, World.size_setCell] at r5); have l5 := r5.out.ilt upd_same; clear hn5; have ka5 : w5.cell? ⟨ba, 0, none⟩ = some (.string sx) := (r5.out.keep.blk ha.out hPa.out).cell 0; have kb5 : w5.cell? ⟨bb, 0, none⟩ = some (.string sy) := (r5.out.keep.blk hb.out hPb.out).cell 0; (try (refine Run.cellK r5.out (b := w.heap.size) (T := 68) (v := .pointer none) ?_ ?_; (focus (((try simp only [World.size_alloc, World.size_drew, World.size_setCell]); (repeat first | exact updX_same | rw [updX_ne (by (try simp only [World.size_alloc, World.size_drew, World.size_setCell]); omega)])); done)); intro b6 b6z b6l)); (try (refine Run.cellK r5.out (b := (w.heap.size + 1)) (T := 68) (v := .pointer none) ?_ ?_; (focus (((try simp only [World.size_alloc, World.size_drew, World.size_setCell]); (repeat first | exact updX_same | rw [updX_ne (by (try simp only [World.size_alloc, World.size_drew, World.size_setCell]); omega)])); done)); intro b7 b7z b7l)); (try (refine Run.cellK r5.out (b := w4.heap.size) (T := 68) (v := .pointer none) ?_ ?_; (focus (((try simp only [World.size_alloc, World.size_drew, World.size_setCell]); (repeat first | exact updX_same | rw [updX_ne (by (try simp only [World.size_alloc, World.size_drew, World.size_setCell]); omega)])); done)); intro c6 c6z c6l)); (try (refine Run.cellK r5.out (b := (w4.heap.size + 1)) (T := 68) (v := .pointer none) ?_ ?_; (focus (((try simp only [World.size_alloc, World.size_drew, World.size_setCell]); (repeat first | exact updX_same | rw [updX_ne (by (try simp only [World.size_alloc, World.size_drew, World.size_setCell]); omega)])); done)); intro c7 c7z c7l))))
    all_goals
      go_wp2_with fail
      go_meet
      refine ⟨_, _, B4, B5, rfl, rfl, ?_⟩
      apply RunEx
      focus
        (repeat first | exact r5.out | apply Run.box | apply Run.set1 (v := .pointer none) (T := 68) | exact updX_same | rw [updX_ne (by (try simp only [World.size_alloc, World.size_drew, World.size_setCell]); omega)])
        done
      refine ⟨⟨?_⟩, ⟨?_⟩, ⟨?_⟩, ⟨?_⟩, ⟨?_⟩, ⟨?_⟩, ?_⟩
      focus
        ((try simp only [World.size_alloc, World.size_drew, World.size_setCell]); (repeat first | exact updX_same | rw [updX_ne (by (try simp only [World.size_alloc, World.size_drew, World.size_setCell]); omega)]))
        done
      focus
        ((try simp only [World.size_alloc, World.size_drew, World.size_setCell]); (repeat first | exact updX_same | rw [updX_ne (by (try simp only [World.size_alloc, World.size_drew, World.size_setCell]); omega)]))
        done
      focus
        rw [upd_ne (by omega)]
        exact upd_same
      focus
        exact upd_same
      focus
        ((try simp only [World.size_alloc, World.size_drew, World.size_setCell]); (repeat first | exact updX_same | rw [updX_ne (by (try simp only [World.size_alloc, World.size_drew, World.size_setCell]); omega)]))
        done
      focus
        ((try simp only [World.size_alloc, World.size_drew, World.size_setCell]); (repeat first | exact updX_same | rw [updX_ne (by (try simp only [World.size_alloc, World.size_drew, World.size_setCell]); omega)]))
        done
      (try simp only [World.size_alloc, World.size_drew, World.size_setCell])
      omega
  case rest =>
    have hbuk := Hd.mk hd.2.2.2.2.2.2.2.2
    obtain ⟨b6, b7, BA, BB, rfl, rfl, X, S, r6, h6, h7, hSA, hSB, hXu, hXk, hAB, h67, hb6, hb7, hBA, hBB⟩ := hcut
    have l6 := r6.out.lt h6.out
    have l7 := r6.out.lt h7.out
    have lA := r6.out.ilt hSA.out
    have lB := r6.out.ilt hSB.out
    have gg6 := r6.out.ge
    obtain ⟨d6, d6z, d6l⟩ := r6.out.cell (b := b6) h6.out
    go_upto_region 2 with (go_at_call 51; refine (hpx.out _ BA _ _ r6.out.ints hSA.out).mono ?_; rintro e w7 ⟨rfl, hk7, hI7⟩; have r7 := Hd.mk (r6.out.op hk7 hI7); have s7 := hk7.size; clear hk7 hI7)
    clear d6 d6z d6l
    have r8 := Hd.mk (r7.out.box #[.pointer none] 68)
    obtain ⟨e6, e6z, e6l⟩ := r8.out.cell (b := b6) (by rw [updX_ne (by omega)]; exact h6.out)
    obtain ⟨e7, e7z, e7l⟩ := r8.out.cell (b := b7) (by rw [updX_ne (by omega)]; exact h7.out)
    have eo := (r8.out.keep.blk ho.out hPo.out).cell 0
    have em := (r8.out.keep.blk hm.out hPm.out).cell 0
    simp only [List.getElem?_cons_zero] at eo em
    have hadd := Hd.mk (dAdd_ok _ BA BB x y S _ r8.out.ints hSA.out hSB.out (by omega) (by omega) hr)
    go_upto_region 41 with (first
      | (go_at_call 97; refine hadd.out.mono ?_; rintro e w9 ⟨B9, rfl, g9, hk9, hI9⟩; have r9 := Hd.mk (r8.out.op hk9 hI9); have s9 := hk9.size; simp only [World.size_alloc] at g9 s9; clear hk9 hI9; obtain ⟨f8, f8z, f8l⟩ := r9.out.cell (b := w7.heap.size) updX_same; have r10 := Hd.mk (r9.out.set1 (b := w7.heap.size) (v' := ptr B9) updX_same))
      | (go_at_call 51; refine (hpz.out _ B9 _ _ r10.out.ints upd_same).mono ?_; rintro e w11 ⟨rfl, hk11, hI11⟩; have r11 := Hd.mk (r10.out.op hk11 hI11); have s11 := hk11.size; simp only [World.size_setCell] at s11; clear hk11 hI11; obtain ⟨gu, guz, gul⟩ := r11.out.cell (b := bu) (by rw [updX_ne (by omega), updX_ne (by omega)]; exact hXu.out); have r12 := Hd.mk (r11.out.set1 (b := bu) (v' := .string sz) (by rw [updX_ne (by omega), updX_ne (by omega)]; exact hXu.out))))
    generalize hw12 : w11.setCell _ _ = w12 at *
    have s12 : w12.heap.size = w11.heap.size := by rw [← hw12, World.size_setCell]
    clear hw12 r7 r8 r9 r10 r11 f8 f8z f8l gu guz gul eo em e6 e6z e6l e7 e7z e7l
    obtain ⟨e7, e7z, e7l⟩ := r12.out.cell (b := b7) (by rw [updX_ne (by omega), updX_ne (by omega), updX_ne (by omega)]; exact h7.out)
    obtain ⟨e6, e6z, e6l⟩ := r12.out.cell (b := b6) (by rw [updX_ne (by omega), updX_ne (by omega), updX_ne (by omega)]; exact h6.out)
    have eb := (r12.out.keep.blk hb.out hPb.out).cell 0
    have em := (r12.out.keep.blk hm.out hPm.out).cell 0
    simp only [List.getElem?_cons_zero] at eb em
    have hbb := Hd.mk fun w1 X1 S1 (h : Run (But2 w bu bk) w w1 X1 S1) => ((h.keep.blk hb.out hPb.out).cell 0).trans rfl
    have hmm := Hd.mk fun w1 X1 S1 (h : Run (But2 w bu bk) w w1 X1 S1) => ((h.keep.blk hm.out hPm.out).cell 0).trans rfl
    have hX6 := Hd.mk (p := updX (updX (updX X w7.heap.size (68, [Value.pointer none])) w7.heap.size (68, [ptr B9])) bu (9, [Value.string sz]) b6 = some (68, [ptr BA])) (by rw [updX_ne (by omega), updX_ne (by omega), updX_ne (by omega)]; exact h6.out)
    have hX7 := Hd.mk (p := updX (updX (updX X w7.heap.size (68, [Value.pointer none])) w7.heap.size (68, [ptr B9])) bu (9, [Value.string sz]) b7 = some (68, [ptr BB])) (by rw [updX_ne (by omega), updX_ne (by omega), updX_ne (by omega)]; exact h7.out)
    have hXK := Hd.mk (p := updX (updX (updX X w7.heap.size (68, [Value.pointer none])) w7.heap.size (68, [ptr B9])) bu (9, [Value.string sz]) bk = some (4, [.bool false])) (by rw [updX_ne (by omega), updX_ne (by omega), updX_ne (by omega)]; exact hXk.out)
    have hXU := Hd.mk (p := updX (updX (updX X w7.heap.size (68, [Value.pointer none])) w7.heap.size (68, [ptr B9])) bu (9, [Value.string sz]) bu = some (9, [.string sz])) updX_same
    generalize updX (updX (updX X w7.heap.size (68, [Value.pointer none])) w7.heap.size (68, [ptr B9])) bu (9, [Value.string sz]) = X2 at *
    have hSA2 := Hd.mk (p := upd S B9 (x + y) BA = some x) (by rw [upd_ne (by omega)]; exact hSA.out)
    have hSB2 := Hd.mk (p := upd S B9 (x + y) BB = some y) (by rw [upd_ne (by omega)]; exact hSB.out)
    have lA2 := r12.out.ilt hSA2.out
    generalize upd S B9 (x + y) = S2 at *
    clear hadd r6 hXu hXk h6 h7 hSA hSB
    go_wp2_with fail
    go_region_law (first
      | (go_simp; go_at_call 51; (with_reducible show Calls _ _ #[Value.agg #[ptr BB]] _ _); refine (hpy.out _ BB _ _ r12.out.drew.ints hSB2.out).mono ?_; rintro e w13 ⟨rfl, hk13, hI13⟩; have r13 := Hd.mk (r12.out.drew.op hk13 hI13); have s13 := hk13.size; clear hk13 hI13; have eb13 := hbb.out _ _ _ r13.out; have em13 := hmm.out _ _ _ r13.out; obtain ⟨e613, e613z, e613l⟩ := r13.out.cell hX6.out)
      | (go_simp; go_at_call 42; refine (hdy.out _ r13.out.ok (r13.out.er her)).mono ?_; rintro e w14 ⟨B14, rfl, hn14⟩; have r14 := Hd.mk (r13.out.new_int hn14); have g14 := hn14.ge; (try simp only [World.size_drew] at s13); clear hn14; have em14 := hmm.out _ _ _ r14.out; obtain ⟨e614, e614z, e614l⟩ := r14.out.cell hX6.out)
      | (go_simp; go_at_call 51; (with_reducible show Calls _ _ #[Value.agg #[ptr B14]] _ _); refine (hpy.out _ B14 _ _ r14.out.ints upd_same).mono ?_; rintro e w15 ⟨rfl, hk15, hI15⟩; have r15 := Hd.mk (r14.out.op hk15 hI15); clear hk15 hI15; have em15 := hmm.out _ _ _ r15.out; obtain ⟨e615, e615z, e615l⟩ := r15.out.cell hX6.out)
      | (go_simp; go_at_call 51; (with_reducible show Calls _ _ #[Value.agg #[ptr BA]] _ _); refine (hpx.out _ BA _ _ r15.out.ints (by rw [upd_ne (by omega)]; exact hSA2.out)).mono ?_; rintro e w16 ⟨rfl, hk16, hI16⟩; have r16 := Hd.mk (r15.out.op hk16 hI16); clear hk16 hI16; have em16 := hmm.out _ _ _ r16.out; obtain ⟨k16, k16z, k16l⟩ := r16.out.cell hXK.out))
    all_goals
      have r17 := Hd.mk (r16.out.set1 (b := bk) (v' := .bool true) hXK.out)
      have em17 := hmm.out _ _ _ r17.out
      generalize w16.setCell _ _ = w17 at *
      have hkk := Hd.mk r17.out.keep
      have hU := Hd.mk (r17.out.bx bu _ _ (by rw [updX_ne hbuk.out]; exact hXU.out))
      have hK := Hd.mk (r17.out.bx bk _ _ updX_same)
      simp only [List.getElem?_cons_zero] at em17
      clear r12 r13 r14 r15 r16 r17
      go_wp2_with fail
      go_quiet (fail)
      go_wp2
      go_end0
      exact ⟨rfl, ⟨hkk.out.os, hkk.out.tape, hkk.out.output, hkk.out.size, fun k h1 h2 h3 => hkk.out.block k ⟨h1, h2, h3⟩ h1⟩, hU.out, hK.out⟩
end Go.Proofs.YtdbjdpooggaonaaGreatDoor
