/- FnDecTells: the walk. Conditions: those that each theorem states. -/
import Derived.Laws.StructEq
import Derived.Test.YtmamfidjigmahaaGreatDoorTells02
import Derived.Test.YtmamfidjigmahaaGreatDoorBack02
set_option linter.all false

namespace Go.Proofs.YtmamfidjigmahaaGreatDoor
open Go.RowKit
set_option maxRecDepth 100000
theorem about_fields : (Tryz.prog.fieldsOf 31).toList.map (fun f => (f.name != "_", f.type, f.offset)) = [(true, 9, 0), (true, 4, 1), (true, 4, 2), (true, 4, 3), (true, 4, 4), (true, 4, 5), (true, 9, 6), (true, 9, 7), (true, 2, 8), (true, 2, 9), (true, 4, 10), (true, 4, 11)] := by kernel_rfl
theorem about_is : Tryz.prog.underlying 31 = some (.struct (Tryz.prog.fieldsOf 31)) := by kernel_rfl
theorem about_stood : Tryz.prog.stoodInHeld 31 = false := by kernel_rfl
theorem about_guard : Tryz.prog.eqGuardType Tryz.prog.depth 31 = false := by kernel_rfl
/-- Fields that are all equal. -/
theorem eqFields_same {P : Program} {d : Nat} {xs : Array Value} {w : World} : ∀ fs : List Field, (∀ f, f ∈ fs → f.name ≠ "_" → ∃ v, (part f.type xs f.offset).run P w = .ok v w ∧ (Op.equalIn d f.type v v).run P w = .ok true w) → (Op.eqFields d xs xs fs).run P w = .ok true w
  | [], _ => by simp [Op.eqFields]
  | f :: fs, h => by
    have ih := eqFields_same fs (fun g hg => h g (List.mem_cons_of_mem _ hg))
    by_cases hn : f.name = "_"
    · simp [Op.eqFields, hn, ih]
    · obtain ⟨v, h1, h2⟩ := h f (List.mem_cons_self ..) hn
      simp [Op.eqFields, hn, h1, h2, ih]
theorem part_s (xs : Array Value) (o : Nat) (v : Value) (w : World) (h : xs[o]? = some v) : (part 9 xs o).run Tryz.prog w = .ok v w := by
  have h0 : (isAgg 9).run Tryz.prog w = .ok false w := rfl
  unfold part
  rw [Sem.run_bind, h0]
  simp [h]
theorem part_b (xs : Array Value) (o : Nat) (v : Value) (w : World) (h : xs[o]? = some v) : (part 4 xs o).run Tryz.prog w = .ok v w := by
  have h0 : (isAgg 4).run Tryz.prog w = .ok false w := rfl
  unfold part
  rw [Sem.run_bind, h0]
  simp [h]
theorem part_i (xs : Array Value) (o : Nat) (v : Value) (w : World) (h : xs[o]? = some v) : (part 2 xs o).run Tryz.prog w = .ok v w := by
  have h0 : (isAgg 2).run Tryz.prog w = .ok false w := rfl
  unfold part
  rw [Sem.run_bind, h0]
  simp [h]
theorem eqi_s (d : Nat) (s : ByteArray) (w : World) : (Op.equalIn (d + 1) 9 (.string s) (.string s)).run Tryz.prog w = .ok true w := by
  rw [run_equalIn_string w d 9 s s Tryz.underlying9, beq_self_eq_true]
theorem eqi_b (d : Nat) (s : Bool) (w : World) : (Op.equalIn (d + 1) 4 (.bool s) (.bool s)).run Tryz.prog w = .ok true w := by
  rw [run_equalIn_bool' w d 4 s s Tryz.underlying4, beq_self_eq_true]
theorem eqi_i (d : Nat) (s : Int) (w : World) : (Op.equalIn (d + 1) 2 (.int .i64 s) (.int .i64 s)).run Tryz.prog w = .ok true w := by
  rw [run_equalIn_int w d 2 .i64 .i64 s s Tryz.underlying2, beq_self_eq_true]
theorem tell_eql (tv0 tv6 tv7 : ByteArray) (tv1 tv2 tv3 tv4 tv5 tv10 tv11 : Bool) (tv8 tv9 : Int) (w : World) :
    (binOp .eql 31 (.agg #[.string tv0, .bool tv1, .bool tv2, .bool tv3, .bool tv4, .bool tv5, .string tv6, .string tv7, .int .i64 tv8, .int .i64 tv9, .bool tv10, .bool tv11]) (.agg #[.string tv0, .bool tv1, .bool tv2, .bool tv3, .bool tv4, .bool tv5, .string tv6, .string tv7, .int .i64 tv8, .int .i64 tv9, .bool tv10, .bool tv11])).run Tryz.prog w = .ok (.bool true) w := by
  rw [run_eql_struct]
  rw [run_equalIn_agg w 9999 31 _ _ about_is about_stood]
  rw [eqFields_same]
  · rfl
  · intro f hf hn
    have hm := List.mem_map_of_mem (f := fun f : Field => (f.name != "_", f.type, f.offset)) hf
    rw [about_fields] at hm
    simp only [List.mem_cons, List.not_mem_nil, or_false, Prod.mk.injEq] at hm
    rcases hm with ⟨-, h1, h2⟩ | ⟨-, h1, h2⟩ | ⟨-, h1, h2⟩ | ⟨-, h1, h2⟩ | ⟨-, h1, h2⟩ | ⟨-, h1, h2⟩ | ⟨-, h1, h2⟩ | ⟨-, h1, h2⟩ | ⟨-, h1, h2⟩ | ⟨-, h1, h2⟩ | ⟨-, h1, h2⟩ | ⟨-, h1, h2⟩
    all_goals
      rw [h1, h2]
      first
        | exact ⟨_, part_s _ _ _ w rfl, eqi_s _ _ w⟩
        | exact ⟨_, part_b _ _ _ w rfl, eqi_b _ _ w⟩
        | exact ⟨_, part_i _ _ _ w rfl, eqi_i _ _ w⟩
set_option maxHeartbeats 8000000 in
theorem tells_walk (a : ByteArray) (w : World) (hok : Ok w) (her : Er w) :
    Calls Tryz.prog 6 #[.string a] w fun e w' => e = .returned (.bool true) ∧ Below w.heap.size w w' := by
  by_cases h1 : 2147483647 < a.size
  · have d1 : decide ((2147483647 : Int) < (a.size : Int)) = true := decide_eq_true (by omega)
    go_enter Tryz.func6, Tryz.ntmps6
    go_wp2
    go_ret
    exact ⟨rfl, Below.refl _ _⟩
  have d1 : decide ((2147483647 : Int) < (a.size : Int)) = false := decide_eq_false (by omega)
  have hpt := Hd.mk (parts_any a w (by omega))
  have hal := Hd.mk alive_any
  go_enter Tryz.func6, Tryz.ntmps6
  go_upto_region 4 with (go_at_call 7; refine hpt.out.mono ?_; rintro e w2 ⟨b2, A2, n2, c2, ok, rfl, hx, hb2⟩; replace hx := Hd.mk hx; replace hb2 := Hd.mk hb2)
  have r2 := Hd.mk (((SR.start w [] (fun p hp => by cases hp)).op hb2.out).box2 (b0 := b2) (A := A2) (m := n2) (c := c2))
  have hba : Below w2.heap.size w2 (w2.alloc (.cells #[.bool b2, .slice A2 n2 c2] 24)) := (Below.refl _ _).alloc (Nat.le_refl _) _
  have hC : Hd (updC (fun _ => none) w2.heap.size [.bool b2, .slice A2 n2 c2] w2.heap.size = some [.bool b2, .slice A2 n2 c2]) := ⟨updC_same⟩
  generalize updC (fun _ => none) w2.heap.size [.bool b2, .slice A2 n2 c2] = C at *
  have hxb := Hd.mk fun x (h : NumV w2 (.agg #[.bool b2, .slice A2 n2 c2]) x) => h.below hba
  clear hba
  generalize w2.alloc (.cells #[.bool b2, .slice A2 n2 c2] 24) = w3 at *
  refine SR.cellK r2.out hC.out ?_
  intro f0 f1 fz fy fl
  cases ok
  · go_wp2_with (go_at_call 11; refine (hal.out _ (hok.below r2.out.bel) (her.below r2.out.bel)).mono ?_; rintro e w9 ⟨rfl, hb9⟩; have r9 := Hd.mk (r2.out.op hb9); clear hb9)
    go_ret
    exact ⟨rfl, r9.out.bel⟩
  obtain ⟨x, hsx, hxm, hnx⟩ := hx.out rfl
  subst hsx
  rw [most_lim] at hxm
  have hxR : inR x = true := inR_of (by omega) (by omega)
  have hx200 : x.natAbs < 10 ^ 200 := by
    have := inR_130 hxR
    exact Nat.lt_trans this (by decide)
  have h130 : (10 : Nat) ^ 130 + 1 < 10 ^ 200 := by decide
  have hr200 : (chopR x).natAbs < 10 ^ 200 := Nat.lt_of_le_of_lt (chopR_near x) (Nat.lt_of_le_of_lt (Nat.succ_le_of_lt (Nat.lt_succ_of_lt (inR_130 hxR))) h130)
  have ht200 : (x.tdiv E18).natAbs < 10 ^ 200 := Nat.lt_of_le_of_lt (tdiv_near x) hx200
  clear h130
  have r3 := Hd.mk (r2.out.add (hxb.out x hnx))
  have hro := Hd.mk fun w1 v1 (h : NumV w1 v1 x) => nv (rounded_any v1 x w1 h hx200)
  have hcu := Hd.mk fun w1 v1 (h : NumV w1 v1 x) => nv (cut18_any v1 x w1 h hx200)
  by_cases hR : (chopR x).natAbs < 2 ^ 256
  · have hbr := Hd.mk fun w1 v1 (h : NumV w1 v1 (chopR x)) => bits_le v1 _ w1 h hr200 hR
    by_cases hT : (x.tdiv E18).natAbs < 2 ^ 256
    · have hbt := Hd.mk fun w1 v1 (h : NumV w1 v1 (x.tdiv E18)) => bits_le v1 _ w1 h ht200 hT
      have hde := Hd.mk fun w1 q1 q2 => DecTell_ok x w1 q1 q2 hxR hR hT
      have hsp := Hd.mk fun w1 v1 (q : NumV w1 v1 x) => spectell_any v1 x w1 q hx200 (decide_eq_true (by rw [most_lim]; exact hxm)) hR hT
      obtain ⟨tv0, tv1, tv2, tv3, tv4, tv5, tv6, tv7, tv8, tv9, tv10, tv11, hu⟩ : ∃ tv0 tv1 tv2 tv3 tv4 tv5 tv6 tv7 tv8 tv9 tv10 tv11, tellL x = abL tv0 tv1 tv2 tv3 tv4 tv5 tv6 tv7 tv8 tv9 tv10 tv11 := ⟨_, _, _, _, _, _, _, _, _, _, _, _, rfl⟩
      rw [hu] at hde hsp
      clear hu
      unfold abL at hde hsp
      generalize chopR x = y at *
      generalize hty : x.tdiv E18 = t at *
      replace hty := Hd.mk hty
      replace hR := Hd.mk hR
      replace hT := Hd.mk hT
      replace hr200 := Hd.mk hr200
      replace ht200 := Hd.mk ht200
      replace hx200 := Hd.mk hx200
      generalize zT x = sx at *
      go_upto_region 6 with (first
        | (go_at_call 8; refine (hro.out _ _ r3.out.v0).mono ?_; rintro e w4 ⟨b4, A4, m4, c4, rfl, hn4, hb4⟩; have r4 := Hd.mk ((r3.out.op hb4).add hn4); clear hb4 hn4)
        | (go_at_call 10; refine (hcu.out _ _ r5.out.v1).mono ?_; rintro e w6 ⟨b6, A6, m6, c6, rfl, hn6, hb6⟩; have r6 := Hd.mk ((r5.out.op hb6).add hn6); clear hb6 hn6)
        | (go_at_call 9; refine (hbt.out _ _ r6.out.v0).mono ?_; rintro e w7 ⟨k2, rfl, dj1, dj2, dj3, hb7⟩; have r7 := Hd.mk (r6.out.op hb7); clear hb7)
        | (go_at_call 9; refine (hbr.out _ _ r4.out.v0).mono ?_; rintro e w5 ⟨k1, rfl, dk1, dk2, dk3, hb5⟩; have r5 := Hd.mk (r4.out.op hb5); clear hb5; refine SR.cellK r5.out hC.out ?_; intro g0 g1 gz gy gl))
      have hbel7 := Hd.mk r7.out.bel
      have hn7 := Hd.mk (r7.out.num (.agg #[.bool b2, .slice A2 n2 c2], x) (by simp))
      refine SR.cellK r7.out hC.out ?_
      intro k0 k1 kz ky kl
      clear r2 r3 r4 r5 r6 r7 f0 f1 fz fy fl g0 g1 gz gy gl hxb hbr hbt hro hcu
      go_upto_region 7 with (go_at_call 12; refine (hde.out _ (hok.below hbel7.out) (her.below hbel7.out)).mono ?_; rintro e w8 ⟨rfl, hb8⟩; have m0 := cb hb8 k0; have m1 := cb hb8 k1; have hn8 := Hd.mk (hn7.out.below hb8); have hbel8 := Hd.mk (hbel7.out.trans (hb8.mono hbel7.out.size)); have sz8 := Nat.lt_of_lt_of_le kl hb8.size; clear hb8)
      have hbk := Blk.new w8 #[.string tv0, .bool tv1, .bool tv2, .bool tv3, .bool tv4, .bool tv5, .string tv6, .string tv7, .int .i64 tv8, .int .i64 tv9, .bool tv10, .bool tv11] 31
      have hba9 : Below w8.heap.size w8 (w8.alloc (.cells #[.string tv0, .bool tv1, .bool tv2, .bool tv3, .bool tv4, .bool tv5, .string tv6, .string tv7, .int .i64 tv8, .int .i64 tv9, .bool tv10, .bool tv11] 31)) := (Below.refl _ _).alloc (Nat.le_refl _) _
      have hbel9 : Below w.heap.size w (w8.alloc (.cells #[.string tv0, .bool tv1, .bool tv2, .bool tv3, .bool tv4, .bool tv5, .string tv6, .string tv7, .int .i64 tv8, .int .i64 tv9, .bool tv10, .bool tv11] 31)) := hbel8.out.alloc hbel8.out.size _
      have n0 := cb hba9 m0
      have n1 := cb hba9 m1
      have hn9 := Hd.mk (hn8.out.below hba9)
      have sz9 : w8.heap.size < (w8.alloc (.cells #[.string tv0, .bool tv1, .bool tv2, .bool tv3, .bool tv4, .bool tv5, .string tv6, .string tv7, .int .i64 tv8, .int .i64 tv9, .bool tv10, .bool tv11] 31)).heap.size := by rw [World.size_alloc]; omega
      change Blk _ _ _ [.string tv0, .bool tv1, .bool tv2, .bool tv3, .bool tv4, .bool tv5, .string tv6, .string tv7, .int .i64 tv8, .int .i64 tv9, .bool tv10, .bool tv11] at hbk
      generalize w8.alloc (.cells #[.string tv0, .bool tv1, .bool tv2, .bool tv3, .bool tv4, .bool tv5, .string tv6, .string tv7, .int .i64 tv8, .int .i64 tv9, .bool tv10, .bool tv11] 31) = w9 at *
      replace hbk := Hd.mk hbk
      replace hbel9 := Hd.mk hbel9
      clear hba9 m0 m1 k0 k1 hn7 hn8
      go_upto_region 8 with (go_at_call 21; refine (hsp.out _ _ hn9.out).mono ?_; rintro e w10 ⟨rfl, hb10⟩; have hB5 := Hd.mk (hbk.out.of_heap (hb10.block _ sz9)); have hbel10 := Hd.mk (hbel9.out.trans (hb10.mono hbel9.out.size)); have sz10 := Nat.lt_of_lt_of_le sz9 hb10.size; clear hb10)
      have hB7 : Hd (Blk (w10.alloc (.cells #[.string tv0, .bool tv1, .bool tv2, .bool tv3, .bool tv4, .bool tv5, .string tv6, .string tv7, .int .i64 tv8, .int .i64 tv9, .bool tv10, .bool tv11] 31)) w10.heap.size 31 [.string tv0, .bool tv1, .bool tv2, .bool tv3, .bool tv4, .bool tv5, .string tv6, .string tv7, .int .i64 tv8, .int .i64 tv9, .bool tv10, .bool tv11]) := ⟨Blk.new w10 #[.string tv0, .bool tv1, .bool tv2, .bool tv3, .bool tv4, .bool tv5, .string tv6, .string tv7, .int .i64 tv8, .int .i64 tv9, .bool tv10, .bool tv11] 31⟩
      have hbel11 := Hd.mk (hbel10.out.alloc hbel10.out.size (.cells #[.string tv0, .bool tv1, .bool tv2, .bool tv3, .bool tv4, .bool tv5, .string tv6, .string tv7, .int .i64 tv8, .int .i64 tv9, .bool tv10, .bool tv11] 31))
      have hB5' := Hd.mk (hB5.out.alloc (.cells #[.string tv0, .bool tv1, .bool tv2, .bool tv3, .bool tv4, .bool tv5, .string tv6, .string tv7, .int .i64 tv8, .int .i64 tv9, .bool tv10, .bool tv11] 31))
      generalize w10.alloc (.cells #[.string tv0, .bool tv1, .bool tv2, .bool tv3, .bool tv4, .bool tv5, .string tv6, .string tv7, .int .i64 tv8, .int .i64 tv9, .bool tv10, .bool tv11] 31) = w11 at *
      have hne : w8.heap.size ≠ w10.heap.size := by omega
      have hge10 : w.heap.size ≤ w10.heap.size := hbel10.out.size
      generalize w8.heap.size = g5 at *
      generalize w10.heap.size = g7 at *
      have x8 : w11.cell? ⟨g5, 8, none⟩ = some (.int .i64 tv8) := hB5'.out.cell 8
      have y8 : w11.cell? ⟨g7, 8, none⟩ = some (.int .i64 tv8) := hB7.out.cell 8
      have y10 : w11.cell? ⟨g7, 10, none⟩ = some (.bool tv10) := hB7.out.cell 10
      have z8 := hB7.out.frozen 8
      have l7 := hB7.out.lt
      go_upto_if 40 with fail
      go_cut [] (fun wx => Hd (Blk wx g5 31 [.string tv0, .bool tv1, .bool tv2, .bool tv3, .bool tv4, .bool tv5, .string tv6, .string tv7, .int .i64 tv8, .int .i64 tv9, .bool tv10, .bool tv11]) ∧ Hd (Blk wx g7 31 [.string tv0, .bool tv1, .bool tv2, .bool tv3, .bool tv4, .bool tv5, .string tv6, .string tv7, .int .i64 tv8, .int .i64 tv9, .bool tv10, .bool tv11]) ∧ Hd (Below w.heap.size w wx))
      case first =>
        have hp := Hd.mk ((Put.refl hB7.out).set 8 (.int .i64 tv8))
        cases tv10
        · go_wp2_with fail
          go_meet
          exact ⟨⟨hp.out.blk hB5'.out hne⟩, ⟨hp.out.here⟩, ⟨hbel11.out.setCell (p := ⟨g7, 8, none⟩) hge10 _⟩⟩
        · go_wp2_with fail
          go_meet
          exact ⟨hB5', hB7, hbel11⟩
      case rest =>
      clear x8 y8 y10 z8 l7 hB5' hB7 hbel11 w11
      obtain ⟨hB5', hB7, hbel11⟩ := hcut
      generalize wc = w11 at *
      have x9 : w11.cell? ⟨g5, 9, none⟩ = some (.int .i64 tv9) := hB5'.out.cell 9
      have y9 : w11.cell? ⟨g7, 9, none⟩ = some (.int .i64 tv9) := hB7.out.cell 9
      have y11 : w11.cell? ⟨g7, 11, none⟩ = some (.bool tv11) := hB7.out.cell 11
      have z9 := hB7.out.frozen 9
      have l7 := hB7.out.lt
      go_upto_if 46 with fail
      go_cut [] (fun wx => Hd (Blk wx g5 31 [.string tv0, .bool tv1, .bool tv2, .bool tv3, .bool tv4, .bool tv5, .string tv6, .string tv7, .int .i64 tv8, .int .i64 tv9, .bool tv10, .bool tv11]) ∧ Hd (Blk wx g7 31 [.string tv0, .bool tv1, .bool tv2, .bool tv3, .bool tv4, .bool tv5, .string tv6, .string tv7, .int .i64 tv8, .int .i64 tv9, .bool tv10, .bool tv11]) ∧ Hd (Below w.heap.size w wx))
      case first =>
        have hp := Hd.mk ((Put.refl hB7.out).set 9 (.int .i64 tv9))
        cases tv11
        · go_wp2_with fail
          go_meet
          exact ⟨⟨hp.out.blk hB5'.out hne⟩, ⟨hp.out.here⟩, ⟨hbel11.out.setCell (p := ⟨g7, 9, none⟩) hge10 _⟩⟩
        · go_wp2_with fail
          go_meet
          exact ⟨hB5', hB7, hbel11⟩
      case rest =>
      clear x9 y9 y11 z9 l7 hB5' hB7 hbel11 w11
      obtain ⟨hB5', hB7, hbel11⟩ := hcut
      generalize wc = w13 at *
      have heq := tell_eql tv0 tv6 tv7 tv1 tv2 tv3 tv4 tv5 tv10 tv11 tv8 tv9
      go_wp2_with (go_at_call 11; refine (hal.out _ (hok.below hbel11.out) (her.below hbel11.out)).mono ?_; rintro e w14 ⟨rfl, hb14⟩; have hbel14 := Hd.mk (hbel11.out.trans (hb14.mono hbel11.out.size)); have hE5 := hB5'.out.of_heap (hb14.block _ hB5'.out.lt); have hE7 := hB7.out.of_heap (hb14.block _ hB7.out.lt); have p0 : w14.cell? ⟨g5, 0, none⟩ = some (.string tv0) := hE5.cell 0; have q0 : w14.cell? ⟨g7, 0, none⟩ = some (.string tv0) := hE7.cell 0; have p1 : w14.cell? ⟨g5, 1, none⟩ = some (.bool tv1) := hE5.cell 1; have q1 : w14.cell? ⟨g7, 1, none⟩ = some (.bool tv1) := hE7.cell 1; have p2 : w14.cell? ⟨g5, 2, none⟩ = some (.bool tv2) := hE5.cell 2; have q2 : w14.cell? ⟨g7, 2, none⟩ = some (.bool tv2) := hE7.cell 2; have p3 : w14.cell? ⟨g5, 3, none⟩ = some (.bool tv3) := hE5.cell 3; have q3 : w14.cell? ⟨g7, 3, none⟩ = some (.bool tv3) := hE7.cell 3; have p4 : w14.cell? ⟨g5, 4, none⟩ = some (.bool tv4) := hE5.cell 4; have q4 : w14.cell? ⟨g7, 4, none⟩ = some (.bool tv4) := hE7.cell 4; have p5 : w14.cell? ⟨g5, 5, none⟩ = some (.bool tv5) := hE5.cell 5; have q5 : w14.cell? ⟨g7, 5, none⟩ = some (.bool tv5) := hE7.cell 5; have p6 : w14.cell? ⟨g5, 6, none⟩ = some (.string tv6) := hE5.cell 6; have q6 : w14.cell? ⟨g7, 6, none⟩ = some (.string tv6) := hE7.cell 6; have p7 : w14.cell? ⟨g5, 7, none⟩ = some (.string tv7) := hE5.cell 7; have q7 : w14.cell? ⟨g7, 7, none⟩ = some (.string tv7) := hE7.cell 7; have p8 : w14.cell? ⟨g5, 8, none⟩ = some (.int .i64 tv8) := hE5.cell 8; have q8 : w14.cell? ⟨g7, 8, none⟩ = some (.int .i64 tv8) := hE7.cell 8; have p9 : w14.cell? ⟨g5, 9, none⟩ = some (.int .i64 tv9) := hE5.cell 9; have q9 : w14.cell? ⟨g7, 9, none⟩ = some (.int .i64 tv9) := hE7.cell 9; have p10 : w14.cell? ⟨g5, 10, none⟩ = some (.bool tv10) := hE5.cell 10; have q10 : w14.cell? ⟨g7, 10, none⟩ = some (.bool tv10) := hE7.cell 10; have p11 : w14.cell? ⟨g5, 11, none⟩ = some (.bool tv11) := hE5.cell 11; have q11 : w14.cell? ⟨g7, 11, none⟩ = some (.bool tv11) := hE7.cell 11; replace hE5 := Hd.mk hE5; replace hE7 := Hd.mk hE7; clear hb14)
      go_ret
      exact ⟨rfl, hbel14.out⟩
    · have hbt := Hd.mk fun w1 v1 (h : NumV w1 v1 (x.tdiv E18)) => bits_gt v1 _ w1 h ht200 hT
      generalize chopR x = y at *
      generalize hty : x.tdiv E18 = t at *
      replace hty := Hd.mk hty
      replace hR := Hd.mk hR
      replace hT := Hd.mk hT
      replace hr200 := Hd.mk hr200
      replace ht200 := Hd.mk ht200
      replace hx200 := Hd.mk hx200
      go_wp2_with (first
        | (go_at_call 8; refine (hro.out _ _ r3.out.v0).mono ?_; rintro e w4 ⟨b4, A4, m4, c4, rfl, hn4, hb4⟩; have r4 := Hd.mk ((r3.out.op hb4).add hn4); clear hb4 hn4)
        | (go_at_call 10; refine (hcu.out _ _ r5.out.v1).mono ?_; rintro e w6 ⟨b6, A6, m6, c6, rfl, hn6, hb6⟩; have r6 := Hd.mk ((r5.out.op hb6).add hn6); clear hb6 hn6)
        | (go_at_call 9; refine (hbt.out _ _ r6.out.v0).mono ?_; rintro e w7 ⟨k2, rfl, dj1, dj2, dj3, hb7⟩; have r7 := Hd.mk (r6.out.op hb7); clear hb7)
        | (go_at_call 9; refine (hbr.out _ _ r4.out.v0).mono ?_; rintro e w5 ⟨k1, rfl, dk1, dk2, dk3, hb5⟩; have r5 := Hd.mk (r4.out.op hb5); clear hb5; refine SR.cellK r5.out hC.out ?_; intro g0 g1 gz gy gl)
        | (go_at_call 11; refine (hal.out _ (hok.below r7.out.bel) (her.below r7.out.bel)).mono ?_; rintro e w9 ⟨rfl, hb9⟩; have r9 := Hd.mk (r7.out.op hb9); clear hb9))
      go_ret
      exact ⟨rfl, r9.out.bel⟩
  · have hbr := Hd.mk fun w1 v1 (h : NumV w1 v1 (chopR x)) => bits_gt v1 _ w1 h hr200 hR
    generalize chopR x = y at *
    replace hR := Hd.mk hR
    replace hr200 := Hd.mk hr200
    replace hx200 := Hd.mk hx200
    go_wp2_with (first
      | (go_at_call 8; refine (hro.out _ _ r3.out.v0).mono ?_; rintro e w4 ⟨b4, A4, m4, c4, rfl, hn4, hb4⟩; have r4 := Hd.mk ((r3.out.op hb4).add hn4); clear hb4 hn4)
      | (go_at_call 9; refine (hbr.out _ _ r4.out.v0).mono ?_; rintro e w5 ⟨k1, rfl, dk1, dk2, dk3, hb5⟩; have r5 := Hd.mk (r4.out.op hb5); clear hb5)
      | (go_at_call 11; refine (hal.out _ (hok.below r5.out.bel) (her.below r5.out.bel)).mono ?_; rintro e w9 ⟨rfl, hb9⟩; have r9 := Hd.mk (r5.out.op hb9); clear hb9))
    go_ret
    exact ⟨rfl, r9.out.bel⟩
end Go.Proofs.YtmamfidjigmahaaGreatDoor
