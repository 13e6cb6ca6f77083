/- The reference's numbers: a state of some numbers and some cells that hold numbers, in a function that makes them. The reference's numbers: Cut. The reference's numbers: Rounded. The reference's numbers: Rounded, as the package rounds. The reference's numbers: how many bits. A decimal's text, parted at its point, is read as the decimal: the plain law. No program in sight. Conditions: those that each theorem states. -/
import Derived.Deep.RegionHeld3
import Derived.Deep.DeepCutAuto
import Derived.Test.YtpabbnogfflgpaaGreatDoorBase21
import Derived.Test.YtpabbnogfflgpaaGreatDoorBase13
import Derived.Test.YtpabbnogfflgpaaGreatDoorBase26
import Derived.Test.YtpabbnogfflgpaaGreatDoorBase25
set_option linter.all false

section
namespace Go.Proofs.YtpabbnogfflgpaaGreatDoor
open Go.RowKit
set_option maxRecDepth 100000
theorem NumV.put {w w' : World} {v : Value} {x : Int} {b m c : Nat} {E : TypeId} {b0 : Bool} {A : Option Addr} {ys : List Value} (h : NumV w v x) (hb : Blk w b E [.bool b0, .slice A m c]) (hp : Put w w' b E ys) : NumV w' v x := by
  obtain ⟨d, rfl, A', cap, rfl, h1, h3, h2⟩ := h
  refine ⟨_, rfl, A', cap, rfl, h1, h3, fun h0 => ?_⟩
  obtain ⟨K, o, rfl, h4⟩ := h2 h0
  have hne : K ≠ b := by
    rintro rfl
    have h5 := h4 0 h0
    rw [hb.cell] at h5
    match o, h5 with
    | 0, e => cases e
    | 1, e => cases e
  exact ⟨K, o, rfl, fun i hi => by rw [hp.cell_other hne]; exact h4 i hi⟩
def updC (C : Nat → Option (List Value)) (b : Nat) (vs : List Value) (k : Nat) : Option (List Value) := if k = b then some vs else C k
theorem updC_same {C : Nat → Option (List Value)} {b : Nat} {vs : List Value} : updC C b vs b = some vs := if_pos rfl
theorem updC_ne {C : Nat → Option (List Value)} {b k : Nat} {vs : List Value} (h : k ≠ b) : updC C b vs k = C k := if_neg h
/-- Since w nothing below has changed; the blocks of C hold numbers' cells, the values of N are numbers. -/
structure SR (w wr : World) (C : Nat → Option (List Value)) (N : List (Value × Int)) : Prop where
  bel : Below w.heap.size w wr
  blk : ∀ b vs, C b = some vs → w.heap.size ≤ b ∧ Blk wr b 24 vs
  num : ∀ p, p ∈ N → NumV wr p.1 p.2
section
variable {w wr wx : World} {C : Nat → Option (List Value)} {N : List (Value × Int)} {b : Nat}
theorem SR.start (w : World) (N : List (Value × Int)) (h : ∀ p, p ∈ N → NumV w p.1 p.2) : SR w w (fun _ => none) N := ⟨Below.refl _ _, fun _ _ h => (by cases h), h⟩
theorem SR.op (h : SR w wr C N) (hb : Below wr.heap.size wr wx) : SR w wx C N :=
  ⟨h.bel.trans (hb.mono h.bel.size), fun b vs e => ⟨(h.blk b vs e).1, (h.blk b vs e).2.of_heap (hb.block _ (h.blk b vs e).2.lt)⟩, fun p hp => (h.num p hp).below hb⟩
theorem SR.drew (h : SR w wr C N) : SR w wr.drew C N := h.op (below_drew wr)
theorem SR.box (h : SR w wr C N) (c : Array Value) : SR w (wr.alloc (.cells c 24)) (updC C wr.heap.size c.toList) N := by
  have hb : Below wr.heap.size wr (wr.alloc (.cells c 24)) := (Below.refl _ _).alloc (Nat.le_refl _) _
  have h1 := h.op hb
  refine ⟨h1.bel, fun b vs e => ?_, h1.num⟩
  unfold updC at e
  split at e
  · rename_i hk
    cases e
    subst hk
    exact ⟨h.bel.size, Blk.new wr c 24⟩
  · exact h1.blk b vs e
theorem SR.box2 {b0 : Bool} {A : Option Addr} {m c : Nat} (h : SR w wr C N) : SR w (wr.alloc (.cells #[.bool b0, .slice A m c] 24)) (updC C wr.heap.size [.bool b0, .slice A m c]) N := h.box #[.bool b0, .slice A m c]
theorem SR.set {b0 b1 : Bool} {A A1 : Option Addr} {m c m1 c1 : Nat} (h : SR w wr C N) (hb : C b = some [.bool b0, .slice A m c]) :
    SR w ((wr.setCell ⟨b, 0, none⟩ (.bool b1)).setCell ⟨b, 1, none⟩ (.slice A1 m1 c1)) (updC C b [.bool b1, .slice A1 m1 c1]) N := by
  have hk := h.blk b _ hb
  have hp : Put wr ((wr.setCell ⟨b, 0, none⟩ (.bool b1)).setCell ⟨b, 1, none⟩ (.slice A1 m1 c1)) b 24 [.bool b1, .slice A1 m1 c1] := ((Put.refl hk.2).set 0 (.bool b1)).set 1 (.slice A1 m1 c1)
  refine ⟨h.bel.trans ((hp.below hk.1).mono (Nat.le_refl _)), fun b' vs e => ?_, fun p hq => (h.num p hq).put hk.2 hp⟩
  unfold updC at e
  split at e
  · rename_i hk'
    cases e
    subst hk'
    exact ⟨hk.1, hp.here⟩
  · rename_i hne
    exact ⟨(h.blk b' vs e).1, hp.blk (h.blk b' vs e).2 hne⟩
theorem SR.add {v : Value} {x : Int} (h : SR w wr C N) (hn : NumV wr v x) : SR w wr C ((v, x) :: N) :=
  ⟨h.bel, h.blk, fun p hp => by
    rcases List.mem_cons.1 hp with e | e
    · subst e
      exact hn
    · exact h.num p e⟩
theorem SR.cellK {b0 : Bool} {A : Option Addr} {m c : Nat} {R : Prop} (h : SR w wr C N) (hb : C b = some [.bool b0, .slice A m c])
    (k : wr.cell? ⟨b, 0, none⟩ = some (.bool b0) → wr.cell? ⟨b, 1, none⟩ = some (.slice A m c) → wr.frozen? ⟨b, 0, none⟩ = false → wr.frozen? ⟨b, 1, none⟩ = false → b < wr.heap.size → R) : R :=
  have hk := (h.blk b _ hb).2
  k (hk.cell 0) (hk.cell 1) (hk.frozen 0) (hk.frozen 1) hk.lt
theorem SR.v0 {v : Value} {x : Int} (h : SR w wr C ((v, x) :: N)) : NumV wr v x := h.num _ (List.mem_cons_self ..)
theorem SR.v1 {u v : Value} {x y : Int} (h : SR w wr C ((u, y) :: (v, x) :: N)) : NumV wr v x := h.num (v, x) (List.mem_cons_of_mem _ (List.mem_cons_self ..))
theorem SR.v2 {u v t : Value} {x y z : Int} (h : SR w wr C ((u, y) :: (t, z) :: (v, x) :: N)) : NumV wr v x := h.num (v, x) (List.mem_cons_of_mem _ (List.mem_cons_of_mem _ (List.mem_cons_self ..)))
theorem SR.v3 {u v t s : Value} {x y z o : Int} (h : SR w wr C ((u, y) :: (t, z) :: (s, o) :: (v, x) :: N)) : NumV wr v x := h.num (v, x) (List.mem_cons_of_mem _ (List.mem_cons_of_mem _ (List.mem_cons_of_mem _ (List.mem_cons_self ..))))
theorem SR.two {u v : Value} {x y : Int} (h : SR w wr C N) (hu : NumV wr u y) (hv : NumV wr v x) : SR w wr C [(u, y), (v, x)] :=
  ⟨h.bel, h.blk, fun p hp => by
    rcases List.mem_cons.1 hp with e | e
    · subst e; exact hu
    · cases List.mem_singleton.1 e; exact hv⟩
theorem SREx {C' : Nat → Option (List Value)} {R : (Nat → Option (List Value)) → Prop} (h : SR w wr C' N) (k : R C') : ∃ C, Hd (SR w wr C N) ∧ R C := ⟨C', ⟨h⟩, k⟩
theorem SREx1 {C' : Nat → Option (List Value)} {N' : List (Value × Int)} {v : Value} {x : Int} {R : (Nat → Option (List Value)) → Prop} (h : SR w wr C' N') (hv : (v, x) ∈ N') (k : R C') : ∃ C, Hd (SR w wr C [(v, x)]) ∧ R C := ⟨C', ⟨⟨h.bel, h.blk, fun p hp => by cases List.mem_singleton.1 hp; exact h.num _ hv⟩⟩, k⟩
end
theorem nv2 {P : Program} {g : FuncId} {args : Array Value} {w1 : World} {x y : Int} (h : Calls P g args w1 fun e w' => ∃ v1 v2, e = .returned (.tuple #[v1, v2]) ∧ NumV w' v1 x ∧ NumV w' v2 y ∧ Below w1.heap.size w1 w') :
    Calls P g args w1 fun e w' => ∃ b A m c b2 A2 m2 c2, e = .returned (.tuple #[.agg #[.bool b, .slice A m c], .agg #[.bool b2, .slice A2 m2 c2]]) ∧ NumV w' (.agg #[.bool b, .slice A m c]) x ∧ NumV w' (.agg #[.bool b2, .slice A2 m2 c2]) y ∧ Below w1.heap.size w1 w' :=
  h.mono fun e w' ⟨v1, v2, he, h1, h2, hb⟩ => by
    obtain ⟨A, cap, rfl, _⟩ := h1.open
    obtain ⟨A2, cap2, rfl, _⟩ := h2.open
    exact ⟨_, _, _, _, _, _, _, _, he, h1, h2, hb⟩
end Go.Proofs.YtpabbnogfflgpaaGreatDoor
end

section
namespace Go.Proofs.YtpabbnogfflgpaaGreatDoor
open Go.RowKit
set_option maxRecDepth 100000
set_option maxHeartbeats 4000000 in
theorem cut_any (v : Value) (x : Int) (w : World) (hx : NumV w v x) (hl : T.wlen x.natAbs < 1000) : Calls Tryz.prog 85 #[v] w fun e w' => ∃ v, e = .returned v ∧ NumV w' v (x.tdiv (10 ^ 18)) ∧ Below w.heap.size w w' := by
  obtain ⟨A, cap, rfl, -⟩ := hx.open
  have hpr := Hd.mk fun w1 => nv (prec_any w1)
  have hqr := Hd.mk fun w1 v1 v2 (h1 : NumV w1 v1 x) (h2 : NumV w1 v2 (10 ^ 18)) => nv2 (nquorem_any v1 v2 _ _ w1 h1 h2 hl (by have := wl_10_18; omega) (by decide))
  generalize decide (x < 0) = nb at *
  generalize T.wlen x.natAbs = m at *
  generalize (10 : Int) ^ 18 = X18 at *
  have r0 := SR.start w [(.agg #[.bool nb, .slice A m cap], x)] (fun p hp => by cases List.mem_singleton.1 hp; exact hx)
  have r1 := (r0.box #[.bool nb, .slice A m cap]).box #[.bool false, .slice none 0 0]
  rw [World.size_alloc] at r1
  have hC0 : (updC (updC (fun _ => none) w.heap.size [.bool nb, .slice A m cap]) (w.heap.size + 1) [.bool false, .slice none 0 0]) w.heap.size = some [.bool nb, .slice A m cap] := by rw [updC_ne (by omega)]; exact updC_same
  have hC1 : (updC (updC (fun _ => none) w.heap.size [.bool nb, .slice A m cap]) (w.heap.size + 1) [.bool false, .slice none 0 0]) (w.heap.size + 1) = some [.bool false, .slice none 0 0] := updC_same
  change SR w _ (updC (updC (fun _ => none) w.heap.size [.bool nb, .slice A m cap]) (w.heap.size + 1) [.bool false, .slice none 0 0]) _ at r1
  have s1 : ((w.alloc (.cells #[.bool nb, .slice A m cap] 24)).alloc (.cells #[.bool false, .slice none 0 0] 24)).heap.size ≥ w.heap.size + 2 := by rw [World.size_alloc, World.size_alloc]; omega
  generalize updC (updC (fun _ => none) w.heap.size [.bool nb, .slice A m cap]) (w.heap.size + 1) [.bool false, .slice none 0 0] = C1 at *
  have d0 := (r1.blk _ _ hC0).2.cell 0
  have d1 := (r1.blk _ _ hC0).2.cell 1
  simp only [List.getElem?_cons_succ, List.getElem?_cons_zero] at d0 d1
  replace hC0 := Hd.mk hC0
  replace hC1 := Hd.mk hC1
  replace r1 := Hd.mk r1
  replace hx := Hd.mk hx
  clear r0
  go_enter Tryz.func85, Tryz.ntmps85
  go_wp2
  generalize (w.alloc (.cells #[.bool nb, .slice A m cap] 24)).alloc (.cells #[.bool false, .slice none 0 0] 24) = w1 at *
  go_upto_region 1 with fail
  go_cut [3] (fun t3 wx => ∃ b3 b A m c, t3 = .pointer (some ⟨b3, 0, none⟩) ∧ ∃ C, Hd (SR w wx C [(.agg #[.bool b, .slice A m c], x.tdiv X18)]) ∧ Hd (C b3 = some [.bool b, .slice A m c]) ∧ Hd (C (w.heap.size + 1) = some [.bool false, .slice none 0 0]) ∧ b3 ≠ w.heap.size + 1)
  case first =>
    go_region_held3 (fun wx => wx.cell? ⟨w.heap.size, 0, none⟩ = some (.bool nb) ∧ wx.cell? ⟨w.heap.size, 1, none⟩ = some (.slice A m cap)) ((first | with_reducible exact ⟨d0, d1⟩ | with_reducible exact ⟨k20, k21⟩ | with_reducible exact ⟨k30, k31⟩ | (constructor <;> (repeat first | with_reducible assumption | rw [World.cell?_drew] | (rw [World.cell?_alloc_lt _ _ _ (by (try simp only [World.size_alloc, World.size_drew, World.size_setCell]); show _ < _; omega)]) | rw [World.cell?_setCell_far _ _ _ _ (by (try simp only [World.size_alloc, World.size_drew, World.size_setCell]); show _ ≠ _; omega)])))) (first
      | (go_at_call 12; refine (hpr.out _).mono ?_; skip; rintro e w2 ⟨b2, A2, m2, c2, rfl, hn2, hb2⟩; have r2 := Hd.mk (p := SR _ _ _ _) (by first | exact (r1.out.drew.op hb2).add hn2 | exact ((r1.out.drew.box _).op hb2).add hn2 | exact (((r1.out.drew.box _).box _).op hb2).add hn2); have s2 := hb2.size; (try simp only [World.size_alloc, World.size_drew] at s2); (try simp only [World.size_alloc, World.size_drew, World.size_setCell] at r2); clear hb2; (try (refine SR.cellK r2.out (b := w.heap.size) (b0 := nb) (A := A) (m := m) (c := cap) ?_ ?_; (focus (((try simp only [World.size_alloc, World.size_drew, World.size_setCell]); (repeat first | with_reducible exact updC_same | with_reducible exact hC0.out | with_reducible exact hC1.out | rw [updC_ne (by (try simp only [World.size_alloc, World.size_drew, World.size_setCell]); omega)])); done)); intro k20 k21 k2z k2y k2l)); (try (refine SR.cellK r2.out (b := w1.heap.size) (b0 := false) (A := none) (m := 0) (c := 0) ?_ ?_; (focus (((try simp only [World.size_alloc, World.size_drew, World.size_setCell]); (repeat first | with_reducible exact updC_same | rw [updC_ne (by (try simp only [World.size_alloc, World.size_drew, World.size_setCell]); omega)])); done)); intro a20 a21 a2z a2y a2l)); (try (refine SR.cellK r2.out (b := (w1.heap.size + 1)) (b0 := false) (A := none) (m := 0) (c := 0) ?_ ?_; (focus (((try simp only [World.size_alloc, World.size_drew, World.size_setCell]); (repeat first | with_reducible exact updC_same | rw [updC_ne (by (try simp only [World.size_alloc, World.size_drew, World.size_setCell]); omega)])); done)); intro e20 e21 e2z e2y e2l)))
      | (go_at_call 87; refine (hqr.out _ _ _ ?_ ?_).mono ?_; (first | exact r2.out.v1 | exact (r2.out.box _).v1 | exact ((r2.out.box _).box _).v1); (first | exact r2.out.v0 | exact (r2.out.box _).v0 | exact ((r2.out.box _).box _).v0); rintro e w3 ⟨b3, A3, m3, c3, b4, A4, m4, c4, rfl, hn3, hn4, hb3⟩; have r3 := Hd.mk (p := SR _ _ _ _) (by first | exact ((r2.out.op hb3).add hn3).add hn4 | exact (((r2.out.box _).op hb3).add hn3).add hn4 | exact ((((r2.out.box _).box _).op hb3).add hn3).add hn4); have s3 := hb3.size; (try simp only [World.size_alloc, World.size_drew] at s3); (try simp only [World.size_alloc, World.size_drew, World.size_setCell] at r3); clear hb3; (try (refine SR.cellK r3.out (b := w.heap.size) (b0 := nb) (A := A) (m := m) (c := cap) ?_ ?_; (focus (((try simp only [World.size_alloc, World.size_drew, World.size_setCell]); (repeat first | with_reducible exact updC_same | with_reducible exact hC0.out | with_reducible exact hC1.out | rw [updC_ne (by (try simp only [World.size_alloc, World.size_drew, World.size_setCell]); omega)])); done)); intro k30 k31 k3z k3y k3l)); (try (refine SR.cellK r3.out (b := w1.heap.size) (b0 := false) (A := none) (m := 0) (c := 0) ?_ ?_; (focus (((try simp only [World.size_alloc, World.size_drew, World.size_setCell]); (repeat first | with_reducible exact updC_same | rw [updC_ne (by (try simp only [World.size_alloc, World.size_drew, World.size_setCell]); omega)])); done)); intro a30 a31 a3z a3y a3l)); (try (refine SR.cellK r3.out (b := (w1.heap.size + 1)) (b0 := false) (A := none) (m := 0) (c := 0) ?_ ?_; (focus (((try simp only [World.size_alloc, World.size_drew, World.size_setCell]); (repeat first | with_reducible exact updC_same | rw [updC_ne (by (try simp only [World.size_alloc, World.size_drew, World.size_setCell]); omega)])); done)); intro e30 e31 e3z e3y e3l)); (try (refine SR.cellK r3.out (b := w2.heap.size) (b0 := false) (A := none) (m := 0) (c := 0) ?_ ?_; (focus (((try simp only [World.size_alloc, World.size_drew, World.size_setCell]); (repeat first | with_reducible exact updC_same | rw [updC_ne (by (try simp only [World.size_alloc, World.size_drew, World.size_setCell]); omega)])); done)); intro f30 f31 f3z f3y f3l)); (try (refine SR.cellK r3.out (b := (w2.heap.size + 1)) (b0 := false) (A := none) (m := 0) (c := 0) ?_ ?_; (focus (((try simp only [World.size_alloc, World.size_drew, World.size_setCell]); (repeat first | with_reducible exact updC_same | rw [updC_ne (by (try simp only [World.size_alloc, World.size_drew, World.size_setCell]); omega)])); done)); intro g30 g31 g3z g3y g3l))))
    all_goals
      go_wp2_with fail
      go_meet
      refine ⟨_, b3, A3, m3, c3, rfl, ?_⟩
      apply SREx1
      focus
        (repeat first | with_reducible exact r3.out | with_reducible apply SR.box2 | with_reducible apply SR.set | with_reducible exact updC_same | with_reducible exact hC0.out | with_reducible exact hC1.out | (simp only [World.size_alloc, World.size_drew, World.size_setCell]) | rw [updC_ne (by (try simp only [World.size_alloc, World.size_drew, World.size_setCell]); omega)])
        done
      focus
        exact .tail _ (.head _)
      refine ⟨⟨?_⟩, ⟨?_⟩, ?_⟩
      focus
        (focus (((try simp only [World.size_alloc, World.size_drew, World.size_setCell]); (repeat first | with_reducible exact updC_same | with_reducible exact hC0.out | with_reducible exact hC1.out | rw [updC_ne (by (try simp only [World.size_alloc, World.size_drew, World.size_setCell]); omega)])); done))
      focus
        (focus (((try simp only [World.size_alloc, World.size_drew, World.size_setCell]); (repeat first | with_reducible exact updC_same | with_reducible exact hC0.out | with_reducible exact hC1.out | rw [updC_ne (by (try simp only [World.size_alloc, World.size_drew, World.size_setCell]); omega)])); done))
      (try simp only [World.size_alloc, World.size_drew, World.size_setCell])
      omega
  case rest =>
    obtain ⟨b3, b, A', m', c', rfl, C, hr, hb3, hR, hne⟩ := hcut
    refine SR.cellK hr.out hb3.out ?_
    intro p0 p1 pz py pl
    refine SR.cellK hr.out hR.out ?_
    intro q0 q1 qz qy ql
    have hrs := hr.out.set (b1 := b) (A1 := A') (m1 := m') (c1 := c') hR.out
    have hf := And.intro hrs.v0 hrs.bel
    clear hrs
    replace hf := Hd.mk hf
    go_wp2_with fail
    refine bodyPost_ret (v := .agg #[.bool b, .slice A' m' c']) (by simp [results, Tryz.results85, go_sem, q0, q1, qz, qy]) rfl ⟨_, rfl, hf.out.1, hf.out.2⟩
end Go.Proofs.YtpabbnogfflgpaaGreatDoor
end

section
namespace Go.Proofs.YtpabbnogfflgpaaGreatDoor
open Go.RowKit
set_option maxRecDepth 100000
set_option maxHeartbeats 4000000 in
theorem rounded_walk (v : Value) (x : Int) (w : World) (hx : NumV w v x) (hl : T.wlen x.natAbs < 900) (q r : Nat) (hqv : ((x.natAbs : Nat) : Int).tdiv (10 ^ 18) = (q : Int)) (hrv : ((x.natAbs : Nat) : Int).tmod (10 ^ 18) = (r : Int)) (hlq : T.wlen q < 900) (hlr : T.wlen r < 900) (hlr2 : T.wlen (r + r) < 900) (hlq1 : T.wlen (q + 1) < 900)
    (cm : Int) (hcmv : cmpI ((r : Int) + (r : Int)) (10 ^ 18) = cm) (up neg : Bool) (hneg' : decide (sgn x < 0) = neg) (hup : up = (decide (0 < cm) || (decide (cm = 0) && decide (q % 2 = 1)))) :
    Calls Tryz.prog 141 #[v] w fun e w' => ∃ v, e = .returned v ∧ NumV w' v (if neg = true then -((q + up.toNat : Nat) : Int) else ((q + up.toNat : Nat) : Int)) ∧ Below w.heap.size w w' := by
  obtain ⟨A, cap, rfl, -⟩ := hx.open
  have hpr := Hd.mk fun w1 => nv (prec_any w1)
  have hab := Hd.mk fun w1 v1 (h1 : NumV w1 v1 x) => nv (nabs_any v1 x w1 h1)
  have hqr := Hd.mk fun w1 v1 v2 (h1 : NumV w1 v1 ((x.natAbs : Nat) : Int)) (h2 : NumV w1 v2 (10 ^ 18)) => nv2 (nquorem_any v1 v2 _ _ w1 h1 h2 (by rw [Int.natAbs_natCast]; omega) (by have := wl_10_18; omega) (by decide))
  rw [hqv, hrv] at hqr
  have hpl := Hd.mk fun w1 v1 v2 (h1 : NumV w1 v1 (r : Int)) (h2 : NumV w1 v2 (r : Int)) => nv (nplus_any v1 v2 _ _ w1 h1 h2 (by rw [Int.natAbs_natCast]; omega) (by rw [Int.natAbs_natCast]; omega))
  have hcm := Hd.mk fun w1 v1 v2 (h1 : NumV w1 v1 ((r : Int) + (r : Int))) (h2 : NumV w1 v2 (10 ^ 18)) => ncmpI_any v1 v2 _ _ w1 h1 h2 (by rw [← Int.natCast_add, Int.natAbs_natCast]; omega) (by have := wl_10_18; omega)
  rw [hcmv] at hcm
  have hof := Hd.mk fun w1 => nv (of_nat 1 w1 (by omega))
  have hp1 := Hd.mk fun w1 v1 v2 (h1 : NumV w1 v1 (q : Int)) (h2 : NumV w1 v2 ((1 : Nat) : Int)) => nv (nplus_any v1 v2 _ _ w1 h1 h2 (by rw [Int.natAbs_natCast]; omega) (by rw [Int.natAbs_natCast]; exact Nat.lt_of_le_of_lt (T.wlen_le (n := 1) (by decide)) (by decide)))
  have hsg := Hd.mk fun w1 v1 (h1 : NumV w1 v1 x) => sign_any v1 x w1 h1
  have hmi := Hd.mk fun w1 v1 (h1 : NumV w1 v1 ((q + up.toNat : Nat) : Int)) => nv (minus_any v1 _ w1 h1 (by rw [Int.natAbs_natCast]; cases up <;> simp <;> omega))
  have hcm3 : cm = 1 ∨ cm = 0 ∨ cm = -1 := by rw [← hcmv]; unfold cmpI; split <;> (try split) <;> simp
  have hneg := Hd.mk hneg'
  generalize hz : q + up.toNat = z at *
  replace hz := Hd.mk hz
  clear hneg'
  replace hqv := Hd.mk hqv
  replace hrv := Hd.mk hrv
  replace hcmv := Hd.mk hcmv
  generalize decide (x < 0) = nb at *
  generalize T.wlen x.natAbs = m at *
  generalize (10 : Int) ^ 18 = X18 at *
  have r0 := SR.start w [(.agg #[.bool nb, .slice A m cap], x)] (fun p hp => by cases List.mem_singleton.1 hp; exact hx)
  have r1 := (r0.box #[.bool nb, .slice A m cap]).box #[.bool false, .slice none 0 0]
  rw [World.size_alloc] at r1
  have hC0 : (updC (updC (fun _ => none) w.heap.size [.bool nb, .slice A m cap]) (w.heap.size + 1) [.bool false, .slice none 0 0]) w.heap.size = some [.bool nb, .slice A m cap] := by rw [updC_ne (by omega)]; exact updC_same
  have hC1 : (updC (updC (fun _ => none) w.heap.size [.bool nb, .slice A m cap]) (w.heap.size + 1) [.bool false, .slice none 0 0]) (w.heap.size + 1) = some [.bool false, .slice none 0 0] := updC_same
  change SR w _ (updC (updC (fun _ => none) w.heap.size [.bool nb, .slice A m cap]) (w.heap.size + 1) [.bool false, .slice none 0 0]) _ at r1
  have s1 : ((w.alloc (.cells #[.bool nb, .slice A m cap] 24)).alloc (.cells #[.bool false, .slice none 0 0] 24)).heap.size ≥ w.heap.size + 2 := by rw [World.size_alloc, World.size_alloc]; omega
  generalize updC (updC (fun _ => none) w.heap.size [.bool nb, .slice A m cap]) (w.heap.size + 1) [.bool false, .slice none 0 0] = C1 at *
  have d0 := (r1.blk _ _ hC0).2.cell 0
  have d1 := (r1.blk _ _ hC0).2.cell 1
  simp only [List.getElem?_cons_succ, List.getElem?_cons_zero] at d0 d1
  replace hC0 := Hd.mk hC0
  replace hC1 := Hd.mk hC1
  replace r1 := Hd.mk r1
  replace hx := Hd.mk hx
  replace hup := Hd.mk hup
  clear r0
  go_enter Tryz.func141, Tryz.ntmps141
  go_upto_region 1 with fail
  generalize (w.alloc (.cells #[.bool nb, .slice A m cap] 24)).alloc (.cells #[.bool false, .slice none 0 0] 24) = w1 at *
  go_upto_region 2 with (first
    | (go_at_call 27; refine (hab.out _ _ r1.out.v0).mono ?_; rintro e w2 ⟨b2, A2, m2, c2, rfl, hn2, hb2⟩; have r2 := Hd.mk ((r1.out.op hb2).add hn2); have s2 := hb2.size; clear hb2 hn2)
    | (go_at_call 12; refine (hpr.out _).mono ?_; rintro e w3 ⟨b3, A3, m3, c3, rfl, hn3, hb3⟩; have r3 := Hd.mk ((r2.out.op hb3).add hn3); have s3 := hb3.size; clear hb3 hn3)
    | (go_at_call 87; refine (hqr.out _ _ _ r3.out.v1 r3.out.v0).mono ?_; rintro e w4 ⟨b4, A4, m4, c4, b5, A5, m5, c5, rfl, hn4, hn5, hb4⟩; have r4 := Hd.mk (((r3.out.op hb4).add hn4).add hn5); have s4 := hb4.size; clear hb4 hn4 hn5))
  have r5 := Hd.mk ((r4.out.box2 (b0 := b4) (A := A4) (m := m4) (c := c4)).box2 (b0 := b5) (A := A5) (m := m5) (c := c5))
  rw [World.size_alloc] at r5
  generalize (w4.alloc (.cells #[.bool b4, .slice A4 m4 c4] 24)).alloc (.cells #[.bool b5, .slice A5 m5 c5] 24) = w5 at *
  have h3 : (updC (updC C1 w4.heap.size [.bool b4, .slice A4 m4 c4]) (w4.heap.size + 1) [.bool b5, .slice A5 m5 c5]) w4.heap.size = some [.bool b4, .slice A4 m4 c4] := by rw [updC_ne (by omega)]; exact updC_same
  have h4 : (updC (updC C1 w4.heap.size [.bool b4, .slice A4 m4 c4]) (w4.heap.size + 1) [.bool b5, .slice A5 m5 c5]) (w4.heap.size + 1) = some [.bool b5, .slice A5 m5 c5] := updC_same
  have hB : (updC (updC C1 w4.heap.size [.bool b4, .slice A4 m4 c4]) (w4.heap.size + 1) [.bool b5, .slice A5 m5 c5]) w.heap.size = some [.bool nb, .slice A m cap] := by rw [updC_ne (by omega), updC_ne (by omega)]; exact hC0.out
  have hR : (updC (updC C1 w4.heap.size [.bool b4, .slice A4 m4 c4]) (w4.heap.size + 1) [.bool b5, .slice A5 m5 c5]) (w.heap.size + 1) = some [.bool false, .slice none 0 0] := by rw [updC_ne (by omega), updC_ne (by omega)]; exact hC1.out
  have g34 : w4.heap.size ≥ w.heap.size + 2 := by omega
  replace h3 := Hd.mk h3
  replace h4 := Hd.mk h4
  replace hB := Hd.mk hB
  replace hR := Hd.mk hR
  generalize updC (updC C1 w4.heap.size [.bool b4, .slice A4 m4 c4]) (w4.heap.size + 1) [.bool b5, .slice A5 m5 c5] = C5 at *
  clear r1 r2 r3 r4 d0 d1 hC0 hC1 hab hqr s1 s2 s3 s4
  generalize w4.heap.size = t3 at *
  refine SR.cellK r5.out h4.out ?_
  intro p0 p1 pz py pl
  go_upto_region 3 with (first
    | (go_at_call 28; refine (hpl.out _ _ _ r5.out.v0 r5.out.v0).mono ?_; rintro e w6 ⟨b6, A6, m6, c6, rfl, hn6, hb6⟩; have r6 := Hd.mk ((r5.out.op hb6).add hn6); clear hb6 hn6)
    | (go_at_call 12; refine (hpr.out _).mono ?_; rintro e w7 ⟨b7, A7, m7, c7, rfl, hn7, hb7⟩; have r7 := Hd.mk ((r6.out.op hb7).add hn7); clear hb7 hn7)
    | (go_at_call 18; refine (hcm.out _ _ _ r7.out.v1 r7.out.v0).mono ?_; rintro e w8 ⟨rfl, hb8⟩; have r8 := Hd.mk (r7.out.op hb8); clear hb8))
  clear hpl hpr hcm p0 p1 pz py pl r5 r6 r7 h4
  have hq4 : NumV w8 (.agg #[.bool b4, .slice A4 m4 c4]) (q : Int) := r8.out.num (.agg #[.bool b4, .slice A4 m4 c4], (q : Int)) (.tail _ (.tail _ (.tail _ (.head _))))
  obtain ⟨A', ca', e, hdq⟩ := hq4.open
  rw [Int.natAbs_natCast] at e hdq
  cases e
  replace hq4 := Hd.mk hq4
  replace hdq := Hd.mk hdq
  have hx8 : NumV w8 (.agg #[.bool nb, .slice A m cap]) x := r8.out.num (.agg #[.bool nb, .slice A m cap], x) (.tail _ (.tail _ (.tail _ (.tail _ (.tail _ (.tail _ (.head _)))))))
  rcases hcm3 with rfl | rfl | rfl
  · skip
    have upf : z = q + 1 := by
      rw [← hz.out, hup.out]
      rfl
    have ez : (q : Int) + ((1 : Nat) : Int) = (z : Int) := by rw [upf]; rfl
    replace upf := Hd.mk upf
    replace ez := Hd.mk ez
    have r9 := Hd.mk (SR.two r8.out hq4.out hx8)
    clear hx8
    refine SR.cellK r9.out h3.out ?_
    intro f0 f1 fz fy fl
    go_upto_region 5 with fail
    go_region_law (first
      | (go_simp; go_at_call 33; refine (hof.out _).mono ?_; rintro e w10 ⟨b10, A10, m10, c10, rfl, hn10, hb10⟩; have r10 := Hd.mk (((r9.out.drew).op hb10).add hn10); clear hb10 hn10; refine SR.cellK r10.out h3.out ?_; intro g0 g1 gz gy gl)
      | (go_simp; go_at_call 28; refine (hp1.out _ _ _ r10.out.v1 r10.out.v0).mono ?_; rintro e w11 ⟨b11, A11, m11, c11, rfl, hn11, hb11⟩; rw [ez.out] at hn11; have r11 := Hd.mk (SR.two (r10.out.op hb11) hn11 (r10.out.op hb11).v2); clear hb11 hn11; refine SR.cellK r11.out h3.out ?_; intro i0 i1 iz iy il))
    all_goals
      have r12 := Hd.mk (r11.out.set (b1 := b11) (A1 := A11) (m1 := m11) (c1 := c11) h3.out)
      have h3' : Hd (updC C5 t3 [.bool b11, .slice A11 m11 c11] t3 = some [.bool b11, .slice A11 m11 c11]) := ⟨updC_same⟩
      have hB' : Hd (updC C5 t3 [.bool b11, .slice A11 m11 c11] w.heap.size = some [.bool nb, .slice A m cap]) := ⟨by rw [updC_ne (by omega)]; exact hB.out⟩
      have hR' : Hd (updC C5 t3 [.bool b11, .slice A11 m11 c11] (w.heap.size + 1) = some [.bool false, .slice none 0 0]) := ⟨by rw [updC_ne (by omega)]; exact hR.out⟩
      generalize updC C5 t3 [.bool b11, .slice A11 m11 c11] = C6 at *
      clear f0 f1 fz fy fl i0 i1 iz iy il
      (try clear g0 g1 gz gy gl)
      generalize (w11.setCell ⟨t3, 0, none⟩ (.bool b11)).setCell ⟨t3, 1, none⟩ (.slice A11 m11 c11) = w12 at *
      refine SR.cellK r12.out hB'.out ?_
      intro p0 p1 pz py pl
      cases neg
      · have dn := hneg.out
        go_wp2_with (first | (go_at_call 25; refine (hsg.out _ _ r12.out.v1).mono ?_; rintro e w15 ⟨rfl, hb15⟩; have r15 := Hd.mk (r12.out.op hb15); clear hb15; refine SR.cellK r15.out h3'.out ?_; intro k0 k1 kz ky kl; refine SR.cellK r15.out hR'.out ?_; intro q0 q1 qz qy ql))
        have hf := r15.out.set hR'.out (b1 := b11) (A1 := A11) (m1 := m11) (c1 := c11)
        have hf2 := Hd.mk (And.intro hf.v0 hf.bel)
        clear hf
        refine bodyPost_ret (v := .agg #[.bool b11, .slice A11 m11 c11]) (by simp [results, Tryz.results141, go_sem, q0, q1, qz, qy]) rfl ⟨_, rfl, hf2.out.1, hf2.out.2⟩
      · have dn := hneg.out
        go_wp2_with (first | (go_at_call 25; refine (hsg.out _ _ r12.out.v1).mono ?_; rintro e w15 ⟨rfl, hb15⟩; have r15 := Hd.mk (r12.out.op hb15); clear hb15; refine SR.cellK r15.out h3'.out ?_; intro k0 k1 kz ky kl) | (go_at_call 83; refine (hmi.out _ _ r15.out.v0).mono ?_; rintro e w13 ⟨b13, A13, m13, c13, rfl, hn13, hb13⟩; have r13 := Hd.mk ((r15.out.op hb13).add hn13); clear hb13 hn13; refine SR.cellK r13.out hR'.out ?_; intro q0 q1 qz qy ql))
        have hf := r13.out.set hR'.out (b1 := b13) (A1 := A13) (m1 := m13) (c1 := c13)
        have hf2 := Hd.mk (And.intro hf.v0 hf.bel)
        clear hf
        refine bodyPost_ret (v := .agg #[.bool b13, .slice A13 m13 c13]) (by simp [results, Tryz.results141, go_sem, q0, q1, qz, qy]) rfl ⟨_, rfl, hf2.out.1, hf2.out.2⟩
  · refine SR.cellK r8.out h3.out ?_
    intro f0 f1 fz fy fl
    by_cases hq0 : q = 0
    · have hw0 : T.wlen q = 0 := by rw [hq0]; exact Nat.le_zero.1 (T.wlen_le (n := 0) (by decide))
      have dl : decide ((0 : Int) < ((T.wlen q : Nat) : Int)) = false := decide_eq_false (by omega)
      have dn0 : decide (0 < T.wlen q) = false := decide_eq_false (by omega)
      have dn1 : ¬ (0 < T.wlen q) := by omega
      replace hw0 := Hd.mk hw0
      have upf : z = q := by
        rw [← hz.out, hup.out]
        rw [hq0]; rfl
      have hqz : NumV w8 (.agg #[.bool (decide ((q : Int) < 0)), .slice A4 (T.wlen q) c4]) (z : Int) := by rw [upf]; exact hq4.out
      replace upf := Hd.mk upf
      have r9 := Hd.mk (SR.two r8.out hqz hx8)
      clear hqz hx8
      replace hq0 := Hd.mk hq0
      refine SR.cellK r9.out hB.out ?_
      intro p0 p1 pz py pl
      cases neg
      · have dn := hneg.out
        go_wp2_with (first | (go_at_call 25; refine (hsg.out _ _ r9.out.v1).mono ?_; rintro e w15 ⟨rfl, hb15⟩; have r15 := Hd.mk (r9.out.op hb15); clear hb15; refine SR.cellK r15.out h3.out ?_; intro k0 k1 kz ky kl; refine SR.cellK r15.out hR.out ?_; intro q0 q1 qz qy ql))
        have hf := r15.out.set hR.out (b1 := (decide ((q : Int) < 0))) (A1 := A4) (m1 := (T.wlen q)) (c1 := c4)
        have hf2 := Hd.mk (And.intro hf.v0 hf.bel)
        clear hf
        refine bodyPost_ret (v := .agg #[.bool (decide ((q : Int) < 0)), .slice A4 (T.wlen q) c4]) (by simp [results, Tryz.results141, go_sem, q0, q1, qz, qy]) rfl ⟨_, rfl, hf2.out.1, hf2.out.2⟩
      · have dn := hneg.out
        go_wp2_with (first | (go_at_call 25; refine (hsg.out _ _ r9.out.v1).mono ?_; rintro e w15 ⟨rfl, hb15⟩; have r15 := Hd.mk (r9.out.op hb15); clear hb15; refine SR.cellK r15.out h3.out ?_; intro k0 k1 kz ky kl) | (go_at_call 83; refine (hmi.out _ _ r15.out.v0).mono ?_; rintro e w13 ⟨b13, A13, m13, c13, rfl, hn13, hb13⟩; have r13 := Hd.mk ((r15.out.op hb13).add hn13); clear hb13 hn13; refine SR.cellK r13.out hR.out ?_; intro q0 q1 qz qy ql))
        have hf := r13.out.set hR.out (b1 := b13) (A1 := A13) (m1 := m13) (c1 := c13)
        have hf2 := Hd.mk (And.intro hf.v0 hf.bel)
        clear hf
        refine bodyPost_ret (v := .agg #[.bool b13, .slice A13 m13 c13]) (by simp [results, Tryz.results141, go_sem, q0, q1, qz, qy]) rfl ⟨_, rfl, hf2.out.1, hf2.out.2⟩
    · have hw0 : 0 < T.wlen q := Nat.pos_of_ne_zero fun h => hq0 (by have h9 := (T.wlen_le_iff 0 q).1 (by omega); simp at h9; exact h9)
      have dl : decide ((0 : Int) < ((T.wlen q : Nat) : Int)) = true := decide_eq_true (by omega)
      obtain ⟨A', cap', e, g1, g2, g3⟩ := hdq.out
      cases e
      obtain ⟨K, o, rfl, hcell⟩ := g3 hw0
      have cd := hcell 0 hw0
      have hd10 := T.dig_lt q 0
      have hd2 : T.dig q 0 % 2 = q % 2 := by
        have e : T.dig q 0 = q % 10 := by show q / 10 ^ 0 % 10 = q % 10; rw [Nat.pow_zero, Nat.div_one]
        omega
      rw [Nat.add_zero] at cd
      generalize T.dig q 0 = d at *
      rcases Nat.mod_two_eq_zero_or_one q with h2 | h2
      · have dd : ((d : Int) % 2 == 1) = false := by rw [beq_eq_false_iff_ne]; omega
        have hs0 : ¬ (q % 2 = 1) := by omega
        clear hd2
        have upf : z = q := by
          rw [← hz.out, hup.out]
          rw [h2]; rfl
        have hqz : NumV w8 (.agg #[.bool (decide ((q : Int) < 0)), .slice (some ⟨K, o, none⟩) (T.wlen q) c4]) (z : Int) := by rw [upf]; exact hq4.out
        replace upf := Hd.mk upf
        have r9 := Hd.mk (SR.two r8.out hqz hx8)
        clear hqz hx8 h2 hs0
        refine SR.cellK r9.out hB.out ?_
        intro p0 p1 pz py pl
        cases neg
        · have dn := hneg.out
          go_wp2_with (first | (go_at_call 25; refine (hsg.out _ _ r9.out.v1).mono ?_; rintro e w15 ⟨rfl, hb15⟩; have r15 := Hd.mk (r9.out.op hb15); clear hb15; refine SR.cellK r15.out h3.out ?_; intro k0 k1 kz ky kl; refine SR.cellK r15.out hR.out ?_; intro q0 q1 qz qy ql))
          have hf := r15.out.set hR.out (b1 := (decide ((q : Int) < 0))) (A1 := (some ⟨K, o, none⟩)) (m1 := (T.wlen q)) (c1 := c4)
          have hf2 := Hd.mk (And.intro hf.v0 hf.bel)
          clear hf
          refine bodyPost_ret (v := .agg #[.bool (decide ((q : Int) < 0)), .slice (some ⟨K, o, none⟩) (T.wlen q) c4]) (by simp [results, Tryz.results141, go_sem, q0, q1, qz, qy]) rfl ⟨_, rfl, hf2.out.1, hf2.out.2⟩
        · have dn := hneg.out
          go_wp2_with (first | (go_at_call 25; refine (hsg.out _ _ r9.out.v1).mono ?_; rintro e w15 ⟨rfl, hb15⟩; have r15 := Hd.mk (r9.out.op hb15); clear hb15; refine SR.cellK r15.out h3.out ?_; intro k0 k1 kz ky kl) | (go_at_call 83; refine (hmi.out _ _ r15.out.v0).mono ?_; rintro e w13 ⟨b13, A13, m13, c13, rfl, hn13, hb13⟩; have r13 := Hd.mk ((r15.out.op hb13).add hn13); clear hb13 hn13; refine SR.cellK r13.out hR.out ?_; intro q0 q1 qz qy ql))
          have hf := r13.out.set hR.out (b1 := b13) (A1 := A13) (m1 := m13) (c1 := c13)
          have hf2 := Hd.mk (And.intro hf.v0 hf.bel)
          clear hf
          refine bodyPost_ret (v := .agg #[.bool b13, .slice A13 m13 c13]) (by simp [results, Tryz.results141, go_sem, q0, q1, qz, qy]) rfl ⟨_, rfl, hf2.out.1, hf2.out.2⟩
      · have dd : ((d : Int) % 2 == 1) = true := by rw [beq_iff_eq]; omega
        clear hd2
        have upf : z = q + 1 := by
          rw [← hz.out, hup.out]
          rw [h2]; rfl
        have ez : (q : Int) + ((1 : Nat) : Int) = (z : Int) := by rw [upf]; rfl
        replace upf := Hd.mk upf
        replace ez := Hd.mk ez
        have r9 := Hd.mk (SR.two r8.out hq4.out hx8)
        clear hx8 h2
        refine SR.cellK r9.out h3.out ?_
        intro f0 f1 fz fy fl
        go_upto_region 5 with fail
        go_region_law (first
          | (go_simp; go_at_call 33; refine (hof.out _).mono ?_; rintro e w10 ⟨b10, A10, m10, c10, rfl, hn10, hb10⟩; have r10 := Hd.mk (((r9.out.drew).op hb10).add hn10); clear hb10 hn10; refine SR.cellK r10.out h3.out ?_; intro g0 g1 gz gy gl)
          | (go_simp; go_at_call 28; refine (hp1.out _ _ _ r10.out.v1 r10.out.v0).mono ?_; rintro e w11 ⟨b11, A11, m11, c11, rfl, hn11, hb11⟩; rw [ez.out] at hn11; have r11 := Hd.mk (SR.two (r10.out.op hb11) hn11 (r10.out.op hb11).v2); clear hb11 hn11; refine SR.cellK r11.out h3.out ?_; intro i0 i1 iz iy il))
        all_goals
          have r12 := Hd.mk (r11.out.set (b1 := b11) (A1 := A11) (m1 := m11) (c1 := c11) h3.out)
          have h3' : Hd (updC C5 t3 [.bool b11, .slice A11 m11 c11] t3 = some [.bool b11, .slice A11 m11 c11]) := ⟨updC_same⟩
          have hB' : Hd (updC C5 t3 [.bool b11, .slice A11 m11 c11] w.heap.size = some [.bool nb, .slice A m cap]) := ⟨by rw [updC_ne (by omega)]; exact hB.out⟩
          have hR' : Hd (updC C5 t3 [.bool b11, .slice A11 m11 c11] (w.heap.size + 1) = some [.bool false, .slice none 0 0]) := ⟨by rw [updC_ne (by omega)]; exact hR.out⟩
          generalize updC C5 t3 [.bool b11, .slice A11 m11 c11] = C6 at *
          clear f0 f1 fz fy fl i0 i1 iz iy il
          (try clear g0 g1 gz gy gl)
          generalize (w11.setCell ⟨t3, 0, none⟩ (.bool b11)).setCell ⟨t3, 1, none⟩ (.slice A11 m11 c11) = w12 at *
          refine SR.cellK r12.out hB'.out ?_
          intro p0 p1 pz py pl
          cases neg
          · have dn := hneg.out
            go_wp2_with (first | (go_at_call 25; refine (hsg.out _ _ r12.out.v1).mono ?_; rintro e w15 ⟨rfl, hb15⟩; have r15 := Hd.mk (r12.out.op hb15); clear hb15; refine SR.cellK r15.out h3'.out ?_; intro k0 k1 kz ky kl; refine SR.cellK r15.out hR'.out ?_; intro q0 q1 qz qy ql))
            have hf := r15.out.set hR'.out (b1 := b11) (A1 := A11) (m1 := m11) (c1 := c11)
            have hf2 := Hd.mk (And.intro hf.v0 hf.bel)
            clear hf
            refine bodyPost_ret (v := .agg #[.bool b11, .slice A11 m11 c11]) (by simp [results, Tryz.results141, go_sem, q0, q1, qz, qy]) rfl ⟨_, rfl, hf2.out.1, hf2.out.2⟩
          · have dn := hneg.out
            go_wp2_with (first | (go_at_call 25; refine (hsg.out _ _ r12.out.v1).mono ?_; rintro e w15 ⟨rfl, hb15⟩; have r15 := Hd.mk (r12.out.op hb15); clear hb15; refine SR.cellK r15.out h3'.out ?_; intro k0 k1 kz ky kl) | (go_at_call 83; refine (hmi.out _ _ r15.out.v0).mono ?_; rintro e w13 ⟨b13, A13, m13, c13, rfl, hn13, hb13⟩; have r13 := Hd.mk ((r15.out.op hb13).add hn13); clear hb13 hn13; refine SR.cellK r13.out hR'.out ?_; intro q0 q1 qz qy ql))
            have hf := r13.out.set hR'.out (b1 := b13) (A1 := A13) (m1 := m13) (c1 := c13)
            have hf2 := Hd.mk (And.intro hf.v0 hf.bel)
            clear hf
            refine bodyPost_ret (v := .agg #[.bool b13, .slice A13 m13 c13]) (by simp [results, Tryz.results141, go_sem, q0, q1, qz, qy]) rfl ⟨_, rfl, hf2.out.1, hf2.out.2⟩
  · skip
    have upf : z = q := by
      rw [← hz.out, hup.out]
      rfl
    have hqz : NumV w8 (.agg #[.bool (decide ((q : Int) < 0)), .slice A4 (T.wlen q) c4]) (z : Int) := by rw [upf]; exact hq4.out
    replace upf := Hd.mk upf
    have r9 := Hd.mk (SR.two r8.out hqz hx8)
    clear hqz hx8
    refine SR.cellK r9.out hB.out ?_
    intro p0 p1 pz py pl
    cases neg
    · have dn := hneg.out
      go_wp2_with (first | (go_at_call 25; refine (hsg.out _ _ r9.out.v1).mono ?_; rintro e w15 ⟨rfl, hb15⟩; have r15 := Hd.mk (r9.out.op hb15); clear hb15; refine SR.cellK r15.out h3.out ?_; intro k0 k1 kz ky kl; refine SR.cellK r15.out hR.out ?_; intro q0 q1 qz qy ql))
      have hf := r15.out.set hR.out (b1 := (decide ((q : Int) < 0))) (A1 := A4) (m1 := (T.wlen q)) (c1 := c4)
      have hf2 := Hd.mk (And.intro hf.v0 hf.bel)
      clear hf
      refine bodyPost_ret (v := .agg #[.bool (decide ((q : Int) < 0)), .slice A4 (T.wlen q) c4]) (by simp [results, Tryz.results141, go_sem, q0, q1, qz, qy]) rfl ⟨_, rfl, hf2.out.1, hf2.out.2⟩
    · have dn := hneg.out
      go_wp2_with (first | (go_at_call 25; refine (hsg.out _ _ r9.out.v1).mono ?_; rintro e w15 ⟨rfl, hb15⟩; have r15 := Hd.mk (r9.out.op hb15); clear hb15; refine SR.cellK r15.out h3.out ?_; intro k0 k1 kz ky kl) | (go_at_call 83; refine (hmi.out _ _ r15.out.v0).mono ?_; rintro e w13 ⟨b13, A13, m13, c13, rfl, hn13, hb13⟩; have r13 := Hd.mk ((r15.out.op hb13).add hn13); clear hb13 hn13; refine SR.cellK r13.out hR.out ?_; intro q0 q1 qz qy ql))
      have hf := r13.out.set hR.out (b1 := b13) (A1 := A13) (m1 := m13) (c1 := c13)
      have hf2 := Hd.mk (And.intro hf.v0 hf.bel)
      clear hf
      refine bodyPost_ret (v := .agg #[.bool b13, .slice A13 m13 c13]) (by simp [results, Tryz.results141, go_sem, q0, q1, qz, qy]) rfl ⟨_, rfl, hf2.out.1, hf2.out.2⟩
end Go.Proofs.YtpabbnogfflgpaaGreatDoor
end

section
namespace Go.Proofs.YtpabbnogfflgpaaGreatDoor
open Go.RowKit
set_option maxRecDepth 100000
theorem chopP_rnd (q r : Nat) (n : Nat) (hq : q = n / 1000000000000000000) (hr : r = n % 1000000000000000000) (cm : Int) (hcm : cmpI ((r : Int) + (r : Int)) 1000000000000000000 = cm) (u : Bool)
    (hu : u = (decide (0 < cm) || (decide (cm = 0) && decide (q % 2 = 1)))) : ((q + u.toNat : Nat) : Int) = chopP (n : Int) := by
  unfold chopP E18
  rcases Int.lt_trichotomy ((r : Int) + (r : Int)) 1000000000000000000 with h | h | h
  · rw [cmpI_lt h] at hcm
    subst hcm
    have : u = false := by rw [hu]; rfl
    subst this
    rw [if_pos (by omega)]
    simp only [Bool.toNat_false]
    omega
  · rw [h, cmpI_eq] at hcm
    subst hcm
    rw [if_neg (by omega), if_neg (by omega)]
    by_cases h2 : q % 2 = 1
    · have : u = true := by rw [hu, decide_eq_true h2]; rfl
      subst this
      rw [if_neg (by omega)]
      simp only [Bool.toNat_true]
      omega
    · have : u = false := by rw [hu, decide_eq_false h2]; rfl
      subst this
      rw [if_pos (by omega)]
      simp only [Bool.toNat_false]
      omega
  · rw [cmpI_gt h] at hcm
    subst hcm
    have : u = true := by rw [hu]; rfl
    subst this
    rw [if_neg (by omega), if_pos (by omega)]
    simp only [Bool.toNat_true]
    omega
theorem rounded_any (v : Value) (x : Int) (w : World) (hx : NumV w v x) (hl : x.natAbs < 10 ^ 200) : Calls Tryz.prog 141 #[v] w fun e w' => ∃ v, e = .returned v ∧ NumV w' v (chopR x) ∧ Below w.heap.size w w' := by
  have e18 : ((10 : Int) ^ 18) = ((1000000000000000000 : Nat) : Int) := by decide
  have b1 : x.natAbs / 1000000000000000000 ≤ x.natAbs := Nat.div_le_self _ _
  have b2 : x.natAbs % 1000000000000000000 < 1000000000000000000 := Nat.mod_lt _ (by decide)
  have big : (10 : Nat) ^ 200 < 10 ^ 201 := by decide
  have hw : ∀ m : Nat, m ≤ 10 ^ 200 → T.wlen m < 900 := fun m h => Nat.lt_of_le_of_lt (T.wlen_le (n := 201) (Nat.lt_of_le_of_lt h (by unfold T.BB; exact big))) (by decide)
  have g18 : (2000000000000000000 : Nat) ≤ 10 ^ 200 := by decide
  have h := rounded_walk v x w hx (hw _ (by omega)) (x.natAbs / 1000000000000000000) (x.natAbs % 1000000000000000000) (by rw [e18, Int.ofNat_tdiv]) (by rw [e18, Int.ofNat_tmod]) (hw _ (by omega)) (hw _ (by omega)) (hw _ (by omega)) (hw _ (by omega)) _ rfl _ _ rfl rfl
  refine h.mono ?_
  rintro e w' ⟨v', he, hn, hb⟩
  refine ⟨v', he, ?_, hb⟩
  have hk := chopP_rnd _ _ x.natAbs rfl rfl (cmpI (((x.natAbs % 1000000000000000000 : Nat) : Int) + ((x.natAbs % 1000000000000000000 : Nat) : Int)) (10 ^ 18)) (by rw [e18]; rfl) _ rfl
  rw [hk] at hn
  have e : (if decide (sgn x < 0) = true then -chopP (x.natAbs : Int) else chopP (x.natAbs : Int)) = chopR x := by
    unfold chopR sgn
    by_cases h0 : x < 0
    · rw [if_pos h0, if_pos h0, show ((x.natAbs : Nat) : Int) = -x by omega]
      rfl
    · rw [if_neg h0, if_neg h0, show ((x.natAbs : Nat) : Int) = x by omega]
      split <;> rfl
  rw [e] at hn
  exact hn
theorem cut18_any (v : Value) (x : Int) (w : World) (hx : NumV w v x) (hl : x.natAbs < 10 ^ 200) : Calls Tryz.prog 85 #[v] w fun e w' => ∃ v, e = .returned v ∧ NumV w' v (x.tdiv E18) ∧ Below w.heap.size w w' :=
  cut_any v x w hx (Nat.lt_of_le_of_lt (T.wlen_le (n := 200) (by unfold T.BB; exact hl)) (by decide))
end Go.Proofs.YtpabbnogfflgpaaGreatDoor
end

section
namespace Go.Proofs.YtpabbnogfflgpaaGreatDoor
open Go.RowKit
set_option maxRecDepth 100000
theorem ten_two (k : Nat) : 10 ^ k ≤ 2 ^ (4 * k) := by rw [Nat.pow_mul]; exact Nat.pow_le_pow_left (by decide) k
theorem wl200 {m : Nat} (h : m < 10 ^ 200) : T.wlen m < 900 := Nat.lt_of_le_of_lt (T.wlen_le (n := 200) (by unfold T.BB; exact h)) (by decide)
set_option maxHeartbeats 4000000 in
theorem bits_any (v : Value) (x : Int) (w : World) (hx : NumV w v x) (hl : x.natAbs < 10 ^ 200) :
    Calls Tryz.prog 32 #[v] w fun e w' => ∃ k : Nat, e = .returned (.int .i64 k) ∧ (∀ j, k ≤ j ↔ x.natAbs < 2 ^ j) ∧ Below w.heap.size w w' := by
  obtain ⟨A, cap, rfl, -⟩ := hx.open
  have hab := Hd.mk fun w1 v1 (h1 : NumV w1 v1 x) => nv (nabs_any v1 x w1 h1)
  obtain ⟨M, hM, hM9⟩ : ∃ M : Nat, x.natAbs < 2 ^ M ∧ M < 100000 := ⟨4 * 200, Nat.lt_of_lt_of_le hl (ten_two 200), by decide⟩
  have hze := Hd.mk fun w1 v1 (y : Nat) (h1 : NumV w1 v1 (y : Int)) => zero_any v1 _ w1 h1
  have hof := Hd.mk fun w1 => nv (of_nat 2 w1 (by omega))
  have hqr := Hd.mk fun w1 v1 v2 (y : Nat) (hy : y < 10 ^ 200) (h1 : NumV w1 v1 (y : Int)) (h2 : NumV w1 v2 ((2 : Nat) : Int)) => nv2 (nquorem_any v1 v2 _ _ w1 h1 h2 (by rw [Int.natAbs_natCast]; have := wl200 hy; omega) (by rw [Int.natAbs_natCast]; exact wl200 (by decide)) (by decide))
  generalize decide (x < 0) = nb at *
  generalize T.wlen x.natAbs = m at *
  have r0 := SR.start w [(.agg #[.bool nb, .slice A m cap], x)] (fun p hp => by cases List.mem_singleton.1 hp; exact hx)
  have r1 := r0.box2 (b0 := nb) (A := A) (m := m) (c := cap)
  have hB0 : (updC (fun _ => none) w.heap.size [.bool nb, .slice A m cap]) w.heap.size = some [.bool nb, .slice A m cap] := updC_same
  generalize updC (fun _ => none) w.heap.size [.bool nb, .slice A m cap] = C1 at *
  have d0 := (r1.blk _ _ hB0).2.cell 0
  have d1 := (r1.blk _ _ hB0).2.cell 1
  simp only [List.getElem?_cons_succ, List.getElem?_cons_zero] at d0 d1
  replace r1 := Hd.mk r1
  replace hx := Hd.mk hx
  replace hB0 := Hd.mk hB0
  clear r0
  generalize hn : x.natAbs = n at *
  replace hn := Hd.mk hn
  replace hl := Hd.mk hl
  replace hM := Hd.mk hM
  go_enter Tryz.func32, Tryz.ntmps32
  go_upto_region 2 with fail
  generalize w.alloc (.cells #[.bool nb, .slice A m cap] 24) = w1 at *
  go_upto_region 3 with (go_at_call 27; refine (hab.out _ _ r1.out.v0).mono ?_; rintro e w2 ⟨b2, A2, m2, c2, rfl, hn2, hb2⟩; have r2 := Hd.mk (SR.two (r1.out.op hb2) hn2 (r1.out.op hb2).v0); clear hb2 hn2)
  have r3 := Hd.mk (r2.out.box2 (b0 := b2) (A := A2) (m := m2) (c := c2))
  have hB3 : (updC C1 w2.heap.size [.bool b2, .slice A2 m2 c2]) w2.heap.size = some [.bool b2, .slice A2 m2 c2] := updC_same
  generalize w2.alloc (.cells #[.bool b2, .slice A2 m2 c2] 24) = w3 at *
  generalize updC C1 w2.heap.size [.bool b2, .slice A2 m2 c2] = C3 at *
  obtain ⟨vx, hvx⟩ : ∃ vx : Value, vx = .agg #[.bool nb, .slice A m cap] := ⟨_, rfl⟩
  rw [← hvx] at r3
  go_loopw [3, 4] (fun i t4 wr => ∃ k b4 : Nat, ∃ b A m c, i = .int .i64 k ∧ t4 = .pointer (some ⟨b4, 0, none⟩) ∧ k ≤ M ∧ Hd (∀ j, j < k → n / 2 ^ j ≠ 0) ∧ ∃ C, Hd (SR w wr C [(.agg #[.bool b, .slice A m c], ((n / 2 ^ k : Nat) : Int)), (vx, x)]) ∧ Hd (C b4 = some [.bool b, .slice A m c])) (fun i _ _ => M - (intOf i).toNat)
  case atStart => exact ⟨0, w2.heap.size, b2, A2, m2, c2, rfl, rfl, Nat.zero_le _, ⟨fun j h => absurd h (Nat.not_lt_zero _)⟩, C3, ⟨by rw [Nat.pow_zero, Nat.div_one]; exact r3.out⟩, ⟨hB3⟩⟩
  case round =>
    obtain ⟨k, b4, b, A', m', c', rfl, rfl, hk, hall, C, hr, hC⟩ := hrel
    refine SR.cellK hr.out hC.out ?_
    intro f0 f1 fz fy fl
    by_cases hy0 : n / 2 ^ k = 0
    · have hlt : n < 2 ^ k := (Nat.div_eq_zero_iff_lt (Nat.pow_pos (by decide))).1 hy0
      have hfin : ∀ j, k ≤ j ↔ n < 2 ^ j := fun j => ⟨fun h => Nat.lt_of_lt_of_le hlt (Nat.pow_le_pow_right (by decide) h), fun h => by
        rcases Nat.lt_or_ge j k with h' | h'
        · exact absurd (Nat.div_eq_of_lt h) (hall.out j h')
        · exact h'⟩
      have dz : decide (((n / 2 ^ k : Nat) : Int) = 0) = true := decide_eq_true (by rw [hy0]; rfl)
      replace hlt := Hd.mk hlt
      replace hfin := Hd.mk hfin
      replace hy0 := Hd.mk hy0
      generalize n / 2 ^ k = y at *
      go_wp2_with (go_at_call 71; refine (hze.out _ _ _ hr.out.v0).mono ?_; rw [dz]; rintro e w5 ⟨rfl, hb5⟩; have r5 := Hd.mk (hr.out.op hb5); clear hb5)
      go_ret
      exact ⟨k, rfl, hfin.out, r5.out.bel⟩
    · have dz : decide (((n / 2 ^ k : Nat) : Int) = 0) = false := decide_eq_false (by omega)
      have hkM : k < M := by
        rcases Nat.lt_or_ge k M with h | h
        · exact h
        · exact absurd (Nat.div_eq_of_lt (Nat.lt_of_lt_of_le hM.out (Nat.pow_le_pow_right (by decide) h))) hy0
      have hnx : n / 2 ^ (k + 1) = n / 2 ^ k / 2 := by rw [Nat.pow_succ, Nat.div_div_eq_div_mul]
      have hall2 : ∀ j, j < k + 1 → n / 2 ^ j ≠ 0 := fun j hj => by
        rcases Nat.lt_or_ge j k with h | h
        · exact hall.out j h
        · rw [show j = k by omega]; exact hy0
      have hyl : n / 2 ^ k < 10 ^ 200 := Nat.lt_of_le_of_lt (Nat.div_le_self _ _) hl.out
      have hwk : IntKind.i64.wrap ((k : Int) + 1) = (k : Int) + 1 := IntWalk.i64_in _ (by omega)
      replace hnx := Hd.mk hnx
      replace hall2 := Hd.mk hall2
      replace hyl := Hd.mk hyl
      replace hy0 := Hd.mk hy0
      generalize n / 2 ^ k = y at *
      have hq2 : ((y : Nat) : Int).tdiv ((2 : Nat) : Int) = ((y / 2 : Nat) : Int) := (Int.ofNat_tdiv _ _).symm
      have hqy := Hd.mk fun w1 v1 v2 (h1 : NumV w1 v1 (y : Int)) (h2 : NumV w1 v2 ((2 : Nat) : Int)) => hqr.out w1 v1 v2 y hyl.out h1 h2
      rw [hq2] at hqy
      clear hq2
      go_upto_region 5 with (go_at_call 71; refine (hze.out _ _ _ hr.out.v0).mono ?_; rw [dz]; rintro e w5 ⟨rfl, hb5⟩; have r5 := Hd.mk (hr.out.op hb5); clear hb5; refine SR.cellK r5.out hC.out ?_; intro g0 g1 gz gy gl)
      go_region_law (first
        | (go_simp; go_at_call 33; refine (hof.out _).mono ?_; rintro e w6 ⟨b6, A6, m6, c6, rfl, hn6, hb6⟩; have r6 := Hd.mk (((r5.out.drew).op hb6).add hn6); clear hb6 hn6; refine SR.cellK r6.out hC.out ?_; intro h0 h1 hz hy hl)
        | (go_simp; go_at_call 87; refine (hqy.out _ _ _ r6.out.v1 r6.out.v0).mono ?_; rintro e w7 ⟨b7, A7, m7, c7, b8, A8, m8, c8, rfl, hn7, hn8, hb7⟩; have r7 := Hd.mk (SR.two (r6.out.op hb7) hn7 (r6.out.op hb7).v2); clear hb7 hn7 hn8; refine SR.cellK r7.out hC.out ?_; intro i0 i1 iz iy il))
      all_goals
        have r8 := Hd.mk (r7.out.set (b1 := b7) (A1 := A7) (m1 := m7) (c1 := c7) hC.out)
        have hC8 : Hd (updC C b4 [.bool b7, .slice A7 m7 c7] b4 = some [.bool b7, .slice A7 m7 c7]) := ⟨updC_same⟩
        generalize updC C b4 [.bool b7, .slice A7 m7 c7] = C8 at *
        clear f0 f1 fz fy fl g0 g1 gz gy gl i0 i1 iz iy il
        (try clear h0 h1 hz hy hl)
        generalize (w7.setCell ⟨b4, 0, none⟩ (.bool b7)).setCell ⟨b4, 1, none⟩ (.slice A7 m7 c7) = w8 at *
        refine SR.cellK r8.out hC8.out ?_
        intro p0 p1 pz py pl
        go_wp2_with fail
        go_roundw
        case rel => exact ⟨k + 1, _, b7, A7, m7, c7, by first | rfl | simp, rfl, hkM, hall2, _, ⟨by rw [hnx.out]; exact r8.out.box2⟩, ⟨updC_same⟩⟩
        case measure => simp [intOf]; omega
end Go.Proofs.YtpabbnogfflgpaaGreatDoor
end

section
namespace Go.Proofs.YtpabbnogfflgpaaGreatDoor
open Go.RowKit
/-- What stands ahead of the point, and behind it. -/
def aL (t : List Nat) : List Nat := if t.length ≤ 18 then [48] else t.take (t.length - 18)
def fL (t : List Nat) : List Nat := if t.length ≤ 18 then List.replicate (18 - t.length) 48 ++ t else t.drop (t.length - 18)
theorem ptL_af (t : List Nat) : ptL t = aL t ++ [46] ++ fL t := by
  unfold ptL aL fL
  split <;> simp
theorem fL_len (t : List Nat) : (fL t).length = 18 := by
  unfold fL
  split
  · simp; omega
  · simp; omega
theorem aL_ne (t : List Nat) : aL t ≠ [] := by
  unfold aL
  split
  · simp
  · intro h
    have := congrArg List.length h
    simp at this
    omega
theorem aL_D {t : List Nat} (h : ∀ b, b ∈ t → isD b) {b : Nat} (hb : b ∈ aL t) : isD b := by
  unfold aL at hb
  split at hb
  · cases List.mem_singleton.1 hb
    exact ⟨by omega, by omega⟩
  · exact h b (List.mem_of_mem_take hb)
theorem fL_D {t : List Nat} (h : ∀ b, b ∈ t → isD b) {b : Nat} (hb : b ∈ fL t) : isD b := by
  unfold fL at hb
  split at hb
  · rcases List.mem_append.1 hb with hb | hb
    · cases (List.mem_replicate.1 hb).2
      exact ⟨by omega, by omega⟩
    · exact h b hb
  · exact h b (List.mem_of_mem_drop hb)
theorem nums_af (t : List Nat) : nums (aL t ++ fL t) = nums t := by
  unfold aL fL
  split
  · rw [nums_app, nums_app, nums_zeros]
    show nums [48] * _ + _ = _
    rw [show nums [48] = 0 from rfl]
    simp
  · rw [List.take_append_drop]
theorem isD_lt {l : List Nat} (h : ∀ b, b ∈ l → isD b) : ∀ b, b ∈ l → b < 256 := fun b hb => by have := (h b hb).2; omega
theorem ch_mkT {l : List Nat} (h : ∀ b, b ∈ l → b < 256) (j : Nat) : ch (mkT l) j = l.getD j 0 := by unfold ch; rw [bts_mkT h]
theorem mkT_ext {l : List Nat} (h : ∀ b, b ∈ l → b < 256) (i j : Nat) : (mkT l).extract i j = mkT ((l.take j).drop i) :=
  bts_inj (by rw [bts_ext, bts_mkT h, bts_mkT fun b hb => h b (List.mem_of_mem_take (List.mem_of_mem_drop hb))])
theorem Spl_pt {a f : List Nat} (ha : ∀ b, b ∈ a → isD b) (hf : ∀ b, b ∈ f → isD b) : Spl (mkT (a ++ [46] ++ f)) [mkT a, mkT f] := by
  have h46 : ∀ b, isD b → b ≠ 46 := fun b h e => by have := h.1; omega
  have hl : ∀ b, b ∈ a ++ [46] ++ f → b < 256 := fun b hb => by
    rcases List.mem_append.1 hb with hb | hb
    · rcases List.mem_append.1 hb with hb | hb
      · exact isD_lt ha b hb
      · cases List.mem_singleton.1 hb; omega
    · exact isD_lt hf b hb
  have e1 : (mkT (a ++ [46] ++ f)).extract 0 a.length = mkT a := by rw [mkT_ext hl]; simp
  have e2 : (mkT (a ++ [46] ++ f)).extract (a.length + 1) (mkT (a ++ [46] ++ f)).size = mkT f := by
    rw [mkT_ext hl, mkT_size, List.take_length]
    congr 1
    rw [show a.length + 1 = (a ++ [46]).length by simp, List.drop_left]
  have h := Spl.more (mkT (a ++ [46] ++ f)) a.length [mkT f] (by rw [mkT_size]; simp) (fun j hj => by
    rw [ch_mkT hl, List.getD_eq_getElem?_getD, List.append_assoc, List.getElem?_append_left hj, List.getElem?_eq_getElem hj]
    exact h46 _ (ha _ (List.getElem_mem hj))) (by
    rw [ch_mkT hl, List.getD_eq_getElem?_getD, List.append_assoc, List.getElem?_append_right (Nat.le_refl _), Nat.sub_self]
    rfl) (by
    rw [e2]
    refine Spl.one _ fun j hj => ?_
    rw [mkT_size] at hj
    rw [ch_mkT (isD_lt hf), List.getD_eq_getElem?_getD, List.getElem?_eq_getElem hj]
    exact h46 _ (hf _ (List.getElem_mem hj)))
  rw [e1] at h
  exact h
theorem unm_decL (x : Int) : unm (mkT (decL x)) = (decide (x < 0), mkT (ptL (dtxt false x.natAbs))) := by
  have hD : ∀ b, b ∈ dtxt false x.natAbs → isD b := fun b hb => dtxt_isD hb
  have hp : ∀ b, b ∈ ptL (dtxt false x.natAbs) → b < 256 := fun b hb => by
    rw [ptL_af] at hb
    rcases List.mem_append.1 hb with hb | hb
    · rcases List.mem_append.1 hb with hb | hb
      · exact isD_lt (fun b => aL_D hD) b hb
      · cases List.mem_singleton.1 hb; omega
    · exact isD_lt (fun b => fL_D hD) b hb
  unfold decL unm
  by_cases h : x < 0
  · rw [if_pos h, decide_eq_true h]
    have hl : ∀ b, b ∈ [45] ++ ptL (dtxt false x.natAbs) → b < 256 := fun b hb => by
      rcases List.mem_append.1 hb with hb | hb
      · cases List.mem_singleton.1 hb; omega
      · exact hp b hb
    rw [if_pos ⟨by rw [mkT_size]; simp, by rw [ch_mkT hl]; rfl⟩, mkT_ext hl, mkT_size, List.take_length]
    rfl
  · rw [if_neg h, decide_eq_false h, List.nil_append]
    rw [if_neg]
    rintro ⟨-, h2⟩
    rw [ch_mkT hp, ptL_af] at h2
    cases ha : aL (dtxt false x.natAbs) with
    | nil => exact aL_ne _ ha
    | cons b l =>
      rw [ha] at h2
      have hb := aL_D hD (b := b) (by rw [ha]; exact List.mem_cons_self ..)
      have h3 : b = 45 := h2
      have := hb.1
      omega
theorem decZ_decL (x : Int) : decZ (decide (x < 0)) (mkT (aL (dtxt false x.natAbs))) (mkT (fL (dtxt false x.natAbs))) = x := by
  have hD : ∀ b, b ∈ dtxt false x.natAbs → isD b := fun b hb => dtxt_isD hb
  unfold decZ
  rw [bts_mkT (isD_lt fun b => aL_D hD), bts_mkT (isD_lt fun b => fL_D hD), mkT_size, fL_len, Nat.sub_self]
  simp only [List.replicate_zero, List.append_nil]
  rw [nums_af, nums_dtxt]
  by_cases h : x < 0
  · rw [decide_eq_true h, if_pos rfl]; omega
  · rw [decide_eq_false h, if_neg (by simp)]; omega
end Go.Proofs.YtpabbnogfflgpaaGreatDoor
end
