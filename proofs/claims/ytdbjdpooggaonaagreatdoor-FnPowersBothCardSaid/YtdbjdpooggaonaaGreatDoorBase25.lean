/- The thin package: an operation of two decimals. Texts: the first point, the parts between points. A decimal of a text. The thin package: a decimal's text parsed. Ints appended to texts. Conditions: those that each theorem states. -/
import Derived.Test.YtdbjdpooggaonaaGreatDoorBase23
import Derived.Deep.AppendLies
import Derived.Laws.OwnMore
import Derived.OwnWalk
import Derived.Test.YtdbjdpooggaonaaGreatDoorBase22
import Derived.Test.YtdbjdpooggaonaaGreatDoorBase17
import Derived.Shelf.Strings.Repeat
import Derived.Test.YtdbjdpooggaonaaGreatDoorBase12
import Derived.Deep.RegionLaw
set_option linter.all false

section
namespace Go.Proofs.YtdbjdpooggaonaaGreatDoor
open Go.RowKit
set_option maxRecDepth 100000
theorem C2.below {w0 w w' : World} {B R : Nat} (h : C2 w w' B R) (hb : Below w0.heap.size w0 w) (h1 : w0.heap.size ≤ B) (h2 : w0.heap.size ≤ R) : Below w0.heap.size w0 w' :=
  ⟨h.os.trans hb.os, h.tape.trans hb.tape, h.output.trans hb.output, Nat.le_trans hb.size h.size, fun k hk => (h.block k (Nat.lt_of_lt_of_le hk hb.size) (by omega) (by omega)).trans (hb.block k hk)⟩
theorem Put.bel {w0 w w' : World} {b : Nat} {E : TypeId} {ys : List Value} (hp : Put w w' b E ys) (hb : Below w0.heap.size w0 w) (h1 : w0.heap.size ≤ b) : Below w0.heap.size w0 w' :=
  ⟨hp.os.trans hb.os, hp.tape.trans hb.tape, hp.output.trans hb.output, by rw [hp.size]; exact hb.size, fun k hk => (hp.other k (by omega)).trans (hb.block k hk)⟩
theorem below_drew' {B : Nat} {w w' : World} (h : Below B w w') : Below B w w'.drew := ⟨h.os, h.tape, h.output, h.size, h.block⟩
/-- The boxes of an operation. -/
abbrev opW (w : World) (k : Int) (a b : ByteArray) (m : Bool) : World :=
  (((((w.alloc (.cells #[.int .i64 k] 3)).alloc (.cells #[.string a] 9)).alloc (.cells #[.string b] 9)).alloc (.cells #[.bool m] 4)).alloc (.cells #[.string (ByteArray.mk #[])] 9)).alloc (.cells #[.bool false] 4)
theorem opW_size (w : World) (k : Int) (a b : ByteArray) (m : Bool) : (opW w k a b m).heap.size = w.heap.size + 6 := by simp only [World.size_alloc]
theorem opW_below (w : World) (k : Int) (a b : ByteArray) (m : Bool) : Below w.heap.size w (opW w k a b m) :=
  (((((((Below.refl _ _).alloc (Nat.le_refl _) _).alloc (by simp only [World.size_alloc]; omega) _).alloc (by simp only [World.size_alloc]; omega) _).alloc (by simp only [World.size_alloc]; omega) _).alloc (by simp only [World.size_alloc]; omega) _).alloc (by simp only [World.size_alloc]; omega) _)
theorem opW_blk (w : World) (k : Int) (a b : ByteArray) (m : Bool) : Blk (opW w k a b m) w.heap.size 3 [.int .i64 k] ∧ Blk (opW w k a b m) (w.heap.size + 1) 9 [.string a] ∧ Blk (opW w k a b m) (w.heap.size + 2) 9 [.string b] ∧ Blk (opW w k a b m) (w.heap.size + 3) 4 [.bool m] ∧ Blk (opW w k a b m) (w.heap.size + 4) 9 [.string (ByteArray.mk #[])] ∧ Blk (opW w k a b m) (w.heap.size + 5) 4 [.bool false] := by
  have h1 := Blk.new w #[.int .i64 k] 3
  have h2 := Blk.new (w.alloc (.cells #[.int .i64 k] 3)) #[.string a] 9
  have h3 := Blk.new ((w.alloc (.cells #[.int .i64 k] 3)).alloc (.cells #[.string a] 9)) #[.string b] 9
  have h4 := Blk.new (((w.alloc (.cells #[.int .i64 k] 3)).alloc (.cells #[.string a] 9)).alloc (.cells #[.string b] 9)) #[.bool m] 4
  have h5 := Blk.new ((((w.alloc (.cells #[.int .i64 k] 3)).alloc (.cells #[.string a] 9)).alloc (.cells #[.string b] 9)).alloc (.cells #[.bool m] 4)) #[.string (ByteArray.mk #[])] 9
  have h6 := Blk.new (((((w.alloc (.cells #[.int .i64 k] 3)).alloc (.cells #[.string a] 9)).alloc (.cells #[.string b] 9)).alloc (.cells #[.bool m] 4)).alloc (.cells #[.string (ByteArray.mk #[])] 9)) #[.bool false] 4
  simp only [World.size_alloc] at h1 h2 h3 h4 h5 h6
  exact ⟨((((h1.alloc _).alloc _).alloc _).alloc _).alloc _, (((h2.alloc _).alloc _).alloc _).alloc _, ((h3.alloc _).alloc _).alloc _, (h4.alloc _).alloc _, h5.alloc _, h6⟩
/-- What the closure of an operation is asked. -/
def OpCl (k : Int) (a b : ByteArray) (m : Bool) (R : Ending → World → Nat → Nat → Prop) : Prop := ∀ ba bb bo bm bu bk w, Ok w → Er w → Blk w ba 9 [.string a] → Blk w bb 9 [.string b] → Blk w bo 3 [.int .i64 k] → Blk w bm 4 [.bool m] → Blk w bu 9 [.string (ByteArray.mk #[])] → Blk w bk 4 [.bool false] →
  (ba ≠ bu ∧ ba ≠ bk ∧ bb ≠ bu ∧ bb ≠ bk ∧ bo ≠ bu ∧ bo ≠ bk ∧ bm ≠ bu ∧ bm ≠ bk ∧ bu ≠ bk) → 16 ≤ bu → 16 ≤ bk →
  Calls Tryz.prog 95 #[ptr ba, ptr bb, ptr bo, ptr bm, ptr bu, ptr bk] w fun e w' => C2 w w' bu bk ∧ R e w' bu bk
set_option maxHeartbeats 2000000 in
theorem DecOp_ok (k : Int) (a b z : ByteArray) (m kp : Bool) (w : World) (hok : Ok w) (her : Er w) (hcl : OpCl k a b m fun e w' bu bk => e = .returned (.tuple #[]) ∧ Blk w' bu 9 [.string z] ∧ Blk w' bk 4 [.bool kp]) :
    Calls Tryz.prog 27 #[.int .i64 k, .string a, .string b, .bool m] w fun e w' => e = .returned (.tuple #[.string z, .bool true, .bool kp]) ∧ Below w.heap.size w w' := by
  obtain ⟨h1, h2, h3, h4, h5, h6⟩ := opW_blk w k a b m
  have hb1 := opW_below w k a b m
  have hs1 := opW_size w k a b m
  have h100 := hok.2
  generalize hW : opW w k a b m = w1 at *
  have hb2 : Below w1.heap.size w1 (okW w1) := (Below.refl _ _).alloc (Nat.le_refl _) _
  have hb3 := hb1.trans (hb2.mono hb1.size)
  have hs2 : (okW w1).heap.size = w1.heap.size + 1 := World.size_alloc _ _
  have hc := hcl (w.heap.size + 1) (w.heap.size + 2) w.heap.size (w.heap.size + 3) (w.heap.size + 4) (w.heap.size + 5) (okW w1) (hok.below hb3) (her.below hb3) (h2.alloc _) (h3.alloc _) (h1.alloc _) (h4.alloc _) (h5.alloc _) (h6.alloc _) (by omega) (by omega) (by omega)
  have hsf := Hd.mk (safe_ok 95 _ w1 (fun w2 => C2 (okW w1) w2 (w.heap.size + 4) (w.heap.size + 5) ∧ Blk w2 (w.heap.size + 4) 9 [.string z] ∧ Blk w2 (w.heap.size + 5) 4 [.bool kp]) (enters Tryz.func95 (by kernel_rfl) (by kernel_rfl)) (hc.mono fun e w2 ⟨q1, q2, q3, q4⟩ => ⟨q2, q1.block _ (by omega) (by omega) (by omega), q1, q3, q4⟩))
  have hfin : Hd (∀ w2 w3, C2 (okW w1) w2 (w.heap.size + 4) (w.heap.size + 5) → Put w2 w3 w1.heap.size 4 [.bool true] → Below w.heap.size w w3) := ⟨fun w2 w3 q1 q2 => q2.bel (q1.below hb3 (by omega) (by omega)) hb1.size⟩
  have hmf : ∀ (fn : Fn) (first cap : Array Value) (w : World), (Instr.makeFunc fn first cap).run Tryz.prog w = .ok (.func fn first cap) w := fun _ _ _ _ => rfl
  have hne : w.heap.size + 4 ≠ w1.heap.size ∧ w.heap.size + 5 ≠ w1.heap.size := by omega
  clear hcl hc h1 h2 h3 h4 h5 h6 hb1 hb2 hb3 hok her
  go_enter Tryz.func27, Tryz.ntmps27
  go_wp2_with fail
  refine hsf.out.mono ?_
  rintro e w3 ⟨rfl, w2, ⟨hc2, hu2, hk2⟩, hp3⟩
  have hb3 := Hd.mk (hfin.out w2 w3 hc2 hp3)
  have hu3 := hp3.blk hu2 hne.1
  have hk3 := hp3.blk hk2 hne.2
  have cu : w3.cell? ⟨w.heap.size + 1 + 1 + 1 + 1, 0, none⟩ = some (.string z) := hu3.cell 0
  have ck : w3.cell? ⟨w.heap.size + 1 + 1 + 1 + 1 + 1, 0, none⟩ = some (.bool kp) := hk3.cell 0
  have zu : w3.frozen? ⟨w.heap.size + 1 + 1 + 1 + 1, 0, none⟩ = false := hu3.frozen 0
  have zk : w3.frozen? ⟨w.heap.size + 1 + 1 + 1 + 1 + 1, 0, none⟩ = false := hk3.frozen 0
  have lu : w.heap.size + 1 + 1 + 1 + 1 < w3.heap.size := hu3.lt
  have lk : w.heap.size + 1 + 1 + 1 + 1 + 1 < w3.heap.size := hk3.lt
  clear hu3 hk3 hu2 hk2 hc2 hp3 hsf hfin
  go_wp2_with fail
  go_region
  all_goals
    go_wp2
    refine bodyPost_ret (v := .tuple #[.string z, .bool true, .bool kp]) (by simp [results, Tryz.results27, go_sem, cu, ck, zu, zk, lu, lk]) rfl ⟨rfl, below_drew' ?_⟩
    (repeat first | exact hb3.out | refine Below.setCell ?_ (by dsimp only; omega) _)
set_option maxHeartbeats 2000000 in
theorem DecOp_pan (k : Int) (a b : ByteArray) (m : Bool) (w : World) (hok : Ok w) (her : Er w) (hcl : OpCl k a b m fun e w' bu bk => Pan e ∧ (∃ z, Blk w' bu 9 [.string z]) ∧ ∃ kp, Blk w' bk 4 [.bool kp]) :
    Calls Tryz.prog 27 #[.int .i64 k, .string a, .string b, .bool m] w fun e w' => e = .returned (.tuple #[.string (ByteArray.mk #[]), .bool false, .bool false]) ∧ Below w.heap.size w w' := by
  obtain ⟨h1, h2, h3, h4, h5, h6⟩ := opW_blk w k a b m
  have hb1 := opW_below w k a b m
  have hs1 := opW_size w k a b m
  have h100 := hok.2
  generalize hW : opW w k a b m = w1 at *
  have hb2 : Below w1.heap.size w1 (okW w1) := (Below.refl _ _).alloc (Nat.le_refl _) _
  have hb3 := hb1.trans (hb2.mono hb1.size)
  have hs2 : (okW w1).heap.size = w1.heap.size + 1 := World.size_alloc _ _
  have hc := hcl (w.heap.size + 1) (w.heap.size + 2) w.heap.size (w.heap.size + 3) (w.heap.size + 4) (w.heap.size + 5) (okW w1) (hok.below hb3) (her.below hb3) (h2.alloc _) (h3.alloc _) (h1.alloc _) (h4.alloc _) (h5.alloc _) (h6.alloc _) (by omega) (by omega) (by omega)
  have hsf := Hd.mk (safe_pan 95 _ w1 (fun w2 => C2 (okW w1) w2 (w.heap.size + 4) (w.heap.size + 5) ∧ (∃ z, Blk w2 (w.heap.size + 4) 9 [.string z]) ∧ ∃ kp, Blk w2 (w.heap.size + 5) 4 [.bool kp]) (enters Tryz.func95 (by kernel_rfl) (by kernel_rfl)) (hc.mono fun e w2 ⟨q1, q2, q3, q4⟩ => ⟨q2, q1.block _ (by omega) (by omega) (by omega), q1, q3, q4⟩))
  have hfin : Hd (∀ w2 w3, C2 (okW w1) w2 (w.heap.size + 4) (w.heap.size + 5) → Put w2 w3 w1.heap.size 4 [.bool false] → Below w.heap.size w w3) := ⟨fun w2 w3 q1 q2 => q2.bel (q1.below hb3 (by omega) (by omega)) hb1.size⟩
  have hmf : ∀ (fn : Fn) (first cap : Array Value) (w : World), (Instr.makeFunc fn first cap).run Tryz.prog w = .ok (.func fn first cap) w := fun _ _ _ _ => rfl
  have hne : w.heap.size + 4 ≠ w1.heap.size ∧ w.heap.size + 5 ≠ w1.heap.size := by omega
  clear hcl hc h1 h2 h3 h4 h5 h6 hb1 hb2 hb3 hok her
  go_enter Tryz.func27, Tryz.ntmps27
  go_wp2_with fail
  refine hsf.out.mono ?_
  rintro e w3 ⟨rfl, w2, ⟨hc2, ⟨z, hu2⟩, ⟨kp, hk2⟩⟩, hp3⟩
  have hb3 := Hd.mk (hfin.out w2 w3 hc2 hp3)
  have hu3 := hp3.blk hu2 hne.1
  have hk3 := hp3.blk hk2 hne.2
  have cu : w3.cell? ⟨w.heap.size + 1 + 1 + 1 + 1, 0, none⟩ = some (.string z) := hu3.cell 0
  have ck : w3.cell? ⟨w.heap.size + 1 + 1 + 1 + 1 + 1, 0, none⟩ = some (.bool kp) := hk3.cell 0
  have zu : w3.frozen? ⟨w.heap.size + 1 + 1 + 1 + 1, 0, none⟩ = false := hu3.frozen 0
  have zk : w3.frozen? ⟨w.heap.size + 1 + 1 + 1 + 1 + 1, 0, none⟩ = false := hk3.frozen 0
  have lu : w.heap.size + 1 + 1 + 1 + 1 < w3.heap.size := hu3.lt
  have lk : w.heap.size + 1 + 1 + 1 + 1 + 1 < w3.heap.size := hk3.lt
  clear hu3 hk3 hu2 hk2 hc2 hp3 hsf hfin
  go_wp2
  refine bodyPost_ret (v := .tuple #[.string (ByteArray.mk #[]), .bool false, .bool false]) (by simp [results, Tryz.results27, go_sem, cu, ck, zu, zk, lu, lk]) rfl ⟨rfl, ?_⟩
  (repeat first | exact hb3.out | refine Below.setCell ?_ (by dsimp only; omega) _)
end Go.Proofs.YtdbjdpooggaonaaGreatDoor
end

section
namespace Go.Proofs.YtdbjdpooggaonaaGreatDoor
open Go.RowKit
set_option maxRecDepth 100000
/-- The parts of a text between its points. -/
inductive Spl : ByteArray → List ByteArray → Prop
  | one (s : ByteArray) : (∀ j, j < s.size → ch s j ≠ 46) → Spl s [s]
  | more (s : ByteArray) (i : Nat) (l : List ByteArray) : i < s.size → (∀ j, j < i → ch s j ≠ 46) → ch s i = 46 → Spl (s.extract (i + 1) s.size) l → Spl s (s.extract 0 i :: l)
/-- A row of texts of the call's own. -/
structure OwS (w0 wr : World) (v : Value) (l : List ByteArray) : Prop where
  row : wr.ownsRow w0.heap.size 9 1 v l.length (l.map Value.string)
  bel : Below w0.heap.size w0 wr
theorem OwS.nil (w : World) : OwS w w (.slice none 0 0) [] := ⟨World.ownsRow_nil _ _ _ _, Below.refl _ _⟩
end Go.Proofs.YtdbjdpooggaonaaGreatDoor
end

section
namespace Go.Proofs.YtdbjdpooggaonaaGreatDoor
open Go.RowKit
set_option maxRecDepth 100000
theorem OwS.open {w0 wr : World} {v : Value} {l : List ByteArray} (h : OwS w0 wr v l) (h0 : l ≠ []) : ∃ g cap, v = .slice (some ⟨g, 0, none⟩) l.length cap ∧ l.length ≤ cap ∧ ∀ i c, l[i]? = some c → wr.cell? ⟨g, i, none⟩ = some (.string c) := by
  rcases h.row.2 with ⟨h1, h2⟩ | ⟨g, cap, cur, h1, h3, h4, h5, h6, h7, h8⟩
  · exact absurd (List.length_eq_zero_iff.1 h2) h0
  · refine ⟨g, cap, h1, h5, fun i c hc => ?_⟩
    rw [cell_of_row wr g i cur _ _ h4]
    have hi : i < l.length := (List.getElem?_eq_some_iff.1 hc).1
    have h9 : (l.map Value.string)[i]? = some (.string c) := by rw [List.getElem?_map, hc]; rfl
    rw [← h8, List.getElem?_take_of_lt (by omega)] at h9
    simpa using h9
end Go.Proofs.YtdbjdpooggaonaaGreatDoor
end

section
namespace Go.Proofs.YtdbjdpooggaonaaGreatDoor
open Go.RowKit
set_option maxRecDepth 100000
/-- The boxes of a parsing. -/
abbrev paW (w : World) (s : ByteArray) : World := ((w.alloc (.cells #[.string s] 9)).alloc (.cells #[.string (ByteArray.mk #[])] 9)).alloc (.cells #[.bool false] 4)
theorem paW_below (w : World) (s : ByteArray) : Below w.heap.size w (paW w s) := (((Below.refl _ _).alloc (Nat.le_refl _) _).alloc (by simp only [World.size_alloc]; omega) _).alloc (by simp only [World.size_alloc]; omega) _
theorem paW_blk (w : World) (s : ByteArray) : Blk (paW w s) w.heap.size 9 [.string s] ∧ Blk (paW w s) (w.heap.size + 1) 9 [.string (ByteArray.mk #[])] ∧ Blk (paW w s) (w.heap.size + 2) 4 [.bool false] := by
  have h1 := Blk.new w #[.string s] 9
  have h2 := Blk.new (w.alloc (.cells #[.string s] 9)) #[.string (ByteArray.mk #[])] 9
  have h3 := Blk.new ((w.alloc (.cells #[.string s] 9)).alloc (.cells #[.string (ByteArray.mk #[])] 9)) #[.bool false] 4
  simp only [World.size_alloc] at h1 h2 h3
  exact ⟨(h1.alloc _).alloc _, h2.alloc _, h3⟩
end Go.Proofs.YtdbjdpooggaonaaGreatDoor
end

section
namespace Go.Proofs.YtdbjdpooggaonaaGreatDoor
open Go.RowKit
set_option maxRecDepth 100000
def txtV (t : List Nat) : List Value := t.map fun (c : Nat) => Value.int .u8 (c : Int)
theorem own_txt {w : World} {base g n cap : Nat} {t : List Nat} (h : w.ownsRow base 5 1 (.slice (some ⟨g, 0, none⟩) n cap) n (txtV t)) : TxtAt w g 0 t ∧ base ≤ g ∧ n ≤ cap := by
  rcases h.2 with ⟨h1, h2⟩ | ⟨g', cap', cur, h1, h3, h4, h5, h6, h7, h8⟩
  · cases h1
  · cases h1
    refine ⟨fun j c hj => ?_, h3, h5⟩
    rw [Nat.zero_add, cell_of_row w g j cur _ _ h4]
    have hl : (txtV t).length = n := by have := h.1; omega
    have hj' : j < t.length := (List.getElem?_eq_some_iff.1 hj).1
    have h9 : (txtV t)[j]? = some (.int .u8 (c : Int)) := by unfold txtV; rw [List.getElem?_map, hj]; rfl
    have hn : j < n := by unfold txtV at hl; rw [List.length_map] at hl; omega
    rw [← h8, List.getElem?_take_of_lt (by omega)] at h9
    simpa using h9
set_option maxHeartbeats 2000000 in
theorem IAppend_any (P : Nat → Prop) (B : Nat) (x : Int) (S : Nat → Option Int) (w : World) (hI : Ints P w S) (hx : S B = some x) (hw : wlen x.natAbs ≤ 8) :
    Calls Tryz.prog 244 #[ptr B, .slice none 0 0, .int .i64 10] w fun e w' => ∃ g cap, e = .returned (.slice (some ⟨g, 0, none⟩) (ztx x).length cap) ∧ (ztx x).length ≤ cap ∧ TxtAt w' g 0 (ztx x) ∧ w.heap.size ≤ g ∧ Below w.heap.size w w' := by
  have hg := hI.gl
  obtain ⟨own, hst⟩ := hI
  obtain ⟨A, cap, hb, hn, g0, g1, h3, h4⟩ := (hst.at_ B x hx).open
  have hit := fun w1 (hb1 : Below w.heap.size w w1) => itoa_any _ x.natAbs (decide (x < 0)) (own B) w1 (hn.below hb1) hw (hg.below hb1)
  have hz : (decide (x < 0) && x.natAbs != 0) = decide (x < 0) := by
    by_cases h : x < 0
    · rw [decide_eq_true h]; simp; omega
    · rw [decide_eq_false h]; rfl
  rw [hz] at hit
  have hzt : dtxt (decide (x < 0)) x.natAbs = ztx x := rfl
  have hzl : (ztx x).length ≤ 1000 ∧ 0 < (ztx x).length := by
    have h1 : x.natAbs < 10 ^ 170 := Nat.lt_of_lt_of_le ((wlen_le_iff 8 _).1 hw) (by decide)
    have h2 := dlen_pos x.natAbs
    have h3 : dlen x.natAbs ≤ 170 := by
      by_cases h0 : x.natAbs = 0
      · rw [h0, dlen_small (by decide)]; omega
      · exact dlen_le_of h1 h0
    rw [ztx_length]; split <;> omega
  have hzc : ∀ c, c ∈ ztx x → c < 256 := fun c hc => ztx_lt hc
  rw [hzt] at hit
  generalize decide (x < 0) = nb at *
  generalize ztx x = t at *
  replace hit := Hd.mk hit
  replace hst := Hd.mk hst
  replace hn := Hd.mk hn
  replace hb := Hd.mk hb
  replace hg := Hd.mk hg
  replace hz := Hd.mk hz
  replace hzt := Hd.mk hzt
  replace hx := Hd.mk hx
  replace hzl := Hd.mk hzl
  replace hzc := Hd.mk hzc
  obtain ⟨i8, hi8, hz8, hsz8, hby8⟩ := u8info
  go_enter Tryz.func244, Tryz.ntmps244
  go_wp2
  go_region_law (first
    | (refine step_append_lies _ rfl (.tmp 11) (.tmp 21) 22 rfl w.heap.size 5 i8 (.int .u8 0) 1 1 Tryz.underlying22 hi8 hz8 hsz8 hby8 rfl (by decide) (.slice none 0 0) 0 [] rfl (World.ownsRow_nil _ _ _ _) ⟨Sx, ix, none⟩ l l (txtV t) rfl (by rw [hl.out]; unfold txtV; rw [List.length_map, Nat.mul_one]) (fun j u hu => by unfold txtV at hu; rw [List.getElem?_map] at hu; cases hj : t[j]? with | none => (rw [hj] at hu; cases hu) | some c => (rw [hj] at hu; cases hu; rw [Addr.add_lit]; exact ht.out j c hj)) (fun u hu => by unfold txtV at hu; obtain ⟨_, _, rfl⟩ := List.mem_map.1 hu; rfl) (by have := hzl.out; have := hl.out; omega) (by have := hzl.out; have := hl.out; unfold maxLen; omega) (by have := hzl.out; have := hl.out; omega) hbel.out.size _ rfl ?_; intro g cap9 w9 q1 q2 q3 q4)
    | (go_simp; go_at_call 229; refine (hit.out _ (below_drew _)).mono ?_; rintro e w2 ⟨Sx, ix, l, rfl, hc2, hS, hl, ht⟩; have hbel := Hd.mk (below_undrew hc2.none_below); clear hc2 hS; replace hl := Hd.mk hl; replace ht := Hd.mk ht))
  all_goals
    rw [Nat.zero_add, List.nil_append] at q1
    obtain ⟨q5, q6, q7⟩ := own_txt q1
    have q8 := Below.grown hbel.out q2 (fun K hK => by cases hK) hbel.out.size
    go_wp2
    go_ret
    exact ⟨g, cap9, by rw [← hl.out]; rfl, by rw [← hl.out]; exact q7, q5, q6, q8⟩
set_option maxHeartbeats 1000000 in
theorem IAppendText_any (P : Nat → Prop) (B : Nat) (x : Int) (S : Nat → Option Int) (w : World) (hI : Ints P w S) (hx : S B = some x) (hw : wlen x.natAbs ≤ 8) :
    Calls Tryz.prog 218 #[ptr B, .slice none 0 0] w fun e w' => ∃ g cap, e = .returned (.tuple #[.slice (some ⟨g, 0, none⟩) (ztx x).length cap, .nilIface]) ∧ (ztx x).length ≤ cap ∧ TxtAt w' g 0 (ztx x) ∧ w.heap.size ≤ g ∧ Below w.heap.size w w' := by
  have h := Hd.mk (IAppend_any P B x S w hI hx hw)
  generalize ztx x = t at *
  replace hI := Hd.mk hI
  replace hx := Hd.mk hx
  go_enter Tryz.func218, Tryz.ntmps218
  go_wp2_with (go_at_call 244; refine h.out.mono ?_; rintro e w1 ⟨g, cap, rfl, h1⟩; replace h1 := Hd.mk h1)
  go_ret2
  exact ⟨g, cap, rfl, h1.out⟩
set_option maxHeartbeats 1000000 in
theorem IMarshal_any (P : Nat → Prop) (B : Nat) (x : Int) (S : Nat → Option Int) (w : World) (hI : Ints P w S) (hx : S B = some x) (hw : wlen x.natAbs ≤ 8) :
    Calls Tryz.prog 167 #[ptr B] w fun e w' => ∃ g cap, e = .returned (.tuple #[.slice (some ⟨g, 0, none⟩) (ztx x).length cap, .nilIface]) ∧ (ztx x).length ≤ cap ∧ TxtAt w' g 0 (ztx x) ∧ w.heap.size ≤ g ∧ Below w.heap.size w w' := by
  have h := Hd.mk (IAppendText_any P B x S w hI hx hw)
  generalize ztx x = t at *
  replace hI := Hd.mk hI
  replace hx := Hd.mk hx
  go_enter Tryz.func167, Tryz.ntmps167
  go_wp2_with (go_at_call 218; refine h.out.mono ?_; rintro e w1 ⟨g, cap, rfl, h1⟩; replace h1 := Hd.mk h1)
  go_ret2
  exact ⟨g, cap, rfl, h1.out⟩
end Go.Proofs.YtdbjdpooggaonaaGreatDoor
end
