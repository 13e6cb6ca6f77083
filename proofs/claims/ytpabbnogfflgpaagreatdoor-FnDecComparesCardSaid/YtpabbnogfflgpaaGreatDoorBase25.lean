/- The thin package: an operation of two decimals. Texts: the first point, the parts between points. A decimal of a text. The thin package: a decimal's text parsed. Ints appended to texts. Conditions: those that each theorem states. -/
import Derived.Test.YtpabbnogfflgpaaGreatDoorBase23
import Derived.Deep.AppendLies
import Derived.Laws.OwnMore
import Derived.OwnWalk
import Derived.Test.YtpabbnogfflgpaaGreatDoorBase22
import Derived.Test.YtpabbnogfflgpaaGreatDoorBase17
import Derived.Test.YtpabbnogfflgpaaGreatDoorBase12
import Derived.Deep.RegionLaw
set_option linter.all false

section
namespace Go.Proofs.YtpabbnogfflgpaaGreatDoor
open Go.RowKit
set_option maxRecDepth 100000
theorem C2.below {w0 w w' : World} {B R : Nat} (h : C2 w w' B R) (hb : Below w0.heap.size w0 w) (h1 : w0.heap.size ≤ B) (h2 : w0.heap.size ≤ R) : Below w0.heap.size w0 w' :=
  ⟨h.os.trans hb.os, h.tape.trans hb.tape, h.output.trans hb.output, Nat.le_trans hb.size h.size, fun k hk => (h.block k (Nat.lt_of_lt_of_le hk hb.size) (by omega) (by omega)).trans (hb.block k hk)⟩
theorem Put.bel {w0 w w' : World} {b : Nat} {E : TypeId} {ys : List Value} (hp : Put w w' b E ys) (hb : Below w0.heap.size w0 w) (h1 : w0.heap.size ≤ b) : Below w0.heap.size w0 w' :=
  ⟨hp.os.trans hb.os, hp.tape.trans hb.tape, hp.output.trans hb.output, by rw [hp.size]; exact hb.size, fun k hk => (hp.other k (by omega)).trans (hb.block k hk)⟩
theorem below_drew' {B : Nat} {w w' : World} (h : Below B w w') : Below B w w'.drew := ⟨h.os, h.tape, h.output, h.size, h.block⟩
/-- The boxes of an operation. -/
abbrev opW (w : World) (k : Int) (a b : ByteArray) (m : Bool) : World :=
  (((((w.alloc (.cells #[.int .i64 k] 3)).alloc (.cells #[.string a] 9)).alloc (.cells #[.string b] 9)).alloc (.cells #[.bool m] 4)).alloc (.cells #[.string (ByteArray.mk #[])] 9)).alloc (.cells #[.bool false] 4)
theorem opW_size (w : World) (k : Int) (a b : ByteArray) (m : Bool) : (opW w k a b m).heap.size = w.heap.size + 6 := by simp only [World.size_alloc]
theorem opW_below (w : World) (k : Int) (a b : ByteArray) (m : Bool) : Below w.heap.size w (opW w k a b m) :=
  (((((((Below.refl _ _).alloc (Nat.le_refl _) _).alloc (by simp only [World.size_alloc]; omega) _).alloc (by simp only [World.size_alloc]; omega) _).alloc (by simp only [World.size_alloc]; omega) _).alloc (by simp only [World.size_alloc]; omega) _).alloc (by simp only [World.size_alloc]; omega) _)
theorem opW_blk (w : World) (k : Int) (a b : ByteArray) (m : Bool) : Blk (opW w k a b m) w.heap.size 3 [.int .i64 k] ∧ Blk (opW w k a b m) (w.heap.size + 1) 9 [.string a] ∧ Blk (opW w k a b m) (w.heap.size + 2) 9 [.string b] ∧ Blk (opW w k a b m) (w.heap.size + 3) 4 [.bool m] ∧ Blk (opW w k a b m) (w.heap.size + 4) 9 [.string (ByteArray.mk #[])] ∧ Blk (opW w k a b m) (w.heap.size + 5) 4 [.bool false] := by
  have h1 := Blk.new w #[.int .i64 k] 3
  have h2 := Blk.new (w.alloc (.cells #[.int .i64 k] 3)) #[.string a] 9
  have h3 := Blk.new ((w.alloc (.cells #[.int .i64 k] 3)).alloc (.cells #[.string a] 9)) #[.string b] 9
  have h4 := Blk.new (((w.alloc (.cells #[.int .i64 k] 3)).alloc (.cells #[.string a] 9)).alloc (.cells #[.string b] 9)) #[.bool m] 4
  have h5 := Blk.new ((((w.alloc (.cells #[.int .i64 k] 3)).alloc (.cells #[.string a] 9)).alloc (.cells #[.string b] 9)).alloc (.cells #[.bool m] 4)) #[.string (ByteArray.mk #[])] 9
  have h6 := Blk.new (((((w.alloc (.cells #[.int .i64 k] 3)).alloc (.cells #[.string a] 9)).alloc (.cells #[.string b] 9)).alloc (.cells #[.bool m] 4)).alloc (.cells #[.string (ByteArray.mk #[])] 9)) #[.bool false] 4
  simp only [World.size_alloc] at h1 h2 h3 h4 h5 h6
  exact ⟨((((h1.alloc _).alloc _).alloc _).alloc _).alloc _, (((h2.alloc _).alloc _).alloc _).alloc _, ((h3.alloc _).alloc _).alloc _, (h4.alloc _).alloc _, h5.alloc _, h6⟩
/-- What the closure of an operation is asked. -/
def OpCl (k : Int) (a b : ByteArray) (m : Bool) (R : Ending → World → Nat → Nat → Prop) : Prop := ∀ ba bb bo bm bu bk w, Ok w → Er w → Blk w ba 9 [.string a] → Blk w bb 9 [.string b] → Blk w bo 3 [.int .i64 k] → Blk w bm 4 [.bool m] → Blk w bu 9 [.string (ByteArray.mk #[])] → Blk w bk 4 [.bool false] →
  (ba ≠ bu ∧ ba ≠ bk ∧ bb ≠ bu ∧ bb ≠ bk ∧ bo ≠ bu ∧ bo ≠ bk ∧ bm ≠ bu ∧ bm ≠ bk ∧ bu ≠ bk) → 18 ≤ bu → 18 ≤ bk →
  Calls Tryz.prog 89 #[ptr ba, ptr bb, ptr bo, ptr bm, ptr bu, ptr bk] w fun e w' => C2 w w' bu bk ∧ R e w' bu bk
set_option maxHeartbeats 2000000 in
theorem DecOp_ok (k : Int) (a b z : ByteArray) (m kp : Bool) (w : World) (hok : Ok w) (her : Er w) (hcl : OpCl k a b m fun e w' bu bk => e = .returned (.tuple #[]) ∧ Blk w' bu 9 [.string z] ∧ Blk w' bk 4 [.bool kp]) :
    Calls Tryz.prog 34 #[.int .i64 k, .string a, .string b, .bool m] w fun e w' => e = .returned (.tuple #[.string z, .bool true, .bool kp]) ∧ Below w.heap.size w w' := by
  obtain ⟨h1, h2, h3, h4, h5, h6⟩ := opW_blk w k a b m
  have hb1 := opW_below w k a b m
  have hs1 := opW_size w k a b m
  have h100 := hok.2
  generalize hW : opW w k a b m = w1 at *
  have hb2 : Below w1.heap.size w1 (okW w1) := (Below.refl _ _).alloc (Nat.le_refl _) _
  have hb3 := hb1.trans (hb2.mono hb1.size)
  have hs2 : (okW w1).heap.size = w1.heap.size + 1 := World.size_alloc _ _
  have hc := hcl (w.heap.size + 1) (w.heap.size + 2) w.heap.size (w.heap.size + 3) (w.heap.size + 4) (w.heap.size + 5) (okW w1) (hok.below hb3) (her.below hb3) (h2.alloc _) (h3.alloc _) (h1.alloc _) (h4.alloc _) (h5.alloc _) (h6.alloc _) (by omega) (by omega) (by omega)
  have hsf := Hd.mk (safe_ok 89 _ w1 (fun w2 => C2 (okW w1) w2 (w.heap.size + 4) (w.heap.size + 5) ∧ Blk w2 (w.heap.size + 4) 9 [.string z] ∧ Blk w2 (w.heap.size + 5) 4 [.bool kp]) (enters Tryz.func89 (by kernel_rfl) (by kernel_rfl)) (hc.mono fun e w2 ⟨q1, q2, q3, q4⟩ => ⟨q2, q1.block _ (by omega) (by omega) (by omega), q1, q3, q4⟩))
  have hfin : Hd (∀ w2 w3, C2 (okW w1) w2 (w.heap.size + 4) (w.heap.size + 5) → Put w2 w3 w1.heap.size 4 [.bool true] → Below w.heap.size w w3) := ⟨fun w2 w3 q1 q2 => q2.bel (q1.below hb3 (by omega) (by omega)) hb1.size⟩
  have hmf : ∀ (fn : Fn) (first cap : Array Value) (w : World), (Instr.makeFunc fn first cap).run Tryz.prog w = .ok (.func fn first cap) w := fun _ _ _ _ => rfl
  have hne : w.heap.size + 4 ≠ w1.heap.size ∧ w.heap.size + 5 ≠ w1.heap.size := by omega
  clear hcl hc h1 h2 h3 h4 h5 h6 hb1 hb2 hb3 hok her
  go_enter Tryz.func34, Tryz.ntmps34
  go_wp2_with fail
  refine hsf.out.mono ?_
  rintro e w3 ⟨rfl, w2, ⟨hc2, hu2, hk2⟩, hp3⟩
  have hb3 := Hd.mk (hfin.out w2 w3 hc2 hp3)
  have hu3 := hp3.blk hu2 hne.1
  have hk3 := hp3.blk hk2 hne.2
  have cu : w3.cell? ⟨w.heap.size + 1 + 1 + 1 + 1, 0, none⟩ = some (.string z) := hu3.cell 0
  have ck : w3.cell? ⟨w.heap.size + 1 + 1 + 1 + 1 + 1, 0, none⟩ = some (.bool kp) := hk3.cell 0
  have zu : w3.frozen? ⟨w.heap.size + 1 + 1 + 1 + 1, 0, none⟩ = false := hu3.frozen 0
  have zk : w3.frozen? ⟨w.heap.size + 1 + 1 + 1 + 1 + 1, 0, none⟩ = false := hk3.frozen 0
  have lu : w.heap.size + 1 + 1 + 1 + 1 < w3.heap.size := hu3.lt
  have lk : w.heap.size + 1 + 1 + 1 + 1 + 1 < w3.heap.size := hk3.lt
  clear hu3 hk3 hu2 hk2 hc2 hp3 hsf hfin
  go_wp2_with fail
  go_region
  all_goals
    go_wp2
    refine bodyPost_ret (v := .tuple #[.string z, .bool true, .bool kp]) (by simp [results, Tryz.results34, go_sem, cu, ck, zu, zk, lu, lk]) rfl ⟨rfl, below_drew' ?_⟩
    (repeat first | exact hb3.out | refine Below.setCell ?_ (by dsimp only; omega) _)
set_option maxHeartbeats 2000000 in
theorem DecOp_pan (k : Int) (a b : ByteArray) (m : Bool) (w : World) (hok : Ok w) (her : Er w) (hcl : OpCl k a b m fun e w' bu bk => Pan e ∧ (∃ z, Blk w' bu 9 [.string z]) ∧ ∃ kp, Blk w' bk 4 [.bool kp]) :
    Calls Tryz.prog 34 #[.int .i64 k, .string a, .string b, .bool m] w fun e w' => e = .returned (.tuple #[.string (ByteArray.mk #[]), .bool false, .bool false]) ∧ Below w.heap.size w w' := by
  obtain ⟨h1, h2, h3, h4, h5, h6⟩ := opW_blk w k a b m
  have hb1 := opW_below w k a b m
  have hs1 := opW_size w k a b m
  have h100 := hok.2
  generalize hW : opW w k a b m = w1 at *
  have hb2 : Below w1.heap.size w1 (okW w1) := (Below.refl _ _).alloc (Nat.le_refl _) _
  have hb3 := hb1.trans (hb2.mono hb1.size)
  have hs2 : (okW w1).heap.size = w1.heap.size + 1 := World.size_alloc _ _
  have hc := hcl (w.heap.size + 1) (w.heap.size + 2) w.heap.size (w.heap.size + 3) (w.heap.size + 4) (w.heap.size + 5) (okW w1) (hok.below hb3) (her.below hb3) (h2.alloc _) (h3.alloc _) (h1.alloc _) (h4.alloc _) (h5.alloc _) (h6.alloc _) (by omega) (by omega) (by omega)
  have hsf := Hd.mk (safe_pan 89 _ w1 (fun w2 => C2 (okW w1) w2 (w.heap.size + 4) (w.heap.size + 5) ∧ (∃ z, Blk w2 (w.heap.size + 4) 9 [.string z]) ∧ ∃ kp, Blk w2 (w.heap.size + 5) 4 [.bool kp]) (enters Tryz.func89 (by kernel_rfl) (by kernel_rfl)) (hc.mono fun e w2 ⟨q1, q2, q3, q4⟩ => ⟨q2, q1.block _ (by omega) (by omega) (by omega), q1, q3, q4⟩))
  have hfin : Hd (∀ w2 w3, C2 (okW w1) w2 (w.heap.size + 4) (w.heap.size + 5) → Put w2 w3 w1.heap.size 4 [.bool false] → Below w.heap.size w w3) := ⟨fun w2 w3 q1 q2 => q2.bel (q1.below hb3 (by omega) (by omega)) hb1.size⟩
  have hmf : ∀ (fn : Fn) (first cap : Array Value) (w : World), (Instr.makeFunc fn first cap).run Tryz.prog w = .ok (.func fn first cap) w := fun _ _ _ _ => rfl
  have hne : w.heap.size + 4 ≠ w1.heap.size ∧ w.heap.size + 5 ≠ w1.heap.size := by omega
  clear hcl hc h1 h2 h3 h4 h5 h6 hb1 hb2 hb3 hok her
  go_enter Tryz.func34, Tryz.ntmps34
  go_wp2_with fail
  refine hsf.out.mono ?_
  rintro e w3 ⟨rfl, w2, ⟨hc2, ⟨z, hu2⟩, ⟨kp, hk2⟩⟩, hp3⟩
  have hb3 := Hd.mk (hfin.out w2 w3 hc2 hp3)
  have hu3 := hp3.blk hu2 hne.1
  have hk3 := hp3.blk hk2 hne.2
  have cu : w3.cell? ⟨w.heap.size + 1 + 1 + 1 + 1, 0, none⟩ = some (.string z) := hu3.cell 0
  have ck : w3.cell? ⟨w.heap.size + 1 + 1 + 1 + 1 + 1, 0, none⟩ = some (.bool kp) := hk3.cell 0
  have zu : w3.frozen? ⟨w.heap.size + 1 + 1 + 1 + 1, 0, none⟩ = false := hu3.frozen 0
  have zk : w3.frozen? ⟨w.heap.size + 1 + 1 + 1 + 1 + 1, 0, none⟩ = false := hk3.frozen 0
  have lu : w.heap.size + 1 + 1 + 1 + 1 < w3.heap.size := hu3.lt
  have lk : w.heap.size + 1 + 1 + 1 + 1 + 1 < w3.heap.size := hk3.lt
  clear hu3 hk3 hu2 hk2 hc2 hp3 hsf hfin
  go_wp2
  refine bodyPost_ret (v := .tuple #[.string (ByteArray.mk #[]), .bool false, .bool false]) (by simp [results, Tryz.results34, go_sem, cu, ck, zu, zk, lu, lk]) rfl ⟨rfl, ?_⟩
  (repeat first | exact hb3.out | refine Below.setCell ?_ (by dsimp only; omega) _)
end Go.Proofs.YtpabbnogfflgpaaGreatDoor
end

section
namespace Go.Proofs.YtpabbnogfflgpaaGreatDoor
open Go.RowKit
set_option maxRecDepth 100000
theorem bts_ext (s : ByteArray) (i j : Nat) : bts (s.extract i j) = ((bts s).take j).drop i := by
  unfold bts
  rw [ByteArray.data_extract]
  simp only [Array.toList_extract, List.extract, List.map_take, List.map_drop]
  rw [List.drop_take]
theorem ext_size (s : ByteArray) (i j : Nat) (h : j ≤ s.size) : (s.extract i j).size = j - i := by
  rw [← bts_length, bts_ext, List.length_drop, List.length_take, bts_length, Nat.min_eq_left h]
theorem ch_ext (s : ByteArray) (i j k : Nat) (h : j ≤ s.size) (hk : i + k < j) : ch (s.extract i j) k = ch s (i + k) := by
  unfold ch
  rw [bts_ext, List.getD_eq_getElem?_getD, List.getD_eq_getElem?_getD, List.getElem?_drop, List.getElem?_take, if_pos (by omega)]
theorem dot_one (s : ByteArray) (i : Nat) (h : i < s.size) : ((s.extract i (i + 1)).toList == [46]) = decide (ch s i = 46) := by
  have e : bts (s.extract i (i + 1)) = [ch s i] := by
    rw [bts_ext]
    apply List.ext_getElem?
    intro k
    rw [List.getElem?_drop, List.getElem?_take]
    cases k with
    | zero => rw [if_pos (by omega), Nat.add_zero, ch_get h]; rfl
    | succ k => rw [if_neg (by omega)]; rfl
  unfold bts at e
  rw [ByteArray.toList_eq]
  cases hl : (s.extract i (i + 1)).data.toList with
  | nil => rw [hl] at e; cases e
  | cons c r =>
    rw [hl] at e
    simp only [List.map_cons, List.cons.injEq, List.map_eq_nil_iff] at e
    obtain ⟨e1, rfl⟩ := e
    by_cases h46 : ch s i = 46
    · rw [decide_eq_true h46]
      have : c = 46 := UInt8.toNat_inj.1 (by rw [e1, h46]; rfl)
      rw [this]; rfl
    · rw [decide_eq_false h46]
      have : c ≠ 46 := fun h => h46 (by rw [← e1, h]; rfl)
      simp [this]
theorem dotT : (ByteArray.mk #[46]).toList = [46] := by rw [ByteArray.toList_eq]
theorem dotS : (ByteArray.mk #[46]).size = 1 := rfl
set_option maxHeartbeats 2000000 in
theorem zzIndex_any (s : ByteArray) (n : Nat) (w : World) (hs : s.size < 200) (hn : n ≤ s.size) (hd : ∀ j, j < n → ch s j ≠ 46) (he : n = s.size ∨ ch s n = 46) :
    Calls Tryz.prog 191 #[.string s, .string (ByteArray.mk #[46])] w fun e w' => e = .returned (.int .i64 (if n < s.size then (n : Int) else -1)) ∧ w = w' := by
  have h1 := dotT
  have h2 := dotS
  replace hd := Hd.mk hd
  go_enter Tryz.func191, Tryz.ntmps191
  go_wp2
  go_loopw [5] (fun i wr => ∃ k : Nat, k ≤ n ∧ i = .int .i64 k ∧ w = wr) (fun i _ => n - (intOf i).toNat)
  case atStart => exact ⟨0, Nat.zero_le _, rfl, rfl⟩
  case round =>
    obtain ⟨k, hk, rfl, rfl⟩ := hrel
    by_cases hlt : k < s.size
    · have hdo := dot_one s k hlt
      have hle : decide ((k : Int) + 1 ≤ (s.size : Int)) = true := decide_eq_true (by omega)
      have hle1 : (k : Int) + 1 ≤ (s.size : Int) := by omega
      have hle2 : (0 : Int) ≤ (k : Int) := by omega
      have hle3 : (k : Int) ≤ (k : Int) + 1 := by omega
      have hw1 : IntKind.i64.wrap ((k : Int) + 1) = (k : Int) + 1 := IntWalk.i64_in _ (by omega)
      have htn : ((k : Int) + 1).toNat = k + 1 := by omega
      by_cases h46 : ch s k = 46
      · rw [decide_eq_true h46] at hdo
        obtain rfl : k = n := by
          rcases Nat.lt_or_ge k n with h | h
          · exact absurd h46 (hd.out k h)
          · omega
        replace h46 := Hd.mk h46
        go_wp2
        go_ret
        exact ⟨by first | rfl | (rw [if_pos hlt]; rfl), rfl⟩
      · rw [decide_eq_false h46] at hdo
        have hkn : k < n := by
          rcases Nat.lt_or_ge k n with h | h
          · exact h
          · obtain rfl : k = n := by omega
            rcases he with h | h
            · omega
            · exact absurd h h46
        replace h46 := Hd.mk h46
        replace he := Hd.mk he
        go_wp2
        go_roundw
        case rel => exact ⟨k + 1, by omega, by rw [Int.natCast_succ], trivial⟩
        case measure => simp [intOf]; omega
    · obtain rfl : k = n := by omega
      have hle : decide ((k : Int) + 1 ≤ (s.size : Int)) = false := decide_eq_false (by omega)
      have hw1 : IntKind.i64.wrap ((k : Int) + 1) = (k : Int) + 1 := IntWalk.i64_in _ (by omega)
      replace he := Hd.mk he
      go_wp2
      go_ret
      exact ⟨by first | rfl | (rw [if_neg hlt]; rfl), rfl⟩
/-- The parts of a text between its points. -/
inductive Spl : ByteArray → List ByteArray → Prop
  | one (s : ByteArray) : (∀ j, j < s.size → ch s j ≠ 46) → Spl s [s]
  | more (s : ByteArray) (i : Nat) (l : List ByteArray) : i < s.size → (∀ j, j < i → ch s j ≠ 46) → ch s i = 46 → Spl (s.extract (i + 1) s.size) l → Spl s (s.extract 0 i :: l)
theorem first46 (s : ByteArray) : ∀ p, p ≤ s.size → (∀ j, j < p → ch s j ≠ 46) → ∃ n, n ≤ s.size ∧ (∀ j, j < n → ch s j ≠ 46) ∧ (n = s.size ∨ ch s n = 46) := by
  intro p hp hj
  obtain ⟨k, hk⟩ : ∃ k, k = s.size - p := ⟨_, rfl⟩
  induction k generalizing p with
  | zero => exact ⟨p, hp, hj, .inl (by omega)⟩
  | succ k ih =>
    by_cases h : ch s p = 46
    · exact ⟨p, hp, hj, .inr h⟩
    · exact ih (p + 1) (by omega) (fun j h' => if e : j = p then e ▸ h else hj j (by omega)) (by omega)
theorem spl_ex (n : Nat) : ∀ s : ByteArray, s.size ≤ n → ∃ l, Spl s l := by
  induction n with
  | zero => exact fun s h => ⟨[s], .one s (fun j hj => by omega)⟩
  | succ n ih =>
    intro s h
    obtain ⟨i, h1, h2, h3⟩ := first46 s 0 (Nat.zero_le _) (fun j hj => by omega)
    by_cases hi : i = s.size
    · exact ⟨[s], .one s (fun j hj => h2 j (by omega))⟩
    · obtain ⟨l, hl⟩ := ih (s.extract (i + 1) s.size) (by rw [ext_size _ _ _ (Nat.le_refl _)]; omega)
      exact ⟨_, .more s i l (by omega) h2 (h3.resolve_left hi) hl⟩
/-- A row of texts of the call's own. -/
structure OwS (w0 wr : World) (v : Value) (l : List ByteArray) : Prop where
  row : wr.ownsRow w0.heap.size 9 1 v l.length (l.map Value.string)
  bel : Below w0.heap.size w0 wr
theorem OwS.nil (w : World) : OwS w w (.slice none 0 0) [] := ⟨World.ownsRow_nil _ _ _ _, Below.refl _ _⟩
theorem strInfo0 : (Tryz.prog.info? 9).map (fun i => (i.zero, i.size, i.bytes)) = some (some (.string (ByteArray.mk #[])), 1, 16) := by kernel_rfl
theorem sinfo : ∃ i, Tryz.prog.info? 9 = some i ∧ i.zero = some (.string (ByteArray.mk #[])) ∧ i.size = 1 ∧ i.bytes = 16 := by
  obtain ⟨i, h1, h2, h3, h4⟩ := info_parts strInfo0
  exact ⟨i, h1, h2, h3, h4⟩
/-- A text more. -/
theorem wpList_pushS {w0 wr : World} {ops : Array Oper} {rest : List Oper} {o : Oper} {a : Act} {Q : Exit → Act → World → Prop} (hgd : o.guard = none) (s x : Operand)
    (ho : o.op = .call { callee := .builtin .append, args := #[s, x], argTypes := #[37, 37] })
    (v : Value) (l : List ByteArray) (hs : a.eval s = v) (how : OwS w0 wr v l) (c : ByteArray) (hx : a.eval x = .slice (some ⟨wr.heap.size, 0, none⟩) 1 1) (hn : l.length < 1000000)
    (h : ∀ v' w', OwS w0 w' v' (l ++ [c]) → (∃ g cap, v' = .slice (some ⟨g, 0, none⟩) (l.length + 1) cap) → wpList Tryz.prog ops Q rest (a.put o.dst v') w') :
    wpList Tryz.prog ops Q (o :: rest) a (wr.alloc (.cells #[.string c] 9)) := by
  obtain ⟨i, hi, hz, hsz, hby⟩ := sinfo
  have hsize : wr.heap.size ≤ (wr.alloc (.cells #[.string c] 9)).heap.size := by rw [World.size_alloc]; omega
  refine wpList_append_lies _ hgd s x 37 ho w0.heap.size 9 i (.string (ByteArray.mk #[])) 1 16 Tryz.underlying37 hi hz hsz hby rfl (by decide) v l.length (l.map Value.string) hs (how.row.alloc _) ⟨wr.heap.size, 0, none⟩ 1 1 [.string c] hx rfl
    (World.news_of_block (w := wr.alloc (.cells #[.string c] 9)) (cs := #[.string c]) (Blk.new wr #[.string c] 9))
    (fun u hu => by simp at hu; subst hu; rfl) (by decide) (by unfold maxLen; omega) (by omega) (Nat.le_trans how.bel.size hsize) _ rfl ?_
  intro g cap w' h1 h2 h3 h4
  have hb : Below w0.heap.size w0 w' := Below.grown (how.bel.alloc how.bel.size _) h2 (fun K hK => (how.row.lt K hK).1) (Nat.le_trans how.bel.size hsize)
  refine h _ w' ⟨?_, hb⟩ ⟨g, cap, rfl⟩
  rw [List.map_append, List.length_append]
  exact h1
set_option maxHeartbeats 2000000 in
theorem zzSplit_any (s : ByteArray) (l : List ByteArray) (w : World) (hs : s.size < 200) (hl : Spl s l) :
    Calls Tryz.prog 161 #[.string s, .string (ByteArray.mk #[46])] w fun e w' => ∃ v, e = .returned v ∧ OwS w w' v l := by
  go_enter Tryz.func161, Tryz.ntmps161
  have h2 := dotS
  have h0 : Hd (OwS w w (.slice none 0 0) []) := ⟨OwS.nil w⟩
  have hsz := hs
  go_wp2
  go_loopw [0, 5] (fun r v wr => ∃ (r' : ByteArray) (pre l' : List ByteArray), r = .string r' ∧ Hd (Spl r' l') ∧ Hd (l = pre ++ l') ∧ Hd (OwS w wr v pre) ∧ r'.size + pre.length ≤ s.size) (fun r _ _ => match r with | .string x => x.size | _ => 0)
  case atStart => exact ⟨s, [], l, rfl, ⟨hl⟩, ⟨rfl⟩, h0, by simp⟩
  case round =>
    obtain ⟨r, pre, l', rfl, hsp, hpre, how, hsize⟩ := hrel
    obtain ⟨A, nn, cc, rfl⟩ : ∃ A nn cc, _ = Value.slice A nn cc := by
      rcases how.out.row.2 with ⟨h1, h2⟩ | ⟨g, cap, cur, h1, h2, _⟩
      · exact ⟨_, _, _, h1⟩
      · exact ⟨_, _, _, h1⟩
    cases hsp.out with
    | one _ hno =>
      have hzi := Hd.mk fun w1 => zzIndex_any r r.size w1 (by omega) (Nat.le_refl _) hno (.inl rfl)
      rw [if_neg (by omega)] at hzi
      go_wp2_with (first | (go_at_call 191; refine (hzi.out _).mono ?_; rintro e w1 ⟨rfl, rfl⟩) | (at_builtin; refine wpList_pushS rfl (.tmp 42) (.tmp 44) rfl _ pre rfl how.out r rfl (by omega) ?_; intro v' w' how2 hv'; obtain ⟨g', cap', rfl⟩ := hv'; replace how2 := Hd.mk how2))
      go_ret
      exact ⟨_, rfl, by rw [hpre.out]; exact how2.out⟩
    | more _ i l2 hi hno h46 hrest =>
      have hzi := Hd.mk fun w1 => zzIndex_any r i w1 (by omega) (by omega) hno (.inr h46)
      rw [if_pos hi] at hzi
      have hes := ext_size r (i + 1) r.size (Nat.le_refl _)
      have hw1 : IntKind.i64.wrap ((i : Int) + 1) = (i : Int) + 1 := IntWalk.i64_in _ (by omega)
      have b1 : (i : Int) ≤ (r.size : Int) := by omega
      have b2 : (0 : Int) ≤ (i : Int) := by omega
      have b3 : (i : Int) + 1 ≤ (r.size : Int) := by omega
      have b4 : (0 : Int) ≤ (i : Int) + 1 := by omega
      have b5 : decide ((i : Int) < 0) = false := decide_eq_false (by omega)
      have htn : ((i : Int) + 1).toNat = i + 1 := by omega
      replace hno := Hd.mk hno
      replace h46 := Hd.mk h46
      go_wp2_with (first | (go_at_call 191; refine (hzi.out _).mono ?_; rintro e w1 ⟨rfl, rfl⟩) | (at_builtin; refine wpList_pushS rfl (.tmp 46) (.tmp 50) rfl _ pre rfl how.out (r.extract 0 i) rfl (by omega) ?_; intro v' w' how2 hv'; obtain ⟨g', cap', rfl⟩ := hv'; replace how2 := Hd.mk how2))
      go_roundw
      case rel => exact ⟨_, pre ++ [r.extract 0 i], l2, rfl, ⟨hrest⟩, ⟨by rw [hpre.out, List.append_assoc]; rfl⟩, how2, by rw [List.length_append, hes]; simp; omega⟩
      case measure => simp [hes]; omega
end Go.Proofs.YtpabbnogfflgpaaGreatDoor
end

section
namespace Go.Proofs.YtpabbnogfflgpaaGreatDoor
open Go.RowKit
set_option maxRecDepth 100000
theorem bts_append (s t : ByteArray) : bts (s ++ t) = bts s ++ bts t := by
  unfold bts
  rw [ByteArray.data_append, Array.toList_append, List.map_append]
/-- The text without a sign, and whether it had one. -/
def unm (s : ByteArray) : Bool × ByteArray := if 0 < s.size ∧ ch s 0 = 45 then (true, s.extract 1 s.size) else (false, s)
theorem unm_size (s : ByteArray) : (unm s).2.size ≤ s.size := by
  unfold unm
  split
  · rw [show (true, s.extract 1 s.size).2 = s.extract 1 s.size from rfl, ext_size _ _ _ (Nat.le_refl _)]; omega
  · exact Nat.le_refl _
theorem OwS.open {w0 wr : World} {v : Value} {l : List ByteArray} (h : OwS w0 wr v l) (h0 : l ≠ []) : ∃ g cap, v = .slice (some ⟨g, 0, none⟩) l.length cap ∧ l.length ≤ cap ∧ ∀ i c, l[i]? = some c → wr.cell? ⟨g, i, none⟩ = some (.string c) := by
  rcases h.row.2 with ⟨h1, h2⟩ | ⟨g, cap, cur, h1, h3, h4, h5, h6, h7, h8⟩
  · exact absurd (List.length_eq_zero_iff.1 h2) h0
  · refine ⟨g, cap, h1, h5, fun i c hc => ?_⟩
    rw [cell_of_row wr g i cur _ _ h4]
    have hi : i < l.length := (List.getElem?_eq_some_iff.1 hc).1
    have h9 : (l.map Value.string)[i]? = some (.string c) := by rw [List.getElem?_map, hc]; rfl
    rw [← h8, List.getElem?_take_of_lt (by omega)] at h9
    simpa using h9
def zeros (n : Nat) : ByteArray := ⟨(Lib.repeatL [(48 : UInt8)] n).toArray⟩
theorem repeatL_one (n : Nat) : Lib.repeatL [(48 : UInt8)] n = List.replicate n 48 := by
  induction n with
  | zero => rfl
  | succ n ih =>
    rw [List.replicate_succ, ← ih]
    simp [Lib.repeatL, List.replicate_succ]
theorem bts_zeros (n : Nat) : bts (zeros n) = List.replicate n 48 := by
  unfold bts zeros
  rw [repeatL_one]
  simp
/-- The number of a decimal's text, in parts. -/
def decZ (neg : Bool) (A F : ByteArray) : Int := if neg = true then -(nums (bts A ++ bts F ++ List.replicate (18 - F.size) 48) : Int) else (nums (bts A ++ bts F ++ List.replicate (18 - F.size) 48) : Int)
theorem spl_one {t A : ByteArray} (h : Spl t [A]) : t = A := by
  cases h with
  | one _ _ => rfl
  | more _ i l h1 h2 h3 h4 => cases h4
theorem spl_two {t A F : ByteArray} (h : Spl t [A, F]) : A.size + F.size + 1 = t.size := by
  cases h with
  | more _ i l h1 h2 h3 h4 =>
    have := spl_one h4
    rw [ext_size _ _ _ (by omega), ← this, ext_size _ _ _ (Nat.le_refl _)]; omega
set_option maxHeartbeats 4000000 in
theorem FromStr_ok (s t A F : ByteArray) (neg two : Bool) (w : World) (hok : Ok w) (her : Er w) (hs : s.size < 120) (hun : unm s = (neg, t)) (hsp : Spl t (if two = true then [A, F] else [A])) (hA : A.size ≠ 0) (hF : if two = true then F.size ≠ 0 else F.size = 0) (hF18 : F.size ≤ 18)
    (hD : ∀ b, b ∈ bts A ++ bts F → isD b) (hin : inR (decZ neg A F) = true) :
    Calls Tryz.prog 109 #[.string s] w fun e w' => ∃ B, e = .returned (.tuple #[.agg #[ptr B], .nilIface]) ∧ NewI w w' B (decZ neg A F) := by
  have r0 := Hd.mk hok.run
  have hb1 : Below w.heap.size w (w.alloc (.cells #[.pointer none] 71)) := (Below.refl _ _).alloc (Nat.le_refl _) _
  have her1 := Hd.mk (her.below hb1)
  have r1 := Hd.mk (r0.out.box #[.pointer none] 71)
  clear r0
  have hts : t.size ≤ s.size := by have := unm_size s; rw [hun] at this; exact this
  replace hun := Hd.mk hun
  replace hsp := Hd.mk hsp
  replace hD := Hd.mk hD
  replace hin := Hd.mk hin
  clear hb1 hok her
  have hAF : A.size + F.size ≤ s.size := by
    cases two
    · have := spl_one hsp.out; subst this; simp only [Bool.false_eq_true, if_false] at hF; omega
    · have := spl_two hsp.out; omega
  have hnw : Hd (∀ w1, Ok w1 → Er w1 → Calls Tryz.prog 132 #[ptr w1.heap.size, .string (A ++ F ++ zeros (18 - F.size)), .int .i64 10] (w1.alloc (.cells #[.bool false, .slice none 0 0] 114)) fun e w' => e = .returned (.tuple #[ptr w1.heap.size, .bool true]) ∧ NewI w1 w' w1.heap.size (nums (bts A ++ bts F ++ List.replicate (18 - F.size) 48) : Int)) := ⟨fun w1 hok her => by
    have hbs : bts (A ++ F ++ zeros (18 - F.size)) = bts A ++ bts F ++ List.replicate (18 - F.size) 48 := by rw [bts_append, bts_append, bts_zeros]
    obtain ⟨q1, q2, q3, q4⟩ := scan_of (s := A ++ F ++ zeros (18 - F.size)) (neg := false) (l := bts A ++ bts F ++ List.replicate (18 - F.size) 48) (fun b hb => by
      rcases List.mem_append.1 hb with h | h
      · exact hD.out b h
      · rw [(List.mem_replicate.1 h).2]; decide) (fun e => by have := congrArg List.length e; simp only [List.length_append, bts_length, List.length_replicate, List.length_nil] at this; omega) (by rw [hbs]; rfl)
    have hlen : (bts A ++ bts F ++ List.replicate (18 - F.size) 48).length = A.size + F.size + (18 - F.size) := by simp only [List.length_append, bts_length, List.length_replicate]
    rw [hlen] at q2 q3 q4
    have q1' : (sgP (A ++ F ++ zeros (18 - F.size))).2 = 0 := by rw [q1]; rfl
    have hsz : (A ++ F ++ zeros (18 - F.size)).size = A.size + F.size + (18 - F.size) := by rw [← bts_length, hbs, hlen]
    have hAF := hAF
    have hb1 : Below w1.heap.size w1 (w1.alloc (.cells #[.bool false, .slice none 0 0] 114)) := (Below.refl _ _).alloc (Nat.le_refl _) _
    have hsz1 : (w1.alloc (.cells #[.bool false, .slice none 0 0] 114)).heap.size = w1.heap.size + 1 := World.size_alloc _ _
    have hss := SetString_any w1.heap.size (A.size + F.size + (18 - F.size)) (A ++ F ++ zeros (18 - F.size)) _ (Blk.new w1 #[.bool false, .slice none 0 0] 114) (by have := hok.2; omega) (by omega) (by omega) (her.below hb1) (by omega) q3 (.inl q2) (by omega)
    rw [if_pos q2, decide_eq_true q2, q4, if_neg (by simp)] at hss
    exact hss.mono fun e w' ⟨h1, hc, o, h4, h5⟩ => ⟨h1, Nat.le_refl _, ⟨hc.os.trans hb1.os, hc.tape.trans hb1.tape, hc.output.trans hb1.output, Nat.le_trans hb1.size hc.size, fun k hk => (hc.block k (by omega) (by simp; omega)).trans (hb1.block k hk)⟩, o, h4, fun K hK => by have := h5 K hK; omega⟩⟩
  cases two
  · simp only [Bool.false_eq_true, if_false] at hF hsp
    have hAt : A.size = t.size := by rw [spl_one hsp.out]
    cases neg
    · skip
      have hu := hun.out
      unfold unm at hu
      have h1 : ¬ (0 < s.size ∧ ch s 0 = 45) := by
        intro h
        rw [if_pos h] at hu; cases hu
      rw [if_neg h1] at hu
      have ht := (Prod.mk.inj hu).2
      have hts : s.size = t.size := by rw [ht]
      have hs0 : 0 < s.size := by omega
      have hix := ch_eq (s := s) (k := 0) hs0
      have h45 : ((ch s 0 : Int) == 45) = false := by
        have : ch s 0 ≠ 45 := fun h => h1 ⟨hs0, h⟩
        simp; omega
      obtain ⟨c0, hc0⟩ : ∃ c0, c0 = ch s 0 := ⟨_, rfl⟩
      rw [← hc0] at hix h45
      clear hc0
      clear hu h1
      have hsl := Hd.mk fun w1 => zzSplit_any t _ w1 (by omega) hsp.out
      have htz : (((t.size : Nat) : Int) == 0) = false := beq_false_of_ne (by omega)
      rw [← ht] at hsl htz
      replace ht := Hd.mk ht
      clear hts
      have hnz : 18 - F.size = 18 := by omega
      have hrp := Hd.mk fun w1 => Tryz.strings_Repeat (ByteArray.mk #[48]) 18 w1 (by omega) (by decide)
      rw [show ((18 : Nat) : Int) = 18 from rfl] at hrp
      have hFe : A ++ F = A := by apply bts_inj; rw [bts_append, List.length_eq_zero_iff.1 (show (bts F).length = 0 by rw [bts_length]; omega), List.append_nil]
      have hFb : bts F = [] := List.length_eq_zero_iff.1 (by rw [bts_length]; omega)
      rw [hFe] at hnw
      rw [hnz] at hnw
      rw [← hnz] at hnw; generalize hV : (nums (bts A ++ bts F ++ List.replicate (18 - F.size) 48) : Int) = V at *; rw [hnz] at hnw
      have hzz : (⟨(Lib.repeatL (ByteArray.mk #[48]).data.toList 18).toArray⟩ : ByteArray) = zeros 18 := rfl
      have hzv : decZ false A F = V := by unfold decZ; rw [hV]; simp
      rw [hzv] at hin ⊢
      have hVw : wlen V.natAbs < 8 := by have := inR_wl hin.out; exact this
      have hzs : (zeros 18).size = 18 := by rw [← bts_length, bts_zeros, List.length_replicate]
      have hov2 : ¬ (9223372036854775807 < A.size + (zeros 18).size) := by omega
      replace hzs := Hd.mk hzs; replace hAt := Hd.mk hAt
      replace hV := Hd.mk hV; replace hzv := Hd.mk hzv; replace hzz := Hd.mk hzz; replace hFe := Hd.mk hFe; replace hFb := Hd.mk hFb
      go_enter Tryz.func109, Tryz.ntmps109
      go_upto_region 28 with (first
        | (go_at_call 161; refine (hsl.out _).mono ?_; rintro e w2 ⟨v2, rfl, how⟩; have r2 := Hd.mk (r1.out.below how.bel); have er2 := Hd.mk (her1.out.below how.bel); obtain ⟨g, cap, rfl, hcap, hcell⟩ := how.open (by simp); have k0 := hcell 0 _ rfl; simp only [List.length_cons, List.length_nil] at hcap; clear how hcell)
        | (go_at_call 163; refine (hrp.out _).mono ?_; rintro e w3 ⟨rfl, hb3⟩; rw [hzz.out]; have r3 := Hd.mk (r2.out.below hb3); have er3 := Hd.mk (er2.out.below hb3); clear hb3)
        | (go_at_call 132; refine (hnw.out w3 r3.out.ok er3.out).mono ?_; rintro e w5 ⟨rfl, hn5⟩; have r5 := Hd.mk (r3.out.new_int hn5); have g5 := r3.out.ge; have l5 := r5.out.ilt upd_same; have s5 := hn5.bel.size; clear hn5))
      have r8 := Hd.mk (r5.out.box #[ptr w3.heap.size] 71)
      have hm8 := Hd.mk (inRange_any _ w3.heap.size V _ _ r8.out.ints upd_same (by have := inR_wl hin.out; omega))
      rw [hin.out] at hm8
      go_upto_region 30 with (go_at_call 116; refine hm8.out.mono ?_; rintro e w9 ⟨rfl, hk9, hI9⟩; have r9 := Hd.mk (r8.out.op hk9 hI9); clear hk9 hI9)
      obtain ⟨c9, c9z, c9l⟩ := r9.out.cell (b := w5.heap.size) updX_same
      obtain ⟨d9, d9z, d9l⟩ := r9.out.cell (b := w.heap.size) (by rw [updX_ne (by omega), updX_same])
      go_wp2
      have r10 := r9.out.set1 (b := w.heap.size) (v' := ptr w3.heap.size) (by rw [updX_ne (by omega), updX_same])
      refine bodyPost_ret (v := .tuple #[.agg #[ptr w3.heap.size], .nilIface]) (by simp [results, Tryz.results109, go_sem, d9, d9z, d9l]) rfl ⟨_, rfl, r10.newI (by rw [upd_same])⟩
    · skip
      have hu := hun.out
      unfold unm at hu
      have h1 : 0 < s.size ∧ ch s 0 = 45 := by
        by_cases h : 0 < s.size ∧ ch s 0 = 45
        · exact h
        · rw [if_neg h] at hu; cases hu
      rw [if_pos h1] at hu
      have ht := (Prod.mk.inj hu).2
      have h12 := h1.2
      have h11 := h1.1
      clear h1
      have hix := ch_eq (s := s) (k := 0) h11
      rw [h12] at hix
      have hss : 1 ≤ s.size := h11
      have hs0 : 0 < s.size := h11
      clear hu h12
      have hsl := Hd.mk fun w1 => zzSplit_any t _ w1 (by omega) hsp.out
      have htz : (((t.size : Nat) : Int) == 0) = false := beq_false_of_ne (by omega)
      have hsm : t.size = s.size - 1 := by rw [← ht, ext_size _ _ _ (Nat.le_refl _)]
      have htz2 : (((s.size - 1 : Nat) : Int) == 0) = false := beq_false_of_ne (by omega)
      replace hsm := Hd.mk hsm
      rw [← ht] at hsl htz
      replace ht := Hd.mk ht
      have hnz : 18 - F.size = 18 := by omega
      have hrp := Hd.mk fun w1 => Tryz.strings_Repeat (ByteArray.mk #[48]) 18 w1 (by omega) (by decide)
      rw [show ((18 : Nat) : Int) = 18 from rfl] at hrp
      have hFe : A ++ F = A := by apply bts_inj; rw [bts_append, List.length_eq_zero_iff.1 (show (bts F).length = 0 by rw [bts_length]; omega), List.append_nil]
      have hFb : bts F = [] := List.length_eq_zero_iff.1 (by rw [bts_length]; omega)
      rw [hFe] at hnw
      rw [hnz] at hnw
      rw [← hnz] at hnw; generalize hV : (nums (bts A ++ bts F ++ List.replicate (18 - F.size) 48) : Int) = V at *; rw [hnz] at hnw
      have hzz : (⟨(Lib.repeatL (ByteArray.mk #[48]).data.toList 18).toArray⟩ : ByteArray) = zeros 18 := rfl
      have hzv : decZ true A F = -V := by unfold decZ; rw [hV]; simp
      rw [hzv] at hin ⊢
      have hVw : wlen V.natAbs < 8 := by have := inR_wl hin.out; rwa [Int.natAbs_neg] at this
      have hzs : (zeros 18).size = 18 := by rw [← bts_length, bts_zeros, List.length_replicate]
      have hov2 : ¬ (9223372036854775807 < A.size + (zeros 18).size) := by omega
      replace hzs := Hd.mk hzs; replace hAt := Hd.mk hAt
      replace hV := Hd.mk hV; replace hzv := Hd.mk hzv; replace hzz := Hd.mk hzz; replace hFe := Hd.mk hFe; replace hFb := Hd.mk hFb
      go_enter Tryz.func109, Tryz.ntmps109
      go_upto_region 26 with (first
        | (go_at_call 161; refine (hsl.out _).mono ?_; rintro e w2 ⟨v2, rfl, how⟩; have r2 := Hd.mk (r1.out.below how.bel); have er2 := Hd.mk (her1.out.below how.bel); obtain ⟨g, cap, rfl, hcap, hcell⟩ := how.open (by simp); have k0 := hcell 0 _ rfl; simp only [List.length_cons, List.length_nil] at hcap; clear how hcell)
        | (go_at_call 163; refine (hrp.out _).mono ?_; rintro e w3 ⟨rfl, hb3⟩; rw [hzz.out]; have r3 := Hd.mk (r2.out.below hb3); have er3 := Hd.mk (er2.out.below hb3); clear hb3)
        | (go_at_call 132; refine (hnw.out w3 r3.out.ok er3.out).mono ?_; rintro e w5 ⟨rfl, hn5⟩; have r5 := Hd.mk (r3.out.new_int hn5); have g5 := r3.out.ge; have l5 := r5.out.ilt upd_same; have s5 := hn5.bel.size; clear hn5))
      have r6 := Hd.mk (r5.out.new_int (NewI.of_new _))
      have hm6 := Hd.mk (INeg_any _ w5.heap.size w3.heap.size 0 V _ _ r6.out.ints upd_same (by rw [upd_ne (by omega), upd_same]) (by omega))
      go_upto_region 28 with (go_at_call 146; refine hm6.out.mono ?_; rintro e w7 ⟨rfl, hk7, hI7⟩; have r7 := Hd.mk (r6.out.op hk7 hI7); have s7 := hk7.size; (try simp only [World.size_alloc] at s7); clear hk7 hI7)
      have r8 := Hd.mk (r7.out.box #[ptr w5.heap.size] 71)
      have hm8 := Hd.mk (inRange_any _ w5.heap.size (-V) _ _ r8.out.ints upd_same (by have := inR_wl hin.out; omega))
      rw [hin.out] at hm8
      go_upto_region 30 with (go_at_call 116; refine hm8.out.mono ?_; rintro e w9 ⟨rfl, hk9, hI9⟩; have r9 := Hd.mk (r8.out.op hk9 hI9); clear hk9 hI9)
      obtain ⟨c9, c9z, c9l⟩ := r9.out.cell (b := w7.heap.size) updX_same
      obtain ⟨d9, d9z, d9l⟩ := r9.out.cell (b := w.heap.size) (by rw [updX_ne (by omega), updX_same])
      go_wp2
      have r10 := r9.out.set1 (b := w.heap.size) (v' := ptr w5.heap.size) (by rw [updX_ne (by omega), updX_same])
      refine bodyPost_ret (v := .tuple #[.agg #[ptr w5.heap.size], .nilIface]) (by simp [results, Tryz.results109, go_sem, d9, d9z, d9l]) rfl ⟨_, rfl, r10.newI (by rw [upd_same])⟩
  · simp only [if_true] at hF hsp
    have hAt := spl_two hsp.out
    cases neg
    · skip
      have hu := hun.out
      unfold unm at hu
      have h1 : ¬ (0 < s.size ∧ ch s 0 = 45) := by
        intro h
        rw [if_pos h] at hu; cases hu
      rw [if_neg h1] at hu
      have ht := (Prod.mk.inj hu).2
      have hts : s.size = t.size := by rw [ht]
      have hs0 : 0 < s.size := by omega
      have hix := ch_eq (s := s) (k := 0) hs0
      have h45 : ((ch s 0 : Int) == 45) = false := by
        have : ch s 0 ≠ 45 := fun h => h1 ⟨hs0, h⟩
        simp; omega
      obtain ⟨c0, hc0⟩ : ∃ c0, c0 = ch s 0 := ⟨_, rfl⟩
      rw [← hc0] at hix h45
      clear hc0
      clear hu h1
      have hsl := Hd.mk fun w1 => zzSplit_any t _ w1 (by omega) hsp.out
      have htz : (((t.size : Nat) : Int) == 0) = false := beq_false_of_ne (by omega)
      rw [← ht] at hsl htz
      replace ht := Hd.mk ht
      clear hts
      have hF18i : (F.size : Int) ≤ 18 := by omega
      have hFz : ((F.size : Int) == 0) = false := beq_false_of_ne (by omega)
      have hAz : ((A.size : Int) == 0) = false := beq_false_of_ne (by omega)
      have hF19 : decide (18 < (F.size : Int)) = false := decide_eq_false (by omega)
      have hwz : IntKind.i64.wrap (18 - (F.size : Int)) = ((18 - F.size : Nat) : Int) := by rw [IntWalk.i64_in _ (by omega)]; omega
      have hrp := Hd.mk fun w1 => Tryz.strings_Repeat (ByteArray.mk #[48]) (18 - F.size) w1 (by omega) (by show 1 * (18 - F.size) ≤ _; omega)
      generalize hV : (nums (bts A ++ bts F ++ List.replicate (18 - F.size) 48) : Int) = V at *
      have hzz : (⟨(Lib.repeatL (ByteArray.mk #[48]).data.toList (18 - F.size)).toArray⟩ : ByteArray) = zeros (18 - F.size) := rfl
      have hzv : decZ false A F = V := by unfold decZ; rw [hV]; simp
      rw [hzv] at hin ⊢
      have hVw : wlen V.natAbs < 8 := by have := inR_wl hin.out; exact this
      have hzs : (zeros (18 - F.size)).size = (18 - F.size) := by rw [← bts_length, bts_zeros, List.length_replicate]
      have hov1 : ¬ (9223372036854775807 < A.size + F.size) := by omega
      have happ : (A ++ F).size = A.size + F.size := by rw [← bts_length, bts_append, List.length_append, bts_length, bts_length]
      have hov2 : ¬ (9223372036854775807 < (A ++ F).size + (zeros (18 - F.size)).size) := by omega
      have hov3 : ¬ (9223372036854775807 < A.size + F.size + (zeros (18 - F.size)).size) := by omega
      replace happ := Hd.mk happ
      replace hzs := Hd.mk hzs; replace hAt := Hd.mk hAt
      replace hV := Hd.mk hV; replace hzv := Hd.mk hzv; replace hzz := Hd.mk hzz
      go_enter Tryz.func109, Tryz.ntmps109
      go_upto_region 28 with (first
        | (go_at_call 161; refine (hsl.out _).mono ?_; rintro e w2 ⟨v2, rfl, how⟩; have r2 := Hd.mk (r1.out.below how.bel); have er2 := Hd.mk (her1.out.below how.bel); obtain ⟨g, cap, rfl, hcap, hcell⟩ := how.open (by simp); have k0 := hcell 0 _ rfl; have k1 := hcell 1 _ rfl; simp only [List.length_cons, List.length_nil] at hcap; clear how hcell)
        | (go_at_call 163; refine (hrp.out _).mono ?_; rintro e w3 ⟨rfl, hb3⟩; rw [hzz.out]; have r3 := Hd.mk (r2.out.below hb3); have er3 := Hd.mk (er2.out.below hb3); clear hb3)
        | (go_at_call 132; refine (hnw.out w3 r3.out.ok er3.out).mono ?_; rintro e w5 ⟨rfl, hn5⟩; have r5 := Hd.mk (r3.out.new_int hn5); have g5 := r3.out.ge; have l5 := r5.out.ilt upd_same; have s5 := hn5.bel.size; clear hn5))
      have r8 := Hd.mk (r5.out.box #[ptr w3.heap.size] 71)
      have hm8 := Hd.mk (inRange_any _ w3.heap.size V _ _ r8.out.ints upd_same (by have := inR_wl hin.out; omega))
      rw [hin.out] at hm8
      go_upto_region 30 with (go_at_call 116; refine hm8.out.mono ?_; rintro e w9 ⟨rfl, hk9, hI9⟩; have r9 := Hd.mk (r8.out.op hk9 hI9); clear hk9 hI9)
      obtain ⟨c9, c9z, c9l⟩ := r9.out.cell (b := w5.heap.size) updX_same
      obtain ⟨d9, d9z, d9l⟩ := r9.out.cell (b := w.heap.size) (by rw [updX_ne (by omega), updX_same])
      go_wp2
      have r10 := r9.out.set1 (b := w.heap.size) (v' := ptr w3.heap.size) (by rw [updX_ne (by omega), updX_same])
      refine bodyPost_ret (v := .tuple #[.agg #[ptr w3.heap.size], .nilIface]) (by simp [results, Tryz.results109, go_sem, d9, d9z, d9l]) rfl ⟨_, rfl, r10.newI (by rw [upd_same])⟩
    · skip
      have hu := hun.out
      unfold unm at hu
      have h1 : 0 < s.size ∧ ch s 0 = 45 := by
        by_cases h : 0 < s.size ∧ ch s 0 = 45
        · exact h
        · rw [if_neg h] at hu; cases hu
      rw [if_pos h1] at hu
      have ht := (Prod.mk.inj hu).2
      have h12 := h1.2
      have h11 := h1.1
      clear h1
      have hix := ch_eq (s := s) (k := 0) h11
      rw [h12] at hix
      have hss : 1 ≤ s.size := h11
      have hs0 : 0 < s.size := h11
      clear hu h12
      have hsl := Hd.mk fun w1 => zzSplit_any t _ w1 (by omega) hsp.out
      have htz : (((t.size : Nat) : Int) == 0) = false := beq_false_of_ne (by omega)
      have hsm : t.size = s.size - 1 := by rw [← ht, ext_size _ _ _ (Nat.le_refl _)]
      have htz2 : (((s.size - 1 : Nat) : Int) == 0) = false := beq_false_of_ne (by omega)
      replace hsm := Hd.mk hsm
      rw [← ht] at hsl htz
      replace ht := Hd.mk ht
      have hF18i : (F.size : Int) ≤ 18 := by omega
      have hFz : ((F.size : Int) == 0) = false := beq_false_of_ne (by omega)
      have hAz : ((A.size : Int) == 0) = false := beq_false_of_ne (by omega)
      have hF19 : decide (18 < (F.size : Int)) = false := decide_eq_false (by omega)
      have hwz : IntKind.i64.wrap (18 - (F.size : Int)) = ((18 - F.size : Nat) : Int) := by rw [IntWalk.i64_in _ (by omega)]; omega
      have hrp := Hd.mk fun w1 => Tryz.strings_Repeat (ByteArray.mk #[48]) (18 - F.size) w1 (by omega) (by show 1 * (18 - F.size) ≤ _; omega)
      generalize hV : (nums (bts A ++ bts F ++ List.replicate (18 - F.size) 48) : Int) = V at *
      have hzz : (⟨(Lib.repeatL (ByteArray.mk #[48]).data.toList (18 - F.size)).toArray⟩ : ByteArray) = zeros (18 - F.size) := rfl
      have hzv : decZ true A F = -V := by unfold decZ; rw [hV]; simp
      rw [hzv] at hin ⊢
      have hVw : wlen V.natAbs < 8 := by have := inR_wl hin.out; rwa [Int.natAbs_neg] at this
      have hzs : (zeros (18 - F.size)).size = (18 - F.size) := by rw [← bts_length, bts_zeros, List.length_replicate]
      have hov1 : ¬ (9223372036854775807 < A.size + F.size) := by omega
      have happ : (A ++ F).size = A.size + F.size := by rw [← bts_length, bts_append, List.length_append, bts_length, bts_length]
      have hov2 : ¬ (9223372036854775807 < (A ++ F).size + (zeros (18 - F.size)).size) := by omega
      have hov3 : ¬ (9223372036854775807 < A.size + F.size + (zeros (18 - F.size)).size) := by omega
      replace happ := Hd.mk happ
      replace hzs := Hd.mk hzs; replace hAt := Hd.mk hAt
      replace hV := Hd.mk hV; replace hzv := Hd.mk hzv; replace hzz := Hd.mk hzz
      go_enter Tryz.func109, Tryz.ntmps109
      go_upto_region 26 with (first
        | (go_at_call 161; refine (hsl.out _).mono ?_; rintro e w2 ⟨v2, rfl, how⟩; have r2 := Hd.mk (r1.out.below how.bel); have er2 := Hd.mk (her1.out.below how.bel); obtain ⟨g, cap, rfl, hcap, hcell⟩ := how.open (by simp); have k0 := hcell 0 _ rfl; have k1 := hcell 1 _ rfl; simp only [List.length_cons, List.length_nil] at hcap; clear how hcell)
        | (go_at_call 163; refine (hrp.out _).mono ?_; rintro e w3 ⟨rfl, hb3⟩; rw [hzz.out]; have r3 := Hd.mk (r2.out.below hb3); have er3 := Hd.mk (er2.out.below hb3); clear hb3)
        | (go_at_call 132; refine (hnw.out w3 r3.out.ok er3.out).mono ?_; rintro e w5 ⟨rfl, hn5⟩; have r5 := Hd.mk (r3.out.new_int hn5); have g5 := r3.out.ge; have l5 := r5.out.ilt upd_same; have s5 := hn5.bel.size; clear hn5))
      have r6 := Hd.mk (r5.out.new_int (NewI.of_new _))
      have hm6 := Hd.mk (INeg_any _ w5.heap.size w3.heap.size 0 V _ _ r6.out.ints upd_same (by rw [upd_ne (by omega), upd_same]) (by omega))
      go_upto_region 28 with (go_at_call 146; refine hm6.out.mono ?_; rintro e w7 ⟨rfl, hk7, hI7⟩; have r7 := Hd.mk (r6.out.op hk7 hI7); have s7 := hk7.size; (try simp only [World.size_alloc] at s7); clear hk7 hI7)
      have r8 := Hd.mk (r7.out.box #[ptr w5.heap.size] 71)
      have hm8 := Hd.mk (inRange_any _ w5.heap.size (-V) _ _ r8.out.ints upd_same (by have := inR_wl hin.out; omega))
      rw [hin.out] at hm8
      go_upto_region 30 with (go_at_call 116; refine hm8.out.mono ?_; rintro e w9 ⟨rfl, hk9, hI9⟩; have r9 := Hd.mk (r8.out.op hk9 hI9); clear hk9 hI9)
      obtain ⟨c9, c9z, c9l⟩ := r9.out.cell (b := w7.heap.size) updX_same
      obtain ⟨d9, d9z, d9l⟩ := r9.out.cell (b := w.heap.size) (by rw [updX_ne (by omega), updX_same])
      go_wp2
      have r10 := r9.out.set1 (b := w.heap.size) (v' := ptr w5.heap.size) (by rw [updX_ne (by omega), updX_same])
      refine bodyPost_ret (v := .tuple #[.agg #[ptr w5.heap.size], .nilIface]) (by simp [results, Tryz.results109, go_sem, d9, d9z, d9l]) rfl ⟨_, rfl, r10.newI (by rw [upd_same])⟩
end Go.Proofs.YtpabbnogfflgpaaGreatDoor
end

section
namespace Go.Proofs.YtpabbnogfflgpaaGreatDoor
open Go.RowKit
set_option maxRecDepth 100000
set_option maxHeartbeats 2000000 in
theorem DecParseC_ok (bs bu bk : Nat) (s : ByteArray) (z : Int) (w : World) (hok : Ok w) (her : Er w) (hb : Blk w bs 9 [.string s]) (hu : Blk w bu 9 [.string (ByteArray.mk #[])]) (hk : Blk w bk 4 [.bool false])
    (hd : bs ≠ bu ∧ bs ≠ bk ∧ bu ≠ bk) (hb1 : 18 ≤ bu) (hk1 : 18 ≤ bk) (hz : inR z = true)
    (hf : ∀ w1, Ok w1 → Er w1 → Calls Tryz.prog 109 #[.string s] w1 fun e w' => ∃ B, e = .returned (.tuple #[.agg #[ptr B], .nilIface]) ∧ NewI w1 w' B z) :
    Calls Tryz.prog 108 #[ptr bs, ptr bu, ptr bk] w fun e w' => e = .returned (.tuple #[]) ∧ C2 w w' bu bk ∧ Blk w' bu 9 [.string (zT z)] ∧ Blk w' bk 4 [.bool true] := by
  have r0 := Hd.mk (Run.start2 hok hu hk hb1 hk1 hd.2.2)
  have hPs := Hd.mk (p := But2 w bu bk bs) ⟨hb.lt, hd.1, hd.2.1⟩
  have cs := hb.cell 0
  simp only [List.getElem?_cons_zero] at cs
  have lu := hu.lt
  have lk := hk.lt
  have hpz := Hd.mk fun (Q : Nat → Prop) B S1 w1 (h : Ints Q w1 S1) (h1 : S1 B = some z) => parts_ok Q B z S1 w1 h h1 (Nat.le_of_lt (inR_wl hz))
  have hf0 := Hd.mk (hf w hok her)
  have hnn := nil_nil
  have hbk := Hd.mk hd.2.2
  clear hf hok her hz
  generalize zT z = sz at *
  replace hb := Hd.mk hb
  replace hu := Hd.mk hu
  replace hk := Hd.mk hk
  go_enter Tryz.func108, Tryz.ntmps108
  go_upto_region 1 with (go_at_call 109; refine hf0.out.mono ?_; rintro e w2 ⟨B2, rfl, hn2⟩; have r2 := Hd.mk (r0.out.new_int hn2); have g2 := hn2.bel.size; clear hn2)
  have r3 := Hd.mk (r2.out.box #[ptr B2] 71)
  have hmp := Hd.mk (hpz.out _ B2 _ _ r3.out.ints upd_same)
  go_wp2_with (go_at_call 52; refine hmp.out.mono ?_; rintro e w4 ⟨rfl, hk4, hI4⟩; have r4 := Hd.mk (r3.out.op hk4 hI4); clear hk4 hI4; obtain ⟨u4, u4z, u4l⟩ := r4.out.cell (b := bu) (by rw [updX_ne (by omega), updX_ne hbk.out, updX_same]); obtain ⟨k4, k4z, k4l⟩ := r4.out.cell (b := bk) (by rw [updX_ne (by omega), updX_same]))
  have r5 := Hd.mk (r4.out.set1 (b := bu) (v' := .string sz) (by rw [updX_ne (by omega), updX_ne hbk.out, updX_same]))
  have r6 := Hd.mk (r5.out.set1 (b := bk) (v' := .bool true) (by rw [updX_ne (fun e => hbk.out e.symm), updX_ne (by omega), updX_same]))
  have hU := Hd.mk (r6.out.bx bu _ _ (by rw [updX_ne hbk.out, updX_same]))
  have hK := Hd.mk (r6.out.bx bk _ _ updX_same)
  have hkk := Hd.mk r6.out.keep
  go_end0
  exact ⟨rfl, ⟨hkk.out.os, hkk.out.tape, hkk.out.output, hkk.out.size, fun k h1 h2 h3 => hkk.out.block k ⟨h1, h2, h3⟩ h1⟩, hU.out, hK.out⟩
/-- The boxes of a parsing. -/
abbrev paW (w : World) (s : ByteArray) : World := ((w.alloc (.cells #[.string s] 9)).alloc (.cells #[.string (ByteArray.mk #[])] 9)).alloc (.cells #[.bool false] 4)
theorem paW_below (w : World) (s : ByteArray) : Below w.heap.size w (paW w s) := (((Below.refl _ _).alloc (Nat.le_refl _) _).alloc (by simp only [World.size_alloc]; omega) _).alloc (by simp only [World.size_alloc]; omega) _
theorem paW_blk (w : World) (s : ByteArray) : Blk (paW w s) w.heap.size 9 [.string s] ∧ Blk (paW w s) (w.heap.size + 1) 9 [.string (ByteArray.mk #[])] ∧ Blk (paW w s) (w.heap.size + 2) 4 [.bool false] := by
  have h1 := Blk.new w #[.string s] 9
  have h2 := Blk.new (w.alloc (.cells #[.string s] 9)) #[.string (ByteArray.mk #[])] 9
  have h3 := Blk.new ((w.alloc (.cells #[.string s] 9)).alloc (.cells #[.string (ByteArray.mk #[])] 9)) #[.bool false] 4
  simp only [World.size_alloc] at h1 h2 h3
  exact ⟨(h1.alloc _).alloc _, h2.alloc _, h3⟩
set_option maxHeartbeats 2000000 in
theorem DecParse_ok (s : ByteArray) (z : Int) (w : World) (hok : Ok w) (her : Er w) (hz : inR z = true)
    (hf : ∀ w1, Ok w1 → Er w1 → Calls Tryz.prog 109 #[.string s] w1 fun e w' => ∃ B, e = .returned (.tuple #[.agg #[ptr B], .nilIface]) ∧ NewI w1 w' B z) :
    Calls Tryz.prog 35 #[.string s] w fun e w' => e = .returned (.tuple #[.string (zT z), .bool true]) ∧ Below w.heap.size w w' := by
  obtain ⟨h1, h2, h3⟩ := paW_blk w s
  have hb1 := paW_below w s
  have hs1 : (paW w s).heap.size = w.heap.size + 3 := by simp only [World.size_alloc]
  have h100 := hok.2
  generalize hW : paW w s = w1 at *
  have hb2 : Below w1.heap.size w1 (okW w1) := (Below.refl _ _).alloc (Nat.le_refl _) _
  have hb3 := hb1.trans (hb2.mono hb1.size)
  have hs2 : (okW w1).heap.size = w1.heap.size + 1 := World.size_alloc _ _
  have hc := DecParseC_ok w.heap.size (w.heap.size + 1) (w.heap.size + 2) s z (okW w1) (hok.below hb3) (her.below hb3) (h1.alloc _) (h2.alloc _) (h3.alloc _) (by omega) (by omega) (by omega) hz hf
  generalize zT z = sz at *
  have hsf := Hd.mk (safe_ok 108 _ w1 (fun w2 => C2 (okW w1) w2 (w.heap.size + 1) (w.heap.size + 2) ∧ Blk w2 (w.heap.size + 1) 9 [.string sz] ∧ Blk w2 (w.heap.size + 2) 4 [.bool true]) (enters Tryz.func108 (by kernel_rfl) (by kernel_rfl)) (hc.mono fun e w2 ⟨q2, q1, q3, q4⟩ => ⟨q2, q1.block _ (by omega) (by omega) (by omega), q1, q3, q4⟩))
  have hfin : Hd (∀ w2 w3, C2 (okW w1) w2 (w.heap.size + 1) (w.heap.size + 2) → Put w2 w3 w1.heap.size 4 [.bool true] → Below w.heap.size w w3) := ⟨fun w2 w3 q1 q2 => q2.bel (q1.below hb3 (by omega) (by omega)) hb1.size⟩
  have hmf : ∀ (fn : Fn) (first cap : Array Value) (w : World), (Instr.makeFunc fn first cap).run Tryz.prog w = .ok (.func fn first cap) w := fun _ _ _ _ => rfl
  have hne : w.heap.size + 1 ≠ w1.heap.size ∧ w.heap.size + 2 ≠ w1.heap.size := by omega
  clear hf hc h1 h2 h3 hb1 hb2 hb3 hok her hz
  go_enter Tryz.func35, Tryz.ntmps35
  go_wp2_with fail
  refine hsf.out.mono ?_
  rintro e w3 ⟨rfl, w2, ⟨hc2, hu2, hk2⟩, hp3⟩
  have hb3 := Hd.mk (hfin.out w2 w3 hc2 hp3)
  have hu3 := hp3.blk hu2 hne.1
  have hk3 := hp3.blk hk2 hne.2
  have cu : w3.cell? ⟨w.heap.size + 1, 0, none⟩ = some (.string sz) := hu3.cell 0
  have ck : w3.cell? ⟨w.heap.size + 1 + 1, 0, none⟩ = some (.bool true) := hk3.cell 0
  have zu : w3.frozen? ⟨w.heap.size + 1, 0, none⟩ = false := hu3.frozen 0
  have zk : w3.frozen? ⟨w.heap.size + 1 + 1, 0, none⟩ = false := hk3.frozen 0
  have lu : w.heap.size + 1 < w3.heap.size := hu3.lt
  have lk : w.heap.size + 1 + 1 < w3.heap.size := hk3.lt
  clear hu3 hk3 hu2 hk2 hc2 hp3 hsf hfin
  go_wp2
  refine bodyPost_ret (v := .tuple #[.string sz, .bool true]) (by simp [results, Tryz.results35, go_sem, cu, ck, zu, zk, lu, lk]) rfl ⟨rfl, ?_⟩
  (repeat first | exact hb3.out | refine Below.setCell ?_ (by dsimp only; omega) _)
end Go.Proofs.YtpabbnogfflgpaaGreatDoor
end

section
namespace Go.Proofs.YtpabbnogfflgpaaGreatDoor
open Go.RowKit
set_option maxRecDepth 100000
def txtV (t : List Nat) : List Value := t.map fun (c : Nat) => Value.int .u8 (c : Int)
theorem own_txt {w : World} {base g n cap : Nat} {t : List Nat} (h : w.ownsRow base 5 1 (.slice (some ⟨g, 0, none⟩) n cap) n (txtV t)) : TxtAt w g 0 t ∧ base ≤ g ∧ n ≤ cap := by
  rcases h.2 with ⟨h1, h2⟩ | ⟨g', cap', cur, h1, h3, h4, h5, h6, h7, h8⟩
  · cases h1
  · cases h1
    refine ⟨fun j c hj => ?_, h3, h5⟩
    rw [Nat.zero_add, cell_of_row w g j cur _ _ h4]
    have hl : (txtV t).length = n := by have := h.1; omega
    have hj' : j < t.length := (List.getElem?_eq_some_iff.1 hj).1
    have h9 : (txtV t)[j]? = some (.int .u8 (c : Int)) := by unfold txtV; rw [List.getElem?_map, hj]; rfl
    have hn : j < n := by unfold txtV at hl; rw [List.length_map] at hl; omega
    rw [← h8, List.getElem?_take_of_lt (by omega)] at h9
    simpa using h9
set_option maxHeartbeats 2000000 in
theorem IAppend_any (P : Nat → Prop) (B : Nat) (x : Int) (S : Nat → Option Int) (w : World) (hI : Ints P w S) (hx : S B = some x) (hw : wlen x.natAbs ≤ 8) :
    Calls Tryz.prog 231 #[ptr B, .slice none 0 0, .int .i64 10] w fun e w' => ∃ g cap, e = .returned (.slice (some ⟨g, 0, none⟩) (ztx x).length cap) ∧ (ztx x).length ≤ cap ∧ TxtAt w' g 0 (ztx x) ∧ w.heap.size ≤ g ∧ Below w.heap.size w w' := by
  have hg := hI.gl
  obtain ⟨own, hst⟩ := hI
  obtain ⟨A, cap, hb, hn, g0, g1, h3, h4⟩ := (hst.at_ B x hx).open
  have hit := fun w1 (hb1 : Below w.heap.size w w1) => itoa_any _ x.natAbs (decide (x < 0)) (own B) w1 (hn.below hb1) hw (hg.below hb1)
  have hz : (decide (x < 0) && x.natAbs != 0) = decide (x < 0) := by
    by_cases h : x < 0
    · rw [decide_eq_true h]; simp; omega
    · rw [decide_eq_false h]; rfl
  rw [hz] at hit
  have hzt : dtxt (decide (x < 0)) x.natAbs = ztx x := rfl
  have hzl : (ztx x).length ≤ 1000 ∧ 0 < (ztx x).length := by
    have h1 : x.natAbs < 10 ^ 170 := Nat.lt_of_lt_of_le ((wlen_le_iff 8 _).1 hw) (by decide)
    have h2 := dlen_pos x.natAbs
    have h3 : dlen x.natAbs ≤ 170 := by
      by_cases h0 : x.natAbs = 0
      · rw [h0, dlen_small (by decide)]; omega
      · exact dlen_le_of h1 h0
    rw [ztx_length]; split <;> omega
  have hzc : ∀ c, c ∈ ztx x → c < 256 := fun c hc => ztx_lt hc
  rw [hzt] at hit
  generalize decide (x < 0) = nb at *
  generalize ztx x = t at *
  replace hit := Hd.mk hit
  replace hst := Hd.mk hst
  replace hn := Hd.mk hn
  replace hb := Hd.mk hb
  replace hg := Hd.mk hg
  replace hz := Hd.mk hz
  replace hzt := Hd.mk hzt
  replace hx := Hd.mk hx
  replace hzl := Hd.mk hzl
  replace hzc := Hd.mk hzc
  obtain ⟨i8, hi8, hz8, hsz8, hby8⟩ := u8info
  go_enter Tryz.func231, Tryz.ntmps231
  go_wp2
  go_region_law (first
    | (refine step_append_lies _ rfl (.tmp 11) (.tmp 21) 22 rfl w.heap.size 5 i8 (.int .u8 0) 1 1 Tryz.underlying22 hi8 hz8 hsz8 hby8 rfl (by decide) (.slice none 0 0) 0 [] rfl (World.ownsRow_nil _ _ _ _) ⟨Sx, ix, none⟩ l l (txtV t) rfl (by rw [hl.out]; unfold txtV; rw [List.length_map, Nat.mul_one]) (fun j u hu => by unfold txtV at hu; rw [List.getElem?_map] at hu; cases hj : t[j]? with | none => (rw [hj] at hu; cases hu) | some c => (rw [hj] at hu; cases hu; rw [Addr.add_lit]; exact ht.out j c hj)) (fun u hu => by unfold txtV at hu; obtain ⟨_, _, rfl⟩ := List.mem_map.1 hu; rfl) (by have := hzl.out; have := hl.out; omega) (by have := hzl.out; have := hl.out; unfold maxLen; omega) (by have := hzl.out; have := hl.out; omega) hbel.out.size _ rfl ?_; intro g cap9 w9 q1 q2 q3 q4)
    | (go_simp; go_at_call 214; refine (hit.out _ (below_drew _)).mono ?_; rintro e w2 ⟨Sx, ix, l, rfl, hc2, hS, hl, ht⟩; have hbel := Hd.mk (below_undrew hc2.none_below); clear hc2 hS; replace hl := Hd.mk hl; replace ht := Hd.mk ht))
  all_goals
    rw [Nat.zero_add, List.nil_append] at q1
    obtain ⟨q5, q6, q7⟩ := own_txt q1
    have q8 := Below.grown hbel.out q2 (fun K hK => by cases hK) hbel.out.size
    go_wp2
    go_ret
    exact ⟨g, cap9, by rw [← hl.out]; rfl, by rw [← hl.out]; exact q7, q5, q6, q8⟩
set_option maxHeartbeats 1000000 in
theorem IAppendText_any (P : Nat → Prop) (B : Nat) (x : Int) (S : Nat → Option Int) (w : World) (hI : Ints P w S) (hx : S B = some x) (hw : wlen x.natAbs ≤ 8) :
    Calls Tryz.prog 198 #[ptr B, .slice none 0 0] w fun e w' => ∃ g cap, e = .returned (.tuple #[.slice (some ⟨g, 0, none⟩) (ztx x).length cap, .nilIface]) ∧ (ztx x).length ≤ cap ∧ TxtAt w' g 0 (ztx x) ∧ w.heap.size ≤ g ∧ Below w.heap.size w w' := by
  have h := Hd.mk (IAppend_any P B x S w hI hx hw)
  generalize ztx x = t at *
  replace hI := Hd.mk hI
  replace hx := Hd.mk hx
  go_enter Tryz.func198, Tryz.ntmps198
  go_wp2_with (go_at_call 231; refine h.out.mono ?_; rintro e w1 ⟨g, cap, rfl, h1⟩; replace h1 := Hd.mk h1)
  go_ret2
  exact ⟨g, cap, rfl, h1.out⟩
set_option maxHeartbeats 1000000 in
theorem IMarshal_any (P : Nat → Prop) (B : Nat) (x : Int) (S : Nat → Option Int) (w : World) (hI : Ints P w S) (hx : S B = some x) (hw : wlen x.natAbs ≤ 8) :
    Calls Tryz.prog 164 #[ptr B] w fun e w' => ∃ g cap, e = .returned (.tuple #[.slice (some ⟨g, 0, none⟩) (ztx x).length cap, .nilIface]) ∧ (ztx x).length ≤ cap ∧ TxtAt w' g 0 (ztx x) ∧ w.heap.size ≤ g ∧ Below w.heap.size w w' := by
  have h := Hd.mk (IAppendText_any P B x S w hI hx hw)
  generalize ztx x = t at *
  replace hI := Hd.mk hI
  replace hx := Hd.mk hx
  go_enter Tryz.func164, Tryz.ntmps164
  go_wp2_with (go_at_call 198; refine h.out.mono ?_; rintro e w1 ⟨g, cap, rfl, h1⟩; replace h1 := Hd.mk h1)
  go_ret2
  exact ⟨g, cap, rfl, h1.out⟩
end Go.Proofs.YtpabbnogfflgpaaGreatDoor
end
