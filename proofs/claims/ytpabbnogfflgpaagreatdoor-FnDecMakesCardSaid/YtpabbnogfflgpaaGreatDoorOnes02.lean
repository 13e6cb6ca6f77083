/- The thin package: one decimal changed: the closure. The reference's numbers: Up. The reference: one decimal changed. FnDecOnes: the walk. Conditions: those that each theorem states. -/
import Derived.Test.YtpabbnogfflgpaaGreatDoorOnes01
import Derived.Test.YtpabbnogfflgpaaGreatDoorBase31
import Derived.Test.YtpabbnogfflgpaaGreatDoorBase30
import Derived.Test.YtpabbnogfflgpaaGreatDoorBase28
set_option linter.all false

section
namespace Go.Proofs.YtpabbnogfflgpaaGreatDoor
open Go.RowKit
set_option maxRecDepth 100000
/-- A function of one decimal that hands back a decimal. -/
def OneC (f : Nat) (x z : Int) : Prop := ∀ (Q : Nat → Prop) (BA : Nat) (S : Nat → Option Int) (w1 : World), Ints Q w1 S → S BA = some x →
  Calls Tryz.prog f #[.agg #[ptr BA]] w1 fun e w' => ∃ B9 S', e = .returned (.agg #[ptr B9]) ∧ Keep Q w1 w' ∧ Ints Q w' S' ∧ S' B9 = some z
theorem oneC_new {f : Nat} {x z : Int} (h : ∀ (Q : Nat → Prop) (BA : Nat) (S : Nat → Option Int) (w1 : World), Ints Q w1 S → S BA = some x → Calls Tryz.prog f #[.agg #[ptr BA]] w1 fun e w' => ∃ B, e = .returned (.agg #[ptr B]) ∧ w1.heap.size ≤ B ∧ Keep Q w1 w' ∧ Ints Q w' (upd S B z)) : OneC f x z :=
  fun Q BA S w1 h1 h2 => (h Q BA S w1 h1 h2).mono fun _ _ ⟨B, e, _, hk, hI⟩ => ⟨B, _, e, hk, hI, upd_same⟩
theorem oneC_mut {f : Nat} {x z : Int} (h : ∀ (Q : Nat → Prop) (BA : Nat) (S : Nat → Option Int) (w1 : World), Ints Q w1 S → S BA = some x → Calls Tryz.prog f #[.agg #[ptr BA]] w1 fun e w' => e = .returned (.agg #[ptr BA]) ∧ Keep Q w1 w' ∧ Ints Q w' (upd S BA z)) : OneC f x z :=
  fun Q BA S w1 h1 h2 => (h Q BA S w1 h1 h2).mono fun _ _ ⟨e, hk, hI⟩ => ⟨BA, _, e, hk, hI, upd_same⟩
set_option maxHeartbeats 4000000 in
theorem oneK_Neg (x z : Int) (hx : inR x = true) (hz : wlen z.natAbs ≤ 8) (hop : OneC 77 x z) : oneCl 0 (zT x) false fun e w' bu => e = .returned (.tuple #[]) ∧ Blk w' bu 9 [.string (zT z)] := by
  intro bk ba bm bu w hok her hk ha hm hu hne hu1
  have r0 := Hd.mk (Run.start1 hok hu hu1)
  have hd0 := Hd.mk (decimal_ok x w hok her (inR_130 hx))
  have hpz := Hd.mk fun (Q : Nat → Prop) B S1 w1 (h : Ints Q w1 S1) (h1 : S1 B = some z) => parts_ok Q B z S1 w1 h h1 hz
  have ca := ha.cell 0
  simp only [List.getElem?_cons_zero] at ca
  have la := ha.lt
  have lu := hu.lt
  have hPk := Hd.mk (p := bk < w.heap.size ∧ bk ≠ bu) ⟨hk.lt, hne.1⟩
  have hPm := Hd.mk (p := bm < w.heap.size ∧ bm ≠ bu) ⟨hm.lt, hne.2.2⟩
  generalize zT x = sx at *
  generalize zT z = sz at *
  replace hop := Hd.mk hop
  replace hk := Hd.mk hk
  replace hm := Hd.mk hm
  replace ha := Hd.mk ha
  replace hu := Hd.mk hu
  go_enter Tryz.func75, Tryz.ntmps75
  go_wp2_with fail
  refine (hd0.out).mono ?_
  rintro e w2 ⟨B2, rfl, hn2⟩
  have r2 := Hd.mk (r0.out.new_int hn2)
  have g2 := hn2.ge
  have s2 := hn2.bel.size
  try simp only [World.size_alloc] at g2 s2
  have l2 := r2.out.ilt upd_same
  have q2 := Hd.mk hn2.bel
  clear hn2 r0
  have ck : w2.cell? ⟨bk, 0, none⟩ = some (.int .i64 0) := (r2.out.keep.blk hk.out hPk.out).cell 0
  have cm : w2.cell? ⟨bm, 0, none⟩ = some (.bool false) := (r2.out.keep.blk hm.out hPm.out).cell 0
  have lk2 : bk < w2.heap.size := Nat.lt_of_lt_of_le hPk.out.1 r2.out.ge
  have lm2 : bm < w2.heap.size := Nat.lt_of_lt_of_le hPm.out.1 r2.out.ge
  have r3 := Hd.mk (r2.out.box #[ptr B2] 71)
  clear r2
  have r4 := Hd.mk (r3.out.box #[.pointer none] 71)
  clear r3
  simp only [World.size_alloc] at r4
  have hm4 := Hd.mk (hop.out _ B2 _ _ r4.out.ints upd_same)
  go_wp2_with fail
  refine hm4.out.mono ?_
  rintro e w5 ⟨B5, S5, rfl, hk5, hI5, hB5⟩
  have s5 := hk5.size
  try simp only [World.size_alloc] at s5
  have r5 := Hd.mk (r4.out.op hk5 hI5)
  clear hk5 hI5 r4 hm4
  replace hB5 := Hd.mk hB5
  obtain ⟨c5, c5z, c5l⟩ := r5.out.cell (b := (w2.heap.size + 1)) updX_same
  have r6 := Hd.mk (r5.out.set1 (b := w2.heap.size + 1) (v := .pointer none) (v' := ptr B5) updX_same)
  have hm6 := Hd.mk (hpz.out _ B5 _ _ r6.out.ints hB5.out)
  go_wp2_with fail
  refine hm6.out.mono ?_
  rintro e w7 ⟨rfl, hk7, hI7⟩
  have r7 := Hd.mk (r6.out.op hk7 hI7)
  clear hk7 hI7 hm6 r6
  have hub : updX (updX (updX (updX (fun _ => Option.none) bu (9, [Value.string (ByteArray.mk #[])])) w2.heap.size (71, [ptr B2])) (w2.heap.size + 1) (71, [Value.pointer none])) (w2.heap.size + 1) (71, [ptr B5]) bu = some (9, [Value.string (ByteArray.mk #[])]) := by
    rw [updX_ne (by omega), updX_ne (by omega), updX_ne (by omega), updX_same]
  obtain ⟨u7, u7z, u7l⟩ := r7.out.cell (b := bu) hub
  have r8 := Hd.mk (r7.out.set1 (v' := .string sz) hub)
  have hkk := Hd.mk r8.out.keep
  have hub8 := Hd.mk (r8.out.bx bu _ _ updX_same)
  go_wp2
  go_end0
  exact ⟨hkk.out, rfl, hub8.out⟩
set_option maxHeartbeats 4000000 in
theorem oneK_NegMut (x z : Int) (hx : inR x = true) (hz : wlen z.natAbs ≤ 8) (hop : OneC 76 x z) : oneCl 0 (zT x) true fun e w' bu => e = .returned (.tuple #[]) ∧ Blk w' bu 9 [.string (zT z)] := by
  intro bk ba bm bu w hok her hk ha hm hu hne hu1
  have r0 := Hd.mk (Run.start1 hok hu hu1)
  have hd0 := Hd.mk (decimal_ok x w hok her (inR_130 hx))
  have hpz := Hd.mk fun (Q : Nat → Prop) B S1 w1 (h : Ints Q w1 S1) (h1 : S1 B = some z) => parts_ok Q B z S1 w1 h h1 hz
  have ca := ha.cell 0
  simp only [List.getElem?_cons_zero] at ca
  have la := ha.lt
  have lu := hu.lt
  have hPk := Hd.mk (p := bk < w.heap.size ∧ bk ≠ bu) ⟨hk.lt, hne.1⟩
  have hPm := Hd.mk (p := bm < w.heap.size ∧ bm ≠ bu) ⟨hm.lt, hne.2.2⟩
  generalize zT x = sx at *
  generalize zT z = sz at *
  replace hop := Hd.mk hop
  replace hk := Hd.mk hk
  replace hm := Hd.mk hm
  replace ha := Hd.mk ha
  replace hu := Hd.mk hu
  go_enter Tryz.func75, Tryz.ntmps75
  go_wp2_with fail
  refine (hd0.out).mono ?_
  rintro e w2 ⟨B2, rfl, hn2⟩
  have r2 := Hd.mk (r0.out.new_int hn2)
  have g2 := hn2.ge
  have s2 := hn2.bel.size
  try simp only [World.size_alloc] at g2 s2
  have l2 := r2.out.ilt upd_same
  have q2 := Hd.mk hn2.bel
  clear hn2 r0
  have ck : w2.cell? ⟨bk, 0, none⟩ = some (.int .i64 0) := (r2.out.keep.blk hk.out hPk.out).cell 0
  have cm : w2.cell? ⟨bm, 0, none⟩ = some (.bool true) := (r2.out.keep.blk hm.out hPm.out).cell 0
  have lk2 : bk < w2.heap.size := Nat.lt_of_lt_of_le hPk.out.1 r2.out.ge
  have lm2 : bm < w2.heap.size := Nat.lt_of_lt_of_le hPm.out.1 r2.out.ge
  have r3 := Hd.mk (r2.out.box #[ptr B2] 71)
  clear r2
  have r4 := Hd.mk (r3.out.box #[.pointer none] 71)
  clear r3
  simp only [World.size_alloc] at r4
  have hm4 := Hd.mk (hop.out _ B2 _ _ r4.out.ints upd_same)
  go_wp2_with fail
  refine hm4.out.mono ?_
  rintro e w5 ⟨B5, S5, rfl, hk5, hI5, hB5⟩
  have s5 := hk5.size
  try simp only [World.size_alloc] at s5
  have r5 := Hd.mk (r4.out.op hk5 hI5)
  clear hk5 hI5 r4 hm4
  replace hB5 := Hd.mk hB5
  obtain ⟨c5, c5z, c5l⟩ := r5.out.cell (b := (w2.heap.size + 1)) updX_same
  have r6 := Hd.mk (r5.out.set1 (b := w2.heap.size + 1) (v := .pointer none) (v' := ptr B5) updX_same)
  have hm6 := Hd.mk (hpz.out _ B5 _ _ r6.out.ints hB5.out)
  go_wp2_with fail
  refine hm6.out.mono ?_
  rintro e w7 ⟨rfl, hk7, hI7⟩
  have r7 := Hd.mk (r6.out.op hk7 hI7)
  clear hk7 hI7 hm6 r6
  have hub : updX (updX (updX (updX (fun _ => Option.none) bu (9, [Value.string (ByteArray.mk #[])])) w2.heap.size (71, [ptr B2])) (w2.heap.size + 1) (71, [Value.pointer none])) (w2.heap.size + 1) (71, [ptr B5]) bu = some (9, [Value.string (ByteArray.mk #[])]) := by
    rw [updX_ne (by omega), updX_ne (by omega), updX_ne (by omega), updX_same]
  obtain ⟨u7, u7z, u7l⟩ := r7.out.cell (b := bu) hub
  have r8 := Hd.mk (r7.out.set1 (v' := .string sz) hub)
  have hkk := Hd.mk r8.out.keep
  have hub8 := Hd.mk (r8.out.bx bu _ _ updX_same)
  go_wp2
  go_end0
  exact ⟨hkk.out, rfl, hub8.out⟩
set_option maxHeartbeats 4000000 in
theorem oneK_Abs (x z : Int) (hx : inR x = true) (hz : wlen z.natAbs ≤ 8) (hop : OneC 79 x z) : oneCl 1 (zT x) false fun e w' bu => e = .returned (.tuple #[]) ∧ Blk w' bu 9 [.string (zT z)] := by
  intro bk ba bm bu w hok her hk ha hm hu hne hu1
  have r0 := Hd.mk (Run.start1 hok hu hu1)
  have hd0 := Hd.mk (decimal_ok x w hok her (inR_130 hx))
  have hpz := Hd.mk fun (Q : Nat → Prop) B S1 w1 (h : Ints Q w1 S1) (h1 : S1 B = some z) => parts_ok Q B z S1 w1 h h1 hz
  have ca := ha.cell 0
  simp only [List.getElem?_cons_zero] at ca
  have la := ha.lt
  have lu := hu.lt
  have hPk := Hd.mk (p := bk < w.heap.size ∧ bk ≠ bu) ⟨hk.lt, hne.1⟩
  have hPm := Hd.mk (p := bm < w.heap.size ∧ bm ≠ bu) ⟨hm.lt, hne.2.2⟩
  generalize zT x = sx at *
  generalize zT z = sz at *
  replace hop := Hd.mk hop
  replace hk := Hd.mk hk
  replace hm := Hd.mk hm
  replace ha := Hd.mk ha
  replace hu := Hd.mk hu
  go_enter Tryz.func75, Tryz.ntmps75
  go_wp2_with fail
  refine (hd0.out).mono ?_
  rintro e w2 ⟨B2, rfl, hn2⟩
  have r2 := Hd.mk (r0.out.new_int hn2)
  have g2 := hn2.ge
  have s2 := hn2.bel.size
  try simp only [World.size_alloc] at g2 s2
  have l2 := r2.out.ilt upd_same
  have q2 := Hd.mk hn2.bel
  clear hn2 r0
  have ck : w2.cell? ⟨bk, 0, none⟩ = some (.int .i64 1) := (r2.out.keep.blk hk.out hPk.out).cell 0
  have cm : w2.cell? ⟨bm, 0, none⟩ = some (.bool false) := (r2.out.keep.blk hm.out hPm.out).cell 0
  have lk2 : bk < w2.heap.size := Nat.lt_of_lt_of_le hPk.out.1 r2.out.ge
  have lm2 : bm < w2.heap.size := Nat.lt_of_lt_of_le hPm.out.1 r2.out.ge
  have r3 := Hd.mk (r2.out.box #[ptr B2] 71)
  clear r2
  have r4 := Hd.mk (r3.out.box #[.pointer none] 71)
  clear r3
  simp only [World.size_alloc] at r4
  have hm4 := Hd.mk (hop.out _ B2 _ _ r4.out.ints upd_same)
  go_wp2_with fail
  refine hm4.out.mono ?_
  rintro e w5 ⟨B5, S5, rfl, hk5, hI5, hB5⟩
  have s5 := hk5.size
  try simp only [World.size_alloc] at s5
  have r5 := Hd.mk (r4.out.op hk5 hI5)
  clear hk5 hI5 r4 hm4
  replace hB5 := Hd.mk hB5
  obtain ⟨c5, c5z, c5l⟩ := r5.out.cell (b := (w2.heap.size + 1)) updX_same
  have r6 := Hd.mk (r5.out.set1 (b := w2.heap.size + 1) (v := .pointer none) (v' := ptr B5) updX_same)
  have hm6 := Hd.mk (hpz.out _ B5 _ _ r6.out.ints hB5.out)
  go_wp2_with fail
  refine hm6.out.mono ?_
  rintro e w7 ⟨rfl, hk7, hI7⟩
  have r7 := Hd.mk (r6.out.op hk7 hI7)
  clear hk7 hI7 hm6 r6
  have hub : updX (updX (updX (updX (fun _ => Option.none) bu (9, [Value.string (ByteArray.mk #[])])) w2.heap.size (71, [ptr B2])) (w2.heap.size + 1) (71, [Value.pointer none])) (w2.heap.size + 1) (71, [ptr B5]) bu = some (9, [Value.string (ByteArray.mk #[])]) := by
    rw [updX_ne (by omega), updX_ne (by omega), updX_ne (by omega), updX_same]
  obtain ⟨u7, u7z, u7l⟩ := r7.out.cell (b := bu) hub
  have r8 := Hd.mk (r7.out.set1 (v' := .string sz) hub)
  have hkk := Hd.mk r8.out.keep
  have hub8 := Hd.mk (r8.out.bx bu _ _ updX_same)
  go_wp2
  go_end0
  exact ⟨hkk.out, rfl, hub8.out⟩
set_option maxHeartbeats 4000000 in
theorem oneK_AbsMut (x z : Int) (hx : inR x = true) (hz : wlen z.natAbs ≤ 8) (hop : OneC 78 x z) : oneCl 1 (zT x) true fun e w' bu => e = .returned (.tuple #[]) ∧ Blk w' bu 9 [.string (zT z)] := by
  intro bk ba bm bu w hok her hk ha hm hu hne hu1
  have r0 := Hd.mk (Run.start1 hok hu hu1)
  have hd0 := Hd.mk (decimal_ok x w hok her (inR_130 hx))
  have hpz := Hd.mk fun (Q : Nat → Prop) B S1 w1 (h : Ints Q w1 S1) (h1 : S1 B = some z) => parts_ok Q B z S1 w1 h h1 hz
  have ca := ha.cell 0
  simp only [List.getElem?_cons_zero] at ca
  have la := ha.lt
  have lu := hu.lt
  have hPk := Hd.mk (p := bk < w.heap.size ∧ bk ≠ bu) ⟨hk.lt, hne.1⟩
  have hPm := Hd.mk (p := bm < w.heap.size ∧ bm ≠ bu) ⟨hm.lt, hne.2.2⟩
  generalize zT x = sx at *
  generalize zT z = sz at *
  replace hop := Hd.mk hop
  replace hk := Hd.mk hk
  replace hm := Hd.mk hm
  replace ha := Hd.mk ha
  replace hu := Hd.mk hu
  go_enter Tryz.func75, Tryz.ntmps75
  go_wp2_with fail
  refine (hd0.out).mono ?_
  rintro e w2 ⟨B2, rfl, hn2⟩
  have r2 := Hd.mk (r0.out.new_int hn2)
  have g2 := hn2.ge
  have s2 := hn2.bel.size
  try simp only [World.size_alloc] at g2 s2
  have l2 := r2.out.ilt upd_same
  have q2 := Hd.mk hn2.bel
  clear hn2 r0
  have ck : w2.cell? ⟨bk, 0, none⟩ = some (.int .i64 1) := (r2.out.keep.blk hk.out hPk.out).cell 0
  have cm : w2.cell? ⟨bm, 0, none⟩ = some (.bool true) := (r2.out.keep.blk hm.out hPm.out).cell 0
  have lk2 : bk < w2.heap.size := Nat.lt_of_lt_of_le hPk.out.1 r2.out.ge
  have lm2 : bm < w2.heap.size := Nat.lt_of_lt_of_le hPm.out.1 r2.out.ge
  have r3 := Hd.mk (r2.out.box #[ptr B2] 71)
  clear r2
  have r4 := Hd.mk (r3.out.box #[.pointer none] 71)
  clear r3
  simp only [World.size_alloc] at r4
  have hm4 := Hd.mk (hop.out _ B2 _ _ r4.out.ints upd_same)
  go_wp2_with fail
  refine hm4.out.mono ?_
  rintro e w5 ⟨B5, S5, rfl, hk5, hI5, hB5⟩
  have s5 := hk5.size
  try simp only [World.size_alloc] at s5
  have r5 := Hd.mk (r4.out.op hk5 hI5)
  clear hk5 hI5 r4 hm4
  replace hB5 := Hd.mk hB5
  obtain ⟨c5, c5z, c5l⟩ := r5.out.cell (b := (w2.heap.size + 1)) updX_same
  have r6 := Hd.mk (r5.out.set1 (b := w2.heap.size + 1) (v := .pointer none) (v' := ptr B5) updX_same)
  have hm6 := Hd.mk (hpz.out _ B5 _ _ r6.out.ints hB5.out)
  go_wp2_with fail
  refine hm6.out.mono ?_
  rintro e w7 ⟨rfl, hk7, hI7⟩
  have r7 := Hd.mk (r6.out.op hk7 hI7)
  clear hk7 hI7 hm6 r6
  have hub : updX (updX (updX (updX (fun _ => Option.none) bu (9, [Value.string (ByteArray.mk #[])])) w2.heap.size (71, [ptr B2])) (w2.heap.size + 1) (71, [Value.pointer none])) (w2.heap.size + 1) (71, [ptr B5]) bu = some (9, [Value.string (ByteArray.mk #[])]) := by
    rw [updX_ne (by omega), updX_ne (by omega), updX_ne (by omega), updX_same]
  obtain ⟨u7, u7z, u7l⟩ := r7.out.cell (b := bu) hub
  have r8 := Hd.mk (r7.out.set1 (v' := .string sz) hub)
  have hkk := Hd.mk r8.out.keep
  have hub8 := Hd.mk (r8.out.bx bu _ _ updX_same)
  go_wp2
  go_end0
  exact ⟨hkk.out, rfl, hub8.out⟩
set_option maxHeartbeats 4000000 in
theorem oneK_Ceil (m : Bool) (x z : Int) (hx : inR x = true) (hz : wlen z.natAbs ≤ 8) (hop : OneC 80 x z) : oneCl 2 (zT x) m fun e w' bu => e = .returned (.tuple #[]) ∧ Blk w' bu 9 [.string (zT z)] := by
  intro bk ba bm bu w hok her hk ha hm hu hne hu1
  have r0 := Hd.mk (Run.start1 hok hu hu1)
  have hd0 := Hd.mk (decimal_ok x w hok her (inR_130 hx))
  have hpz := Hd.mk fun (Q : Nat → Prop) B S1 w1 (h : Ints Q w1 S1) (h1 : S1 B = some z) => parts_ok Q B z S1 w1 h h1 hz
  have ca := ha.cell 0
  simp only [List.getElem?_cons_zero] at ca
  have la := ha.lt
  have lu := hu.lt
  have hPk := Hd.mk (p := bk < w.heap.size ∧ bk ≠ bu) ⟨hk.lt, hne.1⟩
  have hPm := Hd.mk (p := bm < w.heap.size ∧ bm ≠ bu) ⟨hm.lt, hne.2.2⟩
  generalize zT x = sx at *
  generalize zT z = sz at *
  replace hop := Hd.mk hop
  replace hk := Hd.mk hk
  replace hm := Hd.mk hm
  replace ha := Hd.mk ha
  replace hu := Hd.mk hu
  go_enter Tryz.func75, Tryz.ntmps75
  go_wp2_with fail
  refine (hd0.out).mono ?_
  rintro e w2 ⟨B2, rfl, hn2⟩
  have r2 := Hd.mk (r0.out.new_int hn2)
  have g2 := hn2.ge
  have s2 := hn2.bel.size
  try simp only [World.size_alloc] at g2 s2
  have l2 := r2.out.ilt upd_same
  have q2 := Hd.mk hn2.bel
  clear hn2 r0
  have ck : w2.cell? ⟨bk, 0, none⟩ = some (.int .i64 2) := (r2.out.keep.blk hk.out hPk.out).cell 0
  have cm : w2.cell? ⟨bm, 0, none⟩ = some (.bool m) := (r2.out.keep.blk hm.out hPm.out).cell 0
  have lk2 : bk < w2.heap.size := Nat.lt_of_lt_of_le hPk.out.1 r2.out.ge
  have lm2 : bm < w2.heap.size := Nat.lt_of_lt_of_le hPm.out.1 r2.out.ge
  have r3 := Hd.mk (r2.out.box #[ptr B2] 71)
  clear r2
  have r4 := Hd.mk (r3.out.box #[.pointer none] 71)
  clear r3
  simp only [World.size_alloc] at r4
  have hm4 := Hd.mk (hop.out _ B2 _ _ r4.out.ints upd_same)
  go_wp2_with fail
  refine hm4.out.mono ?_
  rintro e w5 ⟨B5, S5, rfl, hk5, hI5, hB5⟩
  have s5 := hk5.size
  try simp only [World.size_alloc] at s5
  have r5 := Hd.mk (r4.out.op hk5 hI5)
  clear hk5 hI5 r4 hm4
  replace hB5 := Hd.mk hB5
  obtain ⟨c5, c5z, c5l⟩ := r5.out.cell (b := (w2.heap.size + 1)) updX_same
  have r6 := Hd.mk (r5.out.set1 (b := w2.heap.size + 1) (v := .pointer none) (v' := ptr B5) updX_same)
  have hm6 := Hd.mk (hpz.out _ B5 _ _ r6.out.ints hB5.out)
  go_wp2_with fail
  refine hm6.out.mono ?_
  rintro e w7 ⟨rfl, hk7, hI7⟩
  have r7 := Hd.mk (r6.out.op hk7 hI7)
  clear hk7 hI7 hm6 r6
  have hub : updX (updX (updX (updX (fun _ => Option.none) bu (9, [Value.string (ByteArray.mk #[])])) w2.heap.size (71, [ptr B2])) (w2.heap.size + 1) (71, [Value.pointer none])) (w2.heap.size + 1) (71, [ptr B5]) bu = some (9, [Value.string (ByteArray.mk #[])]) := by
    rw [updX_ne (by omega), updX_ne (by omega), updX_ne (by omega), updX_same]
  obtain ⟨u7, u7z, u7l⟩ := r7.out.cell (b := bu) hub
  have r8 := Hd.mk (r7.out.set1 (v' := .string sz) hub)
  have hkk := Hd.mk r8.out.keep
  have hub8 := Hd.mk (r8.out.bx bu _ _ updX_same)
  go_wp2
  go_end0
  exact ⟨hkk.out, rfl, hub8.out⟩
set_option maxHeartbeats 4000000 in
theorem oneK_TruncateDec (m : Bool) (x z : Int) (hx : inR x = true) (hz : wlen z.natAbs ≤ 8) (hop : OneC 81 x z) : oneCl 3 (zT x) m fun e w' bu => e = .returned (.tuple #[]) ∧ Blk w' bu 9 [.string (zT z)] := by
  intro bk ba bm bu w hok her hk ha hm hu hne hu1
  have r0 := Hd.mk (Run.start1 hok hu hu1)
  have hd0 := Hd.mk (decimal_ok x w hok her (inR_130 hx))
  have hpz := Hd.mk fun (Q : Nat → Prop) B S1 w1 (h : Ints Q w1 S1) (h1 : S1 B = some z) => parts_ok Q B z S1 w1 h h1 hz
  have ca := ha.cell 0
  simp only [List.getElem?_cons_zero] at ca
  have la := ha.lt
  have lu := hu.lt
  have hPk := Hd.mk (p := bk < w.heap.size ∧ bk ≠ bu) ⟨hk.lt, hne.1⟩
  have hPm := Hd.mk (p := bm < w.heap.size ∧ bm ≠ bu) ⟨hm.lt, hne.2.2⟩
  generalize zT x = sx at *
  generalize zT z = sz at *
  replace hop := Hd.mk hop
  replace hk := Hd.mk hk
  replace hm := Hd.mk hm
  replace ha := Hd.mk ha
  replace hu := Hd.mk hu
  go_enter Tryz.func75, Tryz.ntmps75
  go_wp2_with fail
  refine (hd0.out).mono ?_
  rintro e w2 ⟨B2, rfl, hn2⟩
  have r2 := Hd.mk (r0.out.new_int hn2)
  have g2 := hn2.ge
  have s2 := hn2.bel.size
  try simp only [World.size_alloc] at g2 s2
  have l2 := r2.out.ilt upd_same
  have q2 := Hd.mk hn2.bel
  clear hn2 r0
  have ck : w2.cell? ⟨bk, 0, none⟩ = some (.int .i64 3) := (r2.out.keep.blk hk.out hPk.out).cell 0
  have cm : w2.cell? ⟨bm, 0, none⟩ = some (.bool m) := (r2.out.keep.blk hm.out hPm.out).cell 0
  have lk2 : bk < w2.heap.size := Nat.lt_of_lt_of_le hPk.out.1 r2.out.ge
  have lm2 : bm < w2.heap.size := Nat.lt_of_lt_of_le hPm.out.1 r2.out.ge
  have r3 := Hd.mk (r2.out.box #[ptr B2] 71)
  clear r2
  have r4 := Hd.mk (r3.out.box #[.pointer none] 71)
  clear r3
  simp only [World.size_alloc] at r4
  have hm4 := Hd.mk (hop.out _ B2 _ _ r4.out.ints upd_same)
  go_wp2_with fail
  refine hm4.out.mono ?_
  rintro e w5 ⟨B5, S5, rfl, hk5, hI5, hB5⟩
  have s5 := hk5.size
  try simp only [World.size_alloc] at s5
  have r5 := Hd.mk (r4.out.op hk5 hI5)
  clear hk5 hI5 r4 hm4
  replace hB5 := Hd.mk hB5
  obtain ⟨c5, c5z, c5l⟩ := r5.out.cell (b := (w2.heap.size + 1)) updX_same
  have r6 := Hd.mk (r5.out.set1 (b := w2.heap.size + 1) (v := .pointer none) (v' := ptr B5) updX_same)
  have hm6 := Hd.mk (hpz.out _ B5 _ _ r6.out.ints hB5.out)
  go_wp2_with fail
  refine hm6.out.mono ?_
  rintro e w7 ⟨rfl, hk7, hI7⟩
  have r7 := Hd.mk (r6.out.op hk7 hI7)
  clear hk7 hI7 hm6 r6
  have hub : updX (updX (updX (updX (fun _ => Option.none) bu (9, [Value.string (ByteArray.mk #[])])) w2.heap.size (71, [ptr B2])) (w2.heap.size + 1) (71, [Value.pointer none])) (w2.heap.size + 1) (71, [ptr B5]) bu = some (9, [Value.string (ByteArray.mk #[])]) := by
    rw [updX_ne (by omega), updX_ne (by omega), updX_ne (by omega), updX_same]
  obtain ⟨u7, u7z, u7l⟩ := r7.out.cell (b := bu) hub
  have r8 := Hd.mk (r7.out.set1 (v' := .string sz) hub)
  have hkk := Hd.mk r8.out.keep
  have hub8 := Hd.mk (r8.out.bx bu _ _ updX_same)
  go_wp2
  go_end0
  exact ⟨hkk.out, rfl, hub8.out⟩
set_option maxHeartbeats 4000000 in
theorem oneK_Clone (m : Bool) (x z : Int) (hx : inR x = true) (hz : wlen z.natAbs ≤ 8) (hop : OneC 82 x z) : oneCl 4 (zT x) m fun e w' bu => e = .returned (.tuple #[]) ∧ Blk w' bu 9 [.string (zT z)] := by
  intro bk ba bm bu w hok her hk ha hm hu hne hu1
  have r0 := Hd.mk (Run.start1 hok hu hu1)
  have hd0 := Hd.mk (decimal_ok x w hok her (inR_130 hx))
  have hpz := Hd.mk fun (Q : Nat → Prop) B S1 w1 (h : Ints Q w1 S1) (h1 : S1 B = some z) => parts_ok Q B z S1 w1 h h1 hz
  have ca := ha.cell 0
  simp only [List.getElem?_cons_zero] at ca
  have la := ha.lt
  have lu := hu.lt
  have hPk := Hd.mk (p := bk < w.heap.size ∧ bk ≠ bu) ⟨hk.lt, hne.1⟩
  have hPm := Hd.mk (p := bm < w.heap.size ∧ bm ≠ bu) ⟨hm.lt, hne.2.2⟩
  generalize zT x = sx at *
  generalize zT z = sz at *
  replace hop := Hd.mk hop
  replace hk := Hd.mk hk
  replace hm := Hd.mk hm
  replace ha := Hd.mk ha
  replace hu := Hd.mk hu
  go_enter Tryz.func75, Tryz.ntmps75
  go_wp2_with fail
  refine (hd0.out).mono ?_
  rintro e w2 ⟨B2, rfl, hn2⟩
  have r2 := Hd.mk (r0.out.new_int hn2)
  have g2 := hn2.ge
  have s2 := hn2.bel.size
  try simp only [World.size_alloc] at g2 s2
  have l2 := r2.out.ilt upd_same
  have q2 := Hd.mk hn2.bel
  clear hn2 r0
  have ck : w2.cell? ⟨bk, 0, none⟩ = some (.int .i64 4) := (r2.out.keep.blk hk.out hPk.out).cell 0
  have cm : w2.cell? ⟨bm, 0, none⟩ = some (.bool m) := (r2.out.keep.blk hm.out hPm.out).cell 0
  have lk2 : bk < w2.heap.size := Nat.lt_of_lt_of_le hPk.out.1 r2.out.ge
  have lm2 : bm < w2.heap.size := Nat.lt_of_lt_of_le hPm.out.1 r2.out.ge
  have r3 := Hd.mk (r2.out.box #[ptr B2] 71)
  clear r2
  have r4 := Hd.mk (r3.out.box #[.pointer none] 71)
  clear r3
  simp only [World.size_alloc] at r4
  have hm4 := Hd.mk (hop.out _ B2 _ _ r4.out.ints upd_same)
  go_wp2_with fail
  refine hm4.out.mono ?_
  rintro e w5 ⟨B5, S5, rfl, hk5, hI5, hB5⟩
  have s5 := hk5.size
  try simp only [World.size_alloc] at s5
  have r5 := Hd.mk (r4.out.op hk5 hI5)
  clear hk5 hI5 r4 hm4
  replace hB5 := Hd.mk hB5
  obtain ⟨c5, c5z, c5l⟩ := r5.out.cell (b := (w2.heap.size + 1)) updX_same
  have r6 := Hd.mk (r5.out.set1 (b := w2.heap.size + 1) (v := .pointer none) (v' := ptr B5) updX_same)
  have hm6 := Hd.mk (hpz.out _ B5 _ _ r6.out.ints hB5.out)
  go_wp2_with fail
  refine hm6.out.mono ?_
  rintro e w7 ⟨rfl, hk7, hI7⟩
  have r7 := Hd.mk (r6.out.op hk7 hI7)
  clear hk7 hI7 hm6 r6
  have hub : updX (updX (updX (updX (fun _ => Option.none) bu (9, [Value.string (ByteArray.mk #[])])) w2.heap.size (71, [ptr B2])) (w2.heap.size + 1) (71, [Value.pointer none])) (w2.heap.size + 1) (71, [ptr B5]) bu = some (9, [Value.string (ByteArray.mk #[])]) := by
    rw [updX_ne (by omega), updX_ne (by omega), updX_ne (by omega), updX_same]
  obtain ⟨u7, u7z, u7l⟩ := r7.out.cell (b := bu) hub
  have r8 := Hd.mk (r7.out.set1 (v' := .string sz) hub)
  have hkk := Hd.mk r8.out.keep
  have hub8 := Hd.mk (r8.out.bx bu _ _ updX_same)
  go_wp2
  go_end0
  exact ⟨hkk.out, rfl, hub8.out⟩
end Go.Proofs.YtpabbnogfflgpaaGreatDoor
end

section
namespace Go.Proofs.YtpabbnogfflgpaaGreatDoor
open Go.RowKit
set_option maxRecDepth 100000
theorem SREx2 {w wr : World} {C' : Nat → Option (List Value)} {N' : List (Value × Int)} {u v : Value} {x y : Int} {R : (Nat → Option (List Value)) → Prop} (h : SR w wr C' N') (hu : (u, y) ∈ N') (hv : (v, x) ∈ N') (k : R C') : ∃ C, Hd (SR w wr C [(u, y), (v, x)]) ∧ R C :=
  ⟨C', ⟨h.two (h.num _ hu) (h.num _ hv)⟩, k⟩
set_option maxHeartbeats 4000000 in
theorem up_any (v : Value) (x : Int) (w : World) (hx : NumV w v x) (hl : x.natAbs < 10 ^ 200) : Calls Tryz.prog 84 #[v] w fun e w' => ∃ v, e = .returned v ∧ NumV w' v (chopU x) ∧ Below w.heap.size w w' := by
  have e18 : ((10 : Int) ^ 18) = E18 := by unfold E18; decide
  have hl' : T.wlen x.natAbs < 900 := wl200 hl
  have hdef := chopU_dec (x := x)
  have hlq : T.wlen (x.tdiv E18).natAbs < 900 := Nat.lt_of_le_of_lt (T.wlen_mono (by rw [Int.natAbs_tdiv]; exact Nat.div_le_self _ _)) hl'
  obtain ⟨A, cap, rfl, -⟩ := hx.open
  have hpr := Hd.mk fun w1 => nv (prec_any w1)
  have hqr := Hd.mk fun w1 v1 v2 (h1 : NumV w1 v1 x) (h2 : NumV w1 v2 (10 ^ 18)) => nv2 (nquorem_any v1 v2 _ _ w1 h1 h2 (by omega) (by have := wl_10_18; omega) (by decide))
  have hsg := Hd.mk fun w1 v1 (h1 : NumV w1 v1 (x.tmod E18)) => sign_any v1 _ w1 h1
  have hof := Hd.mk fun w1 => nv (of_nat 1 w1 (by omega))
  have hp1 := Hd.mk fun w1 v1 v2 (h1 : NumV w1 v1 (x.tdiv E18)) (h2 : NumV w1 v2 ((1 : Nat) : Int)) => nv (nplus_any v1 v2 _ _ w1 h1 h2 (by omega) (by rw [Int.natAbs_natCast]; exact Nat.lt_of_le_of_lt (T.wlen_le (n := 1) (by decide)) (by decide)))
  rw [show x.tdiv E18 + ((1 : Nat) : Int) = x.tdiv E18 + 1 from rfl] at hp1
  rw [e18] at hpr hqr
  replace e18 := Hd.mk e18
  generalize hqv : x.tdiv E18 = q at *
  generalize hrv : x.tmod E18 = r at *
  replace hqv := Hd.mk hqv
  replace hrv := Hd.mk hrv
  generalize decide (x < 0) = nb at *
  generalize T.wlen x.natAbs = m at *
  generalize E18 = X18 at *
  have r0 := SR.start w [(.agg #[.bool nb, .slice A m cap], x)] (fun p hp => by cases List.mem_singleton.1 hp; exact hx)
  have r1 := (r0.box #[.bool nb, .slice A m cap]).box #[.bool false, .slice none 0 0]
  rw [World.size_alloc] at r1
  have hC0 : (updC (updC (fun _ => none) w.heap.size [.bool nb, .slice A m cap]) (w.heap.size + 1) [.bool false, .slice none 0 0]) w.heap.size = some [.bool nb, .slice A m cap] := by rw [updC_ne (by omega)]; exact updC_same
  have hC1 : (updC (updC (fun _ => none) w.heap.size [.bool nb, .slice A m cap]) (w.heap.size + 1) [.bool false, .slice none 0 0]) (w.heap.size + 1) = some [.bool false, .slice none 0 0] := updC_same
  change SR w _ (updC (updC (fun _ => none) w.heap.size [.bool nb, .slice A m cap]) (w.heap.size + 1) [.bool false, .slice none 0 0]) _ at r1
  have s1 : ((w.alloc (.cells #[.bool nb, .slice A m cap] 24)).alloc (.cells #[.bool false, .slice none 0 0] 24)).heap.size ≥ w.heap.size + 2 := by rw [World.size_alloc, World.size_alloc]; omega
  generalize updC (updC (fun _ => none) w.heap.size [.bool nb, .slice A m cap]) (w.heap.size + 1) [.bool false, .slice none 0 0] = C1 at *
  have d0 := (r1.blk _ _ hC0).2.cell 0
  have d1 := (r1.blk _ _ hC0).2.cell 1
  simp only [List.getElem?_cons_succ, List.getElem?_cons_zero] at d0 d1
  replace hC0 := Hd.mk hC0
  replace hC1 := Hd.mk hC1
  replace r1 := Hd.mk r1
  replace hx := Hd.mk hx
  clear r0
  go_enter Tryz.func84, Tryz.ntmps84
  go_wp2
  generalize (w.alloc (.cells #[.bool nb, .slice A m cap] 24)).alloc (.cells #[.bool false, .slice none 0 0] 24) = w1 at *
  go_upto_region 1 with fail
  go_cut [3, 4] (fun t3 t4 wx => ∃ b3 b A m c b4 b' A' m' c', t3 = .pointer (some ⟨b3, 0, none⟩) ∧ t4 = .pointer (some ⟨b4, 0, none⟩) ∧ ∃ C, Hd (SR w wx C [(.agg #[.bool b', .slice A' m' c'], r), (.agg #[.bool b, .slice A m c], q)]) ∧ Hd (C b3 = some [.bool b, .slice A m c]) ∧ Hd (C b4 = some [.bool b', .slice A' m' c']) ∧ Hd (C (w.heap.size + 1) = some [.bool false, .slice none 0 0]) ∧ b3 ≠ b4 ∧ b3 ≠ w.heap.size + 1 ∧ b4 ≠ w.heap.size + 1)
  case first =>
    go_region_held3 (fun wx => wx.cell? ⟨w.heap.size, 0, none⟩ = some (.bool nb) ∧ wx.cell? ⟨w.heap.size, 1, none⟩ = some (.slice A m cap)) ((first | with_reducible exact ⟨d0, d1⟩ | with_reducible exact ⟨k20, k21⟩ | with_reducible exact ⟨k30, k31⟩ | (constructor <;> (repeat first | with_reducible assumption | rw [World.cell?_drew] | (rw [World.cell?_alloc_lt _ _ _ (by (try simp only [World.size_alloc, World.size_drew, World.size_setCell]); show _ < _; omega)]) | rw [World.cell?_setCell_far _ _ _ _ (by (try simp only [World.size_alloc, World.size_drew, World.size_setCell]); show _ ≠ _; omega)])))) (first
      | (go_at_call 12; refine (hpr.out _).mono ?_; skip; rintro e w2 ⟨b2, A2, m2, c2, rfl, hn2, hb2⟩; have r2 := Hd.mk (p := SR _ _ _ _) (by first | exact (r1.out.drew.op hb2).add hn2 | exact ((r1.out.drew.box _).op hb2).add hn2 | exact (((r1.out.drew.box _).box _).op hb2).add hn2); have s2 := hb2.size; (try simp only [World.size_alloc, World.size_drew] at s2); (try simp only [World.size_alloc, World.size_drew, World.size_setCell] at r2); clear hb2; (try (refine SR.cellK r2.out (b := w.heap.size) (b0 := nb) (A := A) (m := m) (c := cap) ?_ ?_; (focus (((try simp only [World.size_alloc, World.size_drew, World.size_setCell]); (repeat first | with_reducible exact updC_same | with_reducible exact hC0.out | with_reducible exact hC1.out | rw [updC_ne (by (try simp only [World.size_alloc, World.size_drew, World.size_setCell]); omega)])); done)); intro k20 k21 k2z k2y k2l)); (try (refine SR.cellK r2.out (b := w1.heap.size) (b0 := false) (A := none) (m := 0) (c := 0) ?_ ?_; (focus (((try simp only [World.size_alloc, World.size_drew, World.size_setCell]); (repeat first | with_reducible exact updC_same | rw [updC_ne (by (try simp only [World.size_alloc, World.size_drew, World.size_setCell]); omega)])); done)); intro a20 a21 a2z a2y a2l)); (try (refine SR.cellK r2.out (b := (w1.heap.size + 1)) (b0 := false) (A := none) (m := 0) (c := 0) ?_ ?_; (focus (((try simp only [World.size_alloc, World.size_drew, World.size_setCell]); (repeat first | with_reducible exact updC_same | rw [updC_ne (by (try simp only [World.size_alloc, World.size_drew, World.size_setCell]); omega)])); done)); intro e20 e21 e2z e2y e2l)))
      | (go_at_call 87; refine (hqr.out _ _ _ ?_ ?_).mono ?_; (first | exact r2.out.v1 | exact (r2.out.box _).v1 | exact ((r2.out.box _).box _).v1); (first | exact r2.out.v0 | exact (r2.out.box _).v0 | exact ((r2.out.box _).box _).v0); rintro e w3 ⟨b3, A3, m3, c3, b4, A4, m4, c4, rfl, hn3, hn4, hb3⟩; have r3 := Hd.mk (p := SR _ _ _ _) (by first | exact ((r2.out.op hb3).add hn3).add hn4 | exact (((r2.out.box _).op hb3).add hn3).add hn4 | exact ((((r2.out.box _).box _).op hb3).add hn3).add hn4); have s3 := hb3.size; (try simp only [World.size_alloc, World.size_drew] at s3); (try simp only [World.size_alloc, World.size_drew, World.size_setCell] at r3); clear hb3; (try (refine SR.cellK r3.out (b := w.heap.size) (b0 := nb) (A := A) (m := m) (c := cap) ?_ ?_; (focus (((try simp only [World.size_alloc, World.size_drew, World.size_setCell]); (repeat first | with_reducible exact updC_same | with_reducible exact hC0.out | with_reducible exact hC1.out | rw [updC_ne (by (try simp only [World.size_alloc, World.size_drew, World.size_setCell]); omega)])); done)); intro k30 k31 k3z k3y k3l)); (try (refine SR.cellK r3.out (b := w1.heap.size) (b0 := false) (A := none) (m := 0) (c := 0) ?_ ?_; (focus (((try simp only [World.size_alloc, World.size_drew, World.size_setCell]); (repeat first | with_reducible exact updC_same | rw [updC_ne (by (try simp only [World.size_alloc, World.size_drew, World.size_setCell]); omega)])); done)); intro a30 a31 a3z a3y a3l)); (try (refine SR.cellK r3.out (b := (w1.heap.size + 1)) (b0 := false) (A := none) (m := 0) (c := 0) ?_ ?_; (focus (((try simp only [World.size_alloc, World.size_drew, World.size_setCell]); (repeat first | with_reducible exact updC_same | rw [updC_ne (by (try simp only [World.size_alloc, World.size_drew, World.size_setCell]); omega)])); done)); intro e30 e31 e3z e3y e3l)); (try (refine SR.cellK r3.out (b := w2.heap.size) (b0 := false) (A := none) (m := 0) (c := 0) ?_ ?_; (focus (((try simp only [World.size_alloc, World.size_drew, World.size_setCell]); (repeat first | with_reducible exact updC_same | rw [updC_ne (by (try simp only [World.size_alloc, World.size_drew, World.size_setCell]); omega)])); done)); intro f30 f31 f3z f3y f3l)); (try (refine SR.cellK r3.out (b := (w2.heap.size + 1)) (b0 := false) (A := none) (m := 0) (c := 0) ?_ ?_; (focus (((try simp only [World.size_alloc, World.size_drew, World.size_setCell]); (repeat first | with_reducible exact updC_same | rw [updC_ne (by (try simp only [World.size_alloc, World.size_drew, World.size_setCell]); omega)])); done)); intro g30 g31 g3z g3y g3l))))
    all_goals
      go_wp2_with fail
      go_meet
      refine ⟨_, b3, A3, m3, c3, _, b4, A4, m4, c4, rfl, rfl, ?_⟩
      apply SREx2
      focus
        (repeat first | with_reducible exact r3.out | with_reducible apply SR.box2 | with_reducible apply SR.set | with_reducible exact updC_same | with_reducible exact hC0.out | with_reducible exact hC1.out | (simp only [World.size_alloc, World.size_drew, World.size_setCell]) | rw [updC_ne (by (try simp only [World.size_alloc, World.size_drew, World.size_setCell]); omega)])
        done
      focus
        exact .head _
      focus
        exact .tail _ (.head _)
      refine ⟨⟨?_⟩, ⟨?_⟩, ⟨?_⟩, ?_⟩
      focus
        (focus (((try simp only [World.size_alloc, World.size_drew, World.size_setCell]); (repeat first | with_reducible exact updC_same | with_reducible exact hC0.out | with_reducible exact hC1.out | rw [updC_ne (by (try simp only [World.size_alloc, World.size_drew, World.size_setCell]); omega)])); done))
      focus
        (focus (((try simp only [World.size_alloc, World.size_drew, World.size_setCell]); (repeat first | with_reducible exact updC_same | with_reducible exact hC0.out | with_reducible exact hC1.out | rw [updC_ne (by (try simp only [World.size_alloc, World.size_drew, World.size_setCell]); omega)])); done))
      focus
        (focus (((try simp only [World.size_alloc, World.size_drew, World.size_setCell]); (repeat first | with_reducible exact updC_same | with_reducible exact hC0.out | with_reducible exact hC1.out | rw [updC_ne (by (try simp only [World.size_alloc, World.size_drew, World.size_setCell]); omega)])); done))
      (try simp only [World.size_alloc, World.size_drew, World.size_setCell])
      omega
  case rest =>
    obtain ⟨b3, b, A', m', c', b4, bb, AA, mm, cc, rfl, rfl, C, hr, hb3, hb4, hR, hne34, hne3, hne4⟩ := hcut
    refine SR.cellK hr.out hb4.out ?_
    intro p0 p1 pz py pl
    clear hqr hpr
    by_cases hr0 : 0 < r
    · have hsd : decide (0 < sgn r) = true := by have h := @sgn_1 r; unfold sgn at h ⊢; split <;> (try split) <;> simp_all <;> omega
      rw [if_neg (by omega)] at hdef
      rw [← hdef] at hp1
      replace hdef := Hd.mk hdef
      replace hr0 := Hd.mk hr0
      generalize sgn r = s at *
      go_upto_region 3 with (go_at_call 25; refine (hsg.out _ _ hr.out.v0).mono ?_; rintro e w5 ⟨rfl, hb5⟩; have r5 := Hd.mk (hr.out.op hb5); clear hb5; refine SR.cellK r5.out hb3.out ?_; intro f0 f1 fz fy fl)
      go_region_law (first
        | (go_simp; go_at_call 33; refine (hof.out _).mono ?_; rintro e w10 ⟨b10, A10, m10, c10, rfl, hn10, hb10⟩; have r10 := Hd.mk (((r5.out.drew).op hb10).add hn10); clear hb10 hn10; refine SR.cellK r10.out hb3.out ?_; intro g0 g1 gz gy gl)
        | (go_simp; go_at_call 28; refine (hp1.out _ _ _ r10.out.v2 r10.out.v0).mono ?_; rintro e w11 ⟨b11, A11, m11, c11, rfl, hn11, hb11⟩; have r11 := Hd.mk ((r10.out.op hb11).add hn11); clear hb11 hn11; refine SR.cellK r11.out hb3.out ?_; intro i0 i1 iz iy il))
      all_goals
        have r12 := Hd.mk (r11.out.set (b1 := b11) (A1 := A11) (m1 := m11) (c1 := c11) hb3.out)
        have h3' : Hd (updC C b3 [.bool b11, .slice A11 m11 c11] b3 = some [.bool b11, .slice A11 m11 c11]) := ⟨updC_same⟩
        have hR' : Hd (updC C b3 [.bool b11, .slice A11 m11 c11] (w.heap.size + 1) = some [.bool false, .slice none 0 0]) := ⟨by rw [updC_ne (fun e => hne3 e.symm)]; exact hR.out⟩
        generalize updC C b3 [.bool b11, .slice A11 m11 c11] = C6 at *
        clear f0 f1 fz fy fl i0 i1 iz iy il p0 p1 pz py pl
        (try clear g0 g1 gz gy gl)
        generalize (w11.setCell ⟨b3, 0, none⟩ (.bool b11)).setCell ⟨b3, 1, none⟩ (.slice A11 m11 c11) = w12 at *
        refine SR.cellK r12.out h3'.out ?_
        intro p0 p1 pz py pl
        refine SR.cellK r12.out hR'.out ?_
        intro q0 q1 qz qy ql
        have hf := r12.out.set hR'.out (b1 := b11) (A1 := A11) (m1 := m11) (c1 := c11)
        have hf2 := Hd.mk (And.intro hf.v0 hf.bel)
        clear hf
        go_wp2_with fail
        refine bodyPost_ret (v := .agg #[.bool b11, .slice A11 m11 c11]) (by simp [results, Tryz.results84, go_sem, q0, q1, qz, qy]) rfl ⟨_, rfl, hf2.out.1, hf2.out.2⟩
    · have hsd : decide (0 < sgn r) = false := by have h := @sgn_1 r; unfold sgn at h ⊢; split <;> (try split) <;> simp_all <;> omega
      rw [if_pos (by omega)] at hdef
      replace hdef := Hd.mk hdef
      replace hr0 := Hd.mk hr0
      generalize sgn r = s at *
      go_wp2_with (go_at_call 25; refine (hsg.out _ _ hr.out.v0).mono ?_; rintro e w5 ⟨rfl, hb5⟩; have r5 := Hd.mk (hr.out.op hb5); clear hb5; refine SR.cellK r5.out hb3.out ?_; intro f0 f1 fz fy fl; refine SR.cellK r5.out hR.out ?_; intro q0 q1 qz qy ql)
      have hf := r5.out.set hR.out (b1 := b) (A1 := A') (m1 := m') (c1 := c')
      have hf2 := Hd.mk (And.intro hf.v1 hf.bel)
      clear hf
      refine bodyPost_ret (v := .agg #[.bool b, .slice A' m' c']) (by simp [results, Tryz.results84, go_sem, q0, q1, qz, qy]) rfl ⟨_, rfl, by rw [hdef.out]; exact hf2.out.1, hf2.out.2⟩
end Go.Proofs.YtpabbnogfflgpaaGreatDoor
end

section
namespace Go.Proofs.YtpabbnogfflgpaaGreatDoor
open Go.RowKit
set_option maxRecDepth 100000
/-- The result of an operation on one decimal. -/
def oneV (k : Nat) (x : Int) : Int := if k = 0 then -x else if k = 1 then (x.natAbs : Int) else if k = 2 then chopU x * E18 else if k = 3 then x.tdiv E18 * E18 else x
set_option maxHeartbeats 4000000 in
theorem oneS_0 (v : Value) (x : Int) (w : World) (hx : NumV w v x) (hl : x.natAbs < 10 ^ 130) : Calls Tryz.prog 30 #[.int .i64 0, v] w fun e w' => ∃ v, e = .returned v ∧ NumV w' v (-x) ∧ Below w.heap.size w w' := by
  obtain ⟨A, cap, rfl, -⟩ := hx.open
  have hl' : T.wlen x.natAbs < 900 := wl200 (Nat.lt_trans hl (by decide))
  have hmi := Hd.mk fun w1 v1 (h1 : NumV w1 v1 x) => nv (minus_any v1 x w1 h1 (by omega))
  generalize decide (x < 0) = nb at *
  generalize T.wlen x.natAbs = m at *
  have r0 := SR.start w [(.agg #[.bool nb, .slice A m cap], x)] (fun p hp => by cases List.mem_singleton.1 hp; exact hx)
  have r1 := (r0.box #[.bool nb, .slice A m cap]).box #[.bool false, .slice none 0 0]
  rw [World.size_alloc] at r1
  have hC0 : (updC (updC (fun _ => none) w.heap.size [.bool nb, .slice A m cap]) (w.heap.size + 1) [.bool false, .slice none 0 0]) w.heap.size = some [.bool nb, .slice A m cap] := by rw [updC_ne (by omega)]; exact updC_same
  have hC1 : (updC (updC (fun _ => none) w.heap.size [.bool nb, .slice A m cap]) (w.heap.size + 1) [.bool false, .slice none 0 0]) (w.heap.size + 1) = some [.bool false, .slice none 0 0] := updC_same
  change SR w _ (updC (updC (fun _ => none) w.heap.size [.bool nb, .slice A m cap]) (w.heap.size + 1) [.bool false, .slice none 0 0]) _ at r1
  generalize updC (updC (fun _ => none) w.heap.size [.bool nb, .slice A m cap]) (w.heap.size + 1) [.bool false, .slice none 0 0] = C1 at *
  replace hC0 := Hd.mk hC0
  replace hC1 := Hd.mk hC1
  replace r1 := Hd.mk r1
  replace hx := Hd.mk hx
  clear r0
  go_enter Tryz.func30, Tryz.ntmps30
  go_wp2_with (go_at_call 83; refine (hmi.out _ _ r1.out.v0).mono ?_; rintro e w2 ⟨b2, A2, m2, c2, rfl, hn2, hb2⟩; have r2 := Hd.mk ((r1.out.op hb2).add hn2); clear hb2 hn2; refine SR.cellK r2.out hC1.out ?_; intro q0 q1 qz qy ql)
  have hf := r2.out.set (b1 := b2) (A1 := A2) (m1 := m2) (c1 := c2) hC1.out
  have hf2 := Hd.mk (And.intro hf.v0 hf.bel)
  clear hf
  refine bodyPost_ret (v := .agg #[.bool b2, .slice A2 m2 c2]) (by simp [results, Tryz.results30, go_sem, q0, q1, qz, qy]) rfl ⟨_, rfl, hf2.out.1, hf2.out.2⟩
set_option maxHeartbeats 4000000 in
theorem oneS_1 (v : Value) (x : Int) (w : World) (hx : NumV w v x) (hl : x.natAbs < 10 ^ 130) : Calls Tryz.prog 30 #[.int .i64 1, v] w fun e w' => ∃ v, e = .returned v ∧ NumV w' v (x.natAbs : Int) ∧ Below w.heap.size w w' := by
  obtain ⟨A, cap, rfl, -⟩ := hx.open
  have hl' : T.wlen x.natAbs < 900 := wl200 (Nat.lt_trans hl (by decide))
  have hmi := Hd.mk fun w1 v1 (h1 : NumV w1 v1 x) => nv (nabs_any v1 x w1 h1)
  generalize hxa : (x.natAbs : Int) = xa at *
  replace hxa := Hd.mk hxa
  generalize decide (x < 0) = nb at *
  generalize T.wlen x.natAbs = m at *
  have r0 := SR.start w [(.agg #[.bool nb, .slice A m cap], x)] (fun p hp => by cases List.mem_singleton.1 hp; exact hx)
  have r1 := (r0.box #[.bool nb, .slice A m cap]).box #[.bool false, .slice none 0 0]
  rw [World.size_alloc] at r1
  have hC0 : (updC (updC (fun _ => none) w.heap.size [.bool nb, .slice A m cap]) (w.heap.size + 1) [.bool false, .slice none 0 0]) w.heap.size = some [.bool nb, .slice A m cap] := by rw [updC_ne (by omega)]; exact updC_same
  have hC1 : (updC (updC (fun _ => none) w.heap.size [.bool nb, .slice A m cap]) (w.heap.size + 1) [.bool false, .slice none 0 0]) (w.heap.size + 1) = some [.bool false, .slice none 0 0] := updC_same
  change SR w _ (updC (updC (fun _ => none) w.heap.size [.bool nb, .slice A m cap]) (w.heap.size + 1) [.bool false, .slice none 0 0]) _ at r1
  generalize updC (updC (fun _ => none) w.heap.size [.bool nb, .slice A m cap]) (w.heap.size + 1) [.bool false, .slice none 0 0] = C1 at *
  replace hC0 := Hd.mk hC0
  replace hC1 := Hd.mk hC1
  replace r1 := Hd.mk r1
  replace hx := Hd.mk hx
  clear r0
  go_enter Tryz.func30, Tryz.ntmps30
  go_wp2_with (go_at_call 27; refine (hmi.out _ _ r1.out.v0).mono ?_; rintro e w2 ⟨b2, A2, m2, c2, rfl, hn2, hb2⟩; have r2 := Hd.mk ((r1.out.op hb2).add hn2); clear hb2 hn2; refine SR.cellK r2.out hC1.out ?_; intro q0 q1 qz qy ql)
  have hf := r2.out.set (b1 := b2) (A1 := A2) (m1 := m2) (c1 := c2) hC1.out
  have hf2 := Hd.mk (And.intro hf.v0 hf.bel)
  clear hf
  refine bodyPost_ret (v := .agg #[.bool b2, .slice A2 m2 c2]) (by simp [results, Tryz.results30, go_sem, q0, q1, qz, qy]) rfl ⟨_, rfl, hf2.out.1, hf2.out.2⟩
set_option maxHeartbeats 4000000 in
theorem oneS_2 (v : Value) (x : Int) (w : World) (hx : NumV w v x) (hl : x.natAbs < 10 ^ 130) : Calls Tryz.prog 30 #[.int .i64 2, v] w fun e w' => ∃ v, e = .returned v ∧ NumV w' v (chopU x * E18) ∧ Below w.heap.size w w' := by
  obtain ⟨A, cap, rfl, -⟩ := hx.open
  have hl' : T.wlen x.natAbs < 900 := wl200 (Nat.lt_trans hl (by decide))
  have hmi := Hd.mk fun w1 v1 (h1 : NumV w1 v1 x) => nv (up_any v1 x w1 h1 (Nat.lt_trans hl (by decide)))
  have hpr := Hd.mk fun w1 => nv (prec_any w1)
  have hlz : T.wlen (chopU x).natAbs < 900 := wl200 (by have h1 := chopU_bd x; have h2 : (10 : Nat) ^ 130 + 1 < 10 ^ 200 := (by decide); omega)
  rw [show (10 : Int) ^ 18 = E18 by unfold E18; decide] at hpr
  have hti := Hd.mk fun w1 v1 v2 (h1 : NumV w1 v1 (chopU x)) (h2 : NumV w1 v2 E18) => nv (ntimes_any v1 v2 _ _ w1 h1 h2 (by omega) (by rw [show E18 = (10 : Int) ^ 18 by unfold E18; decide]; have := wl_10_18; omega))
  generalize chopU x * E18 = zz at *
  generalize chopU x = z at *
  generalize E18 = X18 at *
  generalize decide (x < 0) = nb at *
  generalize T.wlen x.natAbs = m at *
  have r0 := SR.start w [(.agg #[.bool nb, .slice A m cap], x)] (fun p hp => by cases List.mem_singleton.1 hp; exact hx)
  have r1 := (r0.box #[.bool nb, .slice A m cap]).box #[.bool false, .slice none 0 0]
  rw [World.size_alloc] at r1
  have hC0 : (updC (updC (fun _ => none) w.heap.size [.bool nb, .slice A m cap]) (w.heap.size + 1) [.bool false, .slice none 0 0]) w.heap.size = some [.bool nb, .slice A m cap] := by rw [updC_ne (by omega)]; exact updC_same
  have hC1 : (updC (updC (fun _ => none) w.heap.size [.bool nb, .slice A m cap]) (w.heap.size + 1) [.bool false, .slice none 0 0]) (w.heap.size + 1) = some [.bool false, .slice none 0 0] := updC_same
  change SR w _ (updC (updC (fun _ => none) w.heap.size [.bool nb, .slice A m cap]) (w.heap.size + 1) [.bool false, .slice none 0 0]) _ at r1
  generalize updC (updC (fun _ => none) w.heap.size [.bool nb, .slice A m cap]) (w.heap.size + 1) [.bool false, .slice none 0 0] = C1 at *
  replace hC0 := Hd.mk hC0
  replace hC1 := Hd.mk hC1
  replace r1 := Hd.mk r1
  replace hx := Hd.mk hx
  clear r0
  go_enter Tryz.func30, Tryz.ntmps30
  go_wp2_with (first
    | (go_at_call 84; refine (hmi.out _ _ r1.out.v0).mono ?_; rintro e w2 ⟨b2, A2, m2, c2, rfl, hn2, hb2⟩; have r2 := Hd.mk ((r1.out.op hb2).add hn2); clear hb2 hn2)
    | (go_at_call 12; refine (hpr.out _).mono ?_; rintro e w3 ⟨b3, A3, m3, c3, rfl, hn3, hb3⟩; have r3 := Hd.mk ((r2.out.op hb3).add hn3); clear hb3 hn3)
    | (go_at_call 11; refine (hti.out _ _ _ r3.out.v1 r3.out.v0).mono ?_; rintro e w4 ⟨b4, A4, m4, c4, rfl, hn4, hb4⟩; have r4 := Hd.mk ((r3.out.op hb4).add hn4); clear hb4 hn4; refine SR.cellK r4.out hC1.out ?_; intro q0 q1 qz qy ql))
  have hf := r4.out.set (b1 := b4) (A1 := A4) (m1 := m4) (c1 := c4) hC1.out
  have hf2 := Hd.mk (And.intro hf.v0 hf.bel)
  clear hf
  refine bodyPost_ret (v := .agg #[.bool b4, .slice A4 m4 c4]) (by simp [results, Tryz.results30, go_sem, q0, q1, qz, qy]) rfl ⟨_, rfl, hf2.out.1, hf2.out.2⟩
set_option maxHeartbeats 4000000 in
theorem oneS_3 (v : Value) (x : Int) (w : World) (hx : NumV w v x) (hl : x.natAbs < 10 ^ 130) : Calls Tryz.prog 30 #[.int .i64 3, v] w fun e w' => ∃ v, e = .returned v ∧ NumV w' v (x.tdiv E18 * E18) ∧ Below w.heap.size w w' := by
  obtain ⟨A, cap, rfl, -⟩ := hx.open
  have hl' : T.wlen x.natAbs < 900 := wl200 (Nat.lt_trans hl (by decide))
  have hmi := Hd.mk fun w1 v1 (h1 : NumV w1 v1 x) => nv (cut18_any v1 x w1 h1 (Nat.lt_trans hl (by decide)))
  have hpr := Hd.mk fun w1 => nv (prec_any w1)
  have hlz : T.wlen (x.tdiv E18).natAbs < 900 := wl200 (by have h1 := tdiv_bd x; have h2 : (10 : Nat) ^ 130 + 1 < 10 ^ 200 := (by decide); omega)
  rw [show (10 : Int) ^ 18 = E18 by unfold E18; decide] at hpr
  have hti := Hd.mk fun w1 v1 v2 (h1 : NumV w1 v1 (x.tdiv E18)) (h2 : NumV w1 v2 E18) => nv (ntimes_any v1 v2 _ _ w1 h1 h2 (by omega) (by rw [show E18 = (10 : Int) ^ 18 by unfold E18; decide]; have := wl_10_18; omega))
  generalize x.tdiv E18 * E18 = zz at *
  generalize x.tdiv E18 = z at *
  generalize E18 = X18 at *
  generalize decide (x < 0) = nb at *
  generalize T.wlen x.natAbs = m at *
  have r0 := SR.start w [(.agg #[.bool nb, .slice A m cap], x)] (fun p hp => by cases List.mem_singleton.1 hp; exact hx)
  have r1 := (r0.box #[.bool nb, .slice A m cap]).box #[.bool false, .slice none 0 0]
  rw [World.size_alloc] at r1
  have hC0 : (updC (updC (fun _ => none) w.heap.size [.bool nb, .slice A m cap]) (w.heap.size + 1) [.bool false, .slice none 0 0]) w.heap.size = some [.bool nb, .slice A m cap] := by rw [updC_ne (by omega)]; exact updC_same
  have hC1 : (updC (updC (fun _ => none) w.heap.size [.bool nb, .slice A m cap]) (w.heap.size + 1) [.bool false, .slice none 0 0]) (w.heap.size + 1) = some [.bool false, .slice none 0 0] := updC_same
  change SR w _ (updC (updC (fun _ => none) w.heap.size [.bool nb, .slice A m cap]) (w.heap.size + 1) [.bool false, .slice none 0 0]) _ at r1
  generalize updC (updC (fun _ => none) w.heap.size [.bool nb, .slice A m cap]) (w.heap.size + 1) [.bool false, .slice none 0 0] = C1 at *
  replace hC0 := Hd.mk hC0
  replace hC1 := Hd.mk hC1
  replace r1 := Hd.mk r1
  replace hx := Hd.mk hx
  clear r0
  go_enter Tryz.func30, Tryz.ntmps30
  go_wp2_with (first
    | (go_at_call 85; refine (hmi.out _ _ r1.out.v0).mono ?_; rintro e w2 ⟨b2, A2, m2, c2, rfl, hn2, hb2⟩; have r2 := Hd.mk ((r1.out.op hb2).add hn2); clear hb2 hn2)
    | (go_at_call 12; refine (hpr.out _).mono ?_; rintro e w3 ⟨b3, A3, m3, c3, rfl, hn3, hb3⟩; have r3 := Hd.mk ((r2.out.op hb3).add hn3); clear hb3 hn3)
    | (go_at_call 11; refine (hti.out _ _ _ r3.out.v1 r3.out.v0).mono ?_; rintro e w4 ⟨b4, A4, m4, c4, rfl, hn4, hb4⟩; have r4 := Hd.mk ((r3.out.op hb4).add hn4); clear hb4 hn4; refine SR.cellK r4.out hC1.out ?_; intro q0 q1 qz qy ql))
  have hf := r4.out.set (b1 := b4) (A1 := A4) (m1 := m4) (c1 := c4) hC1.out
  have hf2 := Hd.mk (And.intro hf.v0 hf.bel)
  clear hf
  refine bodyPost_ret (v := .agg #[.bool b4, .slice A4 m4 c4]) (by simp [results, Tryz.results30, go_sem, q0, q1, qz, qy]) rfl ⟨_, rfl, hf2.out.1, hf2.out.2⟩
set_option maxHeartbeats 4000000 in
theorem oneS_4 (v : Value) (x : Int) (w : World) (hx : NumV w v x) (hl : x.natAbs < 10 ^ 130) : Calls Tryz.prog 30 #[.int .i64 4, v] w fun e w' => ∃ v, e = .returned v ∧ NumV w' v x ∧ Below w.heap.size w w' := by
  obtain ⟨A, cap, rfl, -⟩ := hx.open
  have hl' : T.wlen x.natAbs < 900 := wl200 (Nat.lt_trans hl (by decide))
  generalize decide (x < 0) = nb at *
  generalize T.wlen x.natAbs = m at *
  have r0 := SR.start w [(.agg #[.bool nb, .slice A m cap], x)] (fun p hp => by cases List.mem_singleton.1 hp; exact hx)
  have r1 := (r0.box #[.bool nb, .slice A m cap]).box #[.bool false, .slice none 0 0]
  rw [World.size_alloc] at r1
  have hC0 : (updC (updC (fun _ => none) w.heap.size [.bool nb, .slice A m cap]) (w.heap.size + 1) [.bool false, .slice none 0 0]) w.heap.size = some [.bool nb, .slice A m cap] := by rw [updC_ne (by omega)]; exact updC_same
  have hC1 : (updC (updC (fun _ => none) w.heap.size [.bool nb, .slice A m cap]) (w.heap.size + 1) [.bool false, .slice none 0 0]) (w.heap.size + 1) = some [.bool false, .slice none 0 0] := updC_same
  change SR w _ (updC (updC (fun _ => none) w.heap.size [.bool nb, .slice A m cap]) (w.heap.size + 1) [.bool false, .slice none 0 0]) _ at r1
  generalize updC (updC (fun _ => none) w.heap.size [.bool nb, .slice A m cap]) (w.heap.size + 1) [.bool false, .slice none 0 0] = C1 at *
  replace hC0 := Hd.mk hC0
  replace hC1 := Hd.mk hC1
  replace r1 := Hd.mk r1
  replace hx := Hd.mk hx
  clear r0
  go_enter Tryz.func30, Tryz.ntmps30
  go_upto_region 10 with fail
  generalize (w.alloc (.cells #[.bool nb, .slice A m cap] 24)).alloc (.cells #[.bool false, .slice none 0 0] 24) = w1 at *
  refine SR.cellK r1.out hC0.out ?_
  intro p0 p1 pz py pl
  refine SR.cellK r1.out hC1.out ?_
  intro q0 q1 qz qy ql
  go_wp2
  have hf := r1.out.set (b1 := nb) (A1 := A) (m1 := m) (c1 := cap) hC1.out
  have hf2 := Hd.mk (And.intro hf.v0 hf.bel)
  clear hf
  refine bodyPost_ret (v := .agg #[.bool nb, .slice A m cap]) (by simp [results, Tryz.results30, go_sem, q0, q1, qz, qy]) rfl ⟨_, rfl, hf2.out.1, hf2.out.2⟩
theorem oneS_any (k : Nat) (hk : k < 5) (v : Value) (x : Int) (w : World) (hx : NumV w v x) (hl : x.natAbs < 10 ^ 130) : Calls Tryz.prog 30 #[.int .i64 (k : Int), v] w fun e w' => ∃ v, e = .returned v ∧ NumV w' v (oneV k x) ∧ Below w.heap.size w w' := by
  match k, hk with
  | 0, _ => exact oneS_0 v x w hx hl
  | 1, _ => exact oneS_1 v x w hx hl
  | 2, _ => exact oneS_2 v x w hx hl
  | 3, _ => exact oneS_3 v x w hx hl
  | 4, _ => exact oneS_4 v x w hx hl
end Go.Proofs.YtpabbnogfflgpaaGreatDoor
end

section
namespace Go.Proofs.YtpabbnogfflgpaaGreatDoor
open Go.RowKit
set_option maxRecDepth 100000
theorem oneV_bd (k : Nat) (x : Int) : (oneV k x).natAbs ≤ x.natAbs + 1000000000000000000 := by
  unfold oneV chopU E18
  split
  · omega
  · split
    · omega
    · split
      · split
        · omega
        · split <;> omega
      · split
        · rw [Int.natAbs_mul, Int.natAbs_tdiv]
          exact Nat.le_trans (Nat.div_mul_le_self x.natAbs (Int.natAbs 1000000000000000000)) (by omega)
        · omega
theorem oneV_in {k : Nat} {x : Int} (h : (x.natAbs : Int) + 1000000000000000000 ≤ lim) : inR (oneV k x) = true := by
  have := oneV_bd k x
  exact inR_of (by omega) (by omega)
theorem DecOne_ok (k : Nat) (hk : k < 5) (m : Bool) (x : Int) (w : World) (hok : Ok w) (her : Er w) (hx : inR x = true) (hm : (x.natAbs : Int) + 1000000000000000000 ≤ lim) :
    Calls Tryz.prog 29 #[.int .i64 (k : Int), .string (zT x), .bool m] w fun e w' => e = .returned (.tuple #[.string (zT (oneV k x)), .bool true]) ∧ Below w.heap.size w w' := by
  have hz := oneV_in (k := k) hm
  have hwz := Nat.le_of_lt (inR_wl hz)
  have hwx := inR_wl hx
  refine one_ok k (zT x) m (zT (oneV k x)) w hok her ?_
  match k, hk with
  | 0, _ =>
    cases m
    · exact oneK_Neg x _ hx hwz (oneC_new fun Q BA S w1 h1 h2 => dNeg_any Q BA x S w1 h1 h2 (by omega))
    · exact oneK_NegMut x _ hx hwz (oneC_mut fun Q BA S w1 h1 h2 => NegMut_any Q BA x S w1 h1 h2 (by omega))
  | 1, _ =>
    cases m
    · exact oneK_Abs x _ hx hwz (oneC_new fun Q BA S w1 h1 h2 => dAbs_any Q BA x S w1 h1 h2 (by omega))
    · exact oneK_AbsMut x _ hx hwz (oneC_mut fun Q BA S w1 h1 h2 => AbsMut_any Q BA x S w1 h1 h2 (by omega))
  | 2, _ => exact oneK_Ceil m x _ hx hwz (oneC_new fun Q BA S w1 h1 h2 => Ceil_ok Q BA x S w1 h1 h2 (by omega) hz)
  | 3, _ => exact oneK_TruncateDec m x _ hx hwz (oneC_new fun Q BA S w1 h1 h2 => TruncateDec_any Q BA x S w1 h1 h2 (by omega))
  | 4, _ => exact oneK_Clone m x _ hx hwz (oneC_new fun Q BA S w1 h1 h2 => dClone_any Q BA x S w1 h1 h2 (by omega))
set_option maxHeartbeats 8000000 in
theorem ones_walk (op : Int) (a : ByteArray) (m : Bool) (w : World) (hok : Ok w) (her : Er w) (h0 : 0 ≤ op) (h1 : op < 256) :
    Calls Tryz.prog 7 #[.int .u8 op, .string a, .bool m] w fun e w' => e = .returned (.bool true) ∧ Below w.heap.size w w' := by
  by_cases hs : 2147483647 < a.size
  · have d1 : decide ((2147483647 : Int) < (a.size : Int)) = true := decide_eq_true (by omega)
    go_enter Tryz.func7, Tryz.ntmps7
    go_wp2
    go_ret
    exact ⟨rfl, Below.refl _ _⟩
  have d1 : decide ((2147483647 : Int) < (a.size : Int)) = false := decide_eq_false (by omega)
  have hpt := Hd.mk (parts_any a w (by omega))
  have hal := Hd.mk alive_any
  obtain ⟨k, hk5, hk⟩ : ∃ k : Nat, k < 5 ∧ op.tmod 5 = (k : Int) := ⟨(op.tmod 5).toNat, by have := Int.tmod_lt_of_pos op (b := 5) (by decide); have := Int.tmod_nonneg 5 h0; omega, by have := Int.tmod_nonneg 5 h0; omega⟩
  go_enter Tryz.func7, Tryz.ntmps7
  go_upto_region 4 with (go_at_call 17; refine hpt.out.mono ?_; rintro e w2 ⟨b2, A2, n2, c2, ok, rfl, hx, hb2⟩; replace hx := Hd.mk hx; replace hb2 := Hd.mk hb2)
  have r2 := Hd.mk (((SR.start w [] (fun p hp => by cases hp)).op hb2.out).box2 (b0 := b2) (A := A2) (m := n2) (c := c2))
  have hba : Below w2.heap.size w2 (w2.alloc (.cells #[.bool b2, .slice A2 n2 c2] 24)) := (Below.refl _ _).alloc (Nat.le_refl _) _
  have hC : Hd (updC (fun _ => none) w2.heap.size [.bool b2, .slice A2 n2 c2] w2.heap.size = some [.bool b2, .slice A2 n2 c2]) := ⟨updC_same⟩
  generalize updC (fun _ => none) w2.heap.size [.bool b2, .slice A2 n2 c2] = C at *
  have hxb := Hd.mk fun x (h : NumV w2 (.agg #[.bool b2, .slice A2 n2 c2]) x) => h.below hba
  clear hba
  generalize w2.alloc (.cells #[.bool b2, .slice A2 n2 c2] 24) = w3 at *
  refine SR.cellK r2.out hC.out ?_
  intro f0 f1 fz fy fl
  cases ok
  · go_wp2_with (go_at_call 10; refine (hal.out _ (hok.below r2.out.bel) (her.below r2.out.bel)).mono ?_; rintro e w9 ⟨rfl, hb9⟩; have r9 := Hd.mk (r2.out.op hb9); clear hb9)
    go_ret
    exact ⟨rfl, r9.out.bel⟩
  obtain ⟨x, hsx, hxm, hnx⟩ := hx.out rfl
  subst hsx
  rw [most_lim] at hxm
  have hxR : inR x = true := inR_of (by omega) (by omega)
  have hx130 := inR_130 hxR
  have r3 := Hd.mk (r2.out.add (hxb.out x hnx))
  have e18 : ((10 : Int) ^ 18) = 1000000000000000000 := by decide
  have hab := Hd.mk fun w1 v1 (h : NumV w1 v1 x) => nv (nabs_any v1 x w1 h)
  have hpr := Hd.mk fun w1 => nv (prec_any w1)
  rw [e18] at hpr
  have hwa : T.wlen ((x.natAbs : Int)).natAbs < 900 := wl200 (by rw [Int.natAbs_natCast]; exact Nat.lt_trans hx130 (by decide))
  have hw18 : T.wlen (1000000000000000000 : Int).natAbs < 900 := by have := wl_10_18; rw [e18] at this; omega
  have hws : T.wlen ((x.natAbs : Int) + 1000000000000000000).natAbs < 900 := wl200 (by have h2 : (10 : Nat) ^ 130 + 1000000000000000000 < 10 ^ 200 := (by decide); omega)
  have hpl := Hd.mk fun w1 v1 v2 (h1 : NumV w1 v1 (x.natAbs : Int)) (h2 : NumV w1 v2 1000000000000000000) => nv (nplus_any v1 v2 _ _ w1 h1 h2 (by omega) (by omega))
  have hwi := Hd.mk fun w1 v1 (h1 : NumV w1 v1 ((x.natAbs : Int) + 1000000000000000000)) => within_any v1 _ w1 h1 hws
  have hdo := Hd.mk fun (hl : (x.natAbs : Int) + 1000000000000000000 ≤ lim) w1 q1 q2 => DecOne_ok k hk5 m x w1 q1 q2 hxR hl
  have hso := Hd.mk fun w1 v1 (h1 : NumV w1 v1 x) => nv (oneS_any k hk5 v1 x w1 h1 hx130)
  have htx := Hd.mk fun w1 v1 (h1 : NumV w1 v1 (oneV k x)) => text_any v1 _ w1 h1 (wl200 (by have h2 : (10 : Nat) ^ 130 + 1000000000000000000 < 10 ^ 200 := (by decide); have := oneV_bd k x; omega))
  rw [most_lim] at hwi
  have hde : decide ((((x.natAbs : Int) + 1000000000000000000).natAbs : Int) ≤ lim) = decide ((x.natAbs : Int) + 1000000000000000000 ≤ lim) := by rw [show ((((x.natAbs : Int) + 1000000000000000000).natAbs : Int)) = (x.natAbs : Int) + 1000000000000000000 by omega]
  rw [hde] at hwi
  clear hwa hw18 hws hde e18
  replace hx130 := Hd.mk hx130
  replace hk5 := Hd.mk hk5
  generalize zT x = sx at *
  generalize zT (oneV k x) = sz at *
  generalize oneV k x = z at *
  generalize hxa : (x.natAbs : Int) = xa at *
  replace hxa := Hd.mk hxa
  generalize hxs : xa + 1000000000000000000 = xs at *
  replace hxs := Hd.mk hxs
  by_cases hl : xs ≤ lim
  · rw [decide_eq_true hl] at hwi
    have hdo1 := Hd.mk (hdo.out hl)
    go_upto_region 6 with (first
      | (go_at_call 27; refine (hab.out _ _ r3.out.v0).mono ?_; rintro e w4 ⟨b4, A4, m4, c4, rfl, hn4, hb4⟩; have r4 := Hd.mk ((r3.out.op hb4).add hn4); clear hb4 hn4)
      | (go_at_call 12; refine (hpr.out _).mono ?_; rintro e w5 ⟨b5, A5, m5, c5, rfl, hn5, hb5⟩; have r5 := Hd.mk ((r4.out.op hb5).add hn5); clear hb5 hn5)
      | (go_at_call 28; refine (hpl.out _ _ _ r5.out.v1 r5.out.v0).mono ?_; rintro e w6 ⟨b6, A6, m6, c6, rfl, hn6, hb6⟩; have r6 := Hd.mk ((r5.out.op hb6).add hn6); clear hb6 hn6)
      | (go_at_call 26; refine (hwi.out _ _ r6.out.v0).mono ?_; rintro e w7 ⟨rfl, hb7⟩; have r7 := Hd.mk (r6.out.op hb7); clear hb7))
    refine SR.cellK r7.out hC.out ?_
    intro g0 g1 gz gy gl
    go_upto_region 8 with (go_at_call 29; refine (hdo1.out _ (hok.below r7.out.bel) (her.below r7.out.bel)).mono ?_; rintro e w8 ⟨rfl, hb8⟩; have r8 := Hd.mk (r7.out.op hb8); clear hb8; refine SR.cellK r8.out hC.out ?_; intro i0 i1 iz iy il)
    have hx8 := Hd.mk (r8.out.num (.agg #[.bool b2, .slice A2 n2 c2], x) (.tail _ (.tail _ (.tail _ (.head _)))))
    go_wp2_with (first
      | (go_at_call 10; refine (hal.out _ (hok.below r8.out.bel) (her.below r8.out.bel)).mono ?_; rintro e w9 ⟨rfl, hb9⟩; have r9 := Hd.mk ((r8.out.add hx8.out).op hb9); clear hb9; refine SR.cellK r9.out hC.out ?_; intro j0 j1 jz jy jl)
      | (go_at_call 30; refine (hso.out _ _ r9.out.v0).mono ?_; rintro e w10 ⟨b10, A10, m10, c10, rfl, hn10, hb10⟩; have r10 := Hd.mk ((r9.out.op hb10).add hn10); clear hb10 hn10)
      | (go_at_call 15; refine (htx.out _ _ r10.out.v0).mono ?_; rintro e w11 ⟨rfl, hb11⟩; have r11 := Hd.mk (r10.out.op hb11); clear hb11))
    go_ret
    exact ⟨by simp, r11.out.bel⟩
  · rw [decide_eq_false hl] at hwi
    go_wp2_with (first
      | (go_at_call 27; refine (hab.out _ _ r3.out.v0).mono ?_; rintro e w4 ⟨b4, A4, m4, c4, rfl, hn4, hb4⟩; have r4 := Hd.mk ((r3.out.op hb4).add hn4); clear hb4 hn4)
      | (go_at_call 12; refine (hpr.out _).mono ?_; rintro e w5 ⟨b5, A5, m5, c5, rfl, hn5, hb5⟩; have r5 := Hd.mk ((r4.out.op hb5).add hn5); clear hb5 hn5)
      | (go_at_call 28; refine (hpl.out _ _ _ r5.out.v1 r5.out.v0).mono ?_; rintro e w6 ⟨b6, A6, m6, c6, rfl, hn6, hb6⟩; have r6 := Hd.mk ((r5.out.op hb6).add hn6); clear hb6 hn6)
      | (go_at_call 26; refine (hwi.out _ _ r6.out.v0).mono ?_; rintro e w7 ⟨rfl, hb7⟩; have r7 := Hd.mk (r6.out.op hb7); clear hb7)
      | (go_at_call 10; refine (hal.out _ (hok.below r7.out.bel) (her.below r7.out.bel)).mono ?_; rintro e w9 ⟨rfl, hb9⟩; have r9 := Hd.mk (r7.out.op hb9); clear hb9))
    go_ret
    exact ⟨rfl, r9.out.bel⟩
end Go.Proofs.YtpabbnogfflgpaaGreatDoor
end
