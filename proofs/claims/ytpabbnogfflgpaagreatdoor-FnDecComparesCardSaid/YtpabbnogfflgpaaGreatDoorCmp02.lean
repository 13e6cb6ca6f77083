/- The thin package: two decimals compared: the function. Rows of decimals compared. The thin package: rows of decimals are made of rows of texts. The thin package: two rows of decimals compared: the closure. The thin package: two rows of decimals compared: the function. Conditions: those that each theorem states. -/
import Derived.Test.YtpabbnogfflgpaaGreatDoorCmp01
import Derived.Test.YtpabbnogfflgpaaGreatDoorOnes01
set_option linter.all false

section
namespace Go.Proofs.YtpabbnogfflgpaaGreatDoor
open Go.RowKit
set_option maxRecDepth 100000
abbrev cmpW (w : World) (a b : ByteArray) : World := ((w.alloc (.cells #[.string a] 9)).alloc (.cells #[.string b] 9)).alloc (.cells #[.bool false, .bool false, .bool false, .bool false, .bool false] 40)
theorem cmpW_below (w : World) (a b : ByteArray) : Below w.heap.size w (cmpW w a b) :=
  (((Below.refl _ _).alloc (Nat.le_refl _) _).alloc (by simp only [World.size_alloc]; omega) _).alloc (by simp only [World.size_alloc]; omega) _
theorem cmpW_blk (w : World) (a b : ByteArray) : Blk (cmpW w a b) w.heap.size 9 [.string a] ∧ Blk (cmpW w a b) (w.heap.size + 1) 9 [.string b] ∧ Blk (cmpW w a b) (w.heap.size + 2) 40 falses := by
  have h1 := Blk.new w #[.string a] 9
  have h2 := Blk.new (w.alloc (.cells #[.string a] 9)) #[.string b] 9
  have h3 := Blk.new ((w.alloc (.cells #[.string a] 9)).alloc (.cells #[.string b] 9)) #[.bool false, .bool false, .bool false, .bool false, .bool false] 40
  simp only [World.size_alloc] at h1 h2 h3
  exact ⟨(h1.alloc _).alloc _, h2.alloc _, h3⟩
set_option maxHeartbeats 2000000 in
theorem DecCompare_ok (x y : Int) (hx : inR x = true) (hy : inR y = true) (w : World) (hok : Ok w) (her : Er w) :
    Calls Tryz.prog 19 #[.string (zT x), .string (zT y)] w fun e w' => e = .returned (.agg #[.bool (decide (x = y)), .bool (decide (y < x)), .bool (decide (y ≤ x)), .bool (decide (x < y)), .bool (decide (x ≤ y))]) ∧ Below w.heap.size w w' := by
  obtain ⟨h1, h2, h3⟩ := cmpW_blk w (zT x) (zT y)
  have hb1 := cmpW_below w (zT x) (zT y)
  have hs1 : (cmpW w (zT x) (zT y)).heap.size = w.heap.size + 3 := by simp only [World.size_alloc]
  have h100 := hok.2
  generalize hW : cmpW w (zT x) (zT y) = w1 at *
  have hb2 : Below w1.heap.size w1 (okW w1) := (Below.refl _ _).alloc (Nat.le_refl _) _
  have hb3 := hb1.trans (hb2.mono hb1.size)
  have hs2 : (okW w1).heap.size = w1.heap.size + 1 := World.size_alloc _ _
  have hc := CmpC_ok x y hx hy w.heap.size (w.heap.size + 1) (w.heap.size + 2) (okW w1) (hok.below hb3) (her.below hb3) (h1.alloc _) (h2.alloc _) (h3.alloc _) (by omega) (by omega)
  unfold cmpL at hc
  generalize decide (x = y) = q0 at *
  generalize decide (y < x) = q1 at *
  generalize decide (y ≤ x) = q2 at *
  generalize decide (x < y) = q3 at *
  generalize decide (x ≤ y) = q4 at *
  have hsf := Hd.mk (safe_ok 54 _ w1 (fun w2 => Keep (fun k => k < (okW w1).heap.size ∧ k ≠ (w.heap.size + 2)) (okW w1) w2 ∧ Blk w2 (w.heap.size + 2) 40 [.bool q0, .bool q1, .bool q2, .bool q3, .bool q4]) (enters Tryz.func54 (by kernel_rfl) (by kernel_rfl)) (hc.mono fun e w2 ⟨q1, q2, q3⟩ => ⟨q1, q2.block _ ⟨by omega, by omega⟩ (by omega), q2, q3⟩))
  have hfin : Hd (∀ w2 w3, Keep (fun k => k < (okW w1).heap.size ∧ k ≠ (w.heap.size + 2)) (okW w1) w2 → Put w2 w3 w1.heap.size 4 [.bool true] → Below w.heap.size w w3) := ⟨fun w2 w3 q1 q2 => q2.bel (hb3.trans ⟨q1.os, q1.tape, q1.output, q1.size, fun k hk => q1.block k ⟨Nat.lt_of_lt_of_le hk hb3.size, by omega⟩ (Nat.lt_of_lt_of_le hk hb3.size)⟩) hb1.size⟩
  have hmf : ∀ (fn : Fn) (first cap : Array Value) (w : World), (Instr.makeFunc fn first cap).run Tryz.prog w = .ok (.func fn first cap) w := fun _ _ _ _ => rfl
  have hne : w.heap.size + 2 ≠ w1.heap.size := by omega
  clear hc h1 h2 h3 hb1 hb2 hb3 hok her
  go_enter Tryz.func19, Tryz.ntmps19
  go_wp2_with fail
  refine hsf.out.mono ?_
  rintro e w3 ⟨rfl, w2, ⟨hc2, hu2⟩, hp3⟩
  have hb3 := Hd.mk (hfin.out w2 w3 hc2 hp3)
  have hu3 := hp3.blk hu2 hne
  have y0 : w3.cell? ⟨w.heap.size + 1 + 1, 0, none⟩ = some (.bool q0) := hu3.cell 0
  have y1 : w3.cell? ⟨w.heap.size + 1 + 1, 1, none⟩ = some (.bool q1) := hu3.cell 1
  have y2 : w3.cell? ⟨w.heap.size + 1 + 1, 2, none⟩ = some (.bool q2) := hu3.cell 2
  have y3 : w3.cell? ⟨w.heap.size + 1 + 1, 3, none⟩ = some (.bool q3) := hu3.cell 3
  have y4 : w3.cell? ⟨w.heap.size + 1 + 1, 4, none⟩ = some (.bool q4) := hu3.cell 4
  have z0 : w3.frozen? ⟨w.heap.size + 1 + 1, 0, none⟩ = false := hu3.frozen 0
  have z1 : w3.frozen? ⟨w.heap.size + 1 + 1, 1, none⟩ = false := hu3.frozen 1
  have z2 : w3.frozen? ⟨w.heap.size + 1 + 1, 2, none⟩ = false := hu3.frozen 2
  have z3 : w3.frozen? ⟨w.heap.size + 1 + 1, 3, none⟩ = false := hu3.frozen 3
  have z4 : w3.frozen? ⟨w.heap.size + 1 + 1, 4, none⟩ = false := hu3.frozen 4
  have lu : w.heap.size + 1 + 1 < w3.heap.size := hu3.lt
  have hself := Hd.mk (((((Put.refl hu3).set 0 (.bool q0)).set 1 (.bool q1)).set 2 (.bool q2)).set 3 (.bool q3))
  clear hu3 hu2 hc2 hp3 hsf hfin
  go_wp2
  refine bodyPost_ret (v := .agg #[.bool q0, .bool q1, .bool q2, .bool q3, .bool q4]) (by simp [results, Tryz.results19, go_sem, y0, y1, y2, y3, y4, z0, z1, z2, z3, z4, lu]) rfl ⟨rfl, ?_⟩
  (repeat first | exact hb3.out | refine Below.setCell ?_ (by dsimp only; omega) _)
end Go.Proofs.YtpabbnogfflgpaaGreatDoor
end

section
namespace Go.Proofs.YtpabbnogfflgpaaGreatDoor
open Go.RowKit
set_option maxRecDepth 100000
/-- A slice of decimals: n of them, with the values x. -/
structure DR (P : Nat → Prop) (S : Nat → Option Int) (w : World) (v : Value) (n : Nat) (x : Nat → Int) : Prop where
  form : ∃ A cap, v = .slice A n cap ∧ (0 < n → ∃ g, A = some ⟨g, 0, none⟩ ∧ P g ∧ g < w.heap.size ∧ ∀ i, i < n → ∃ B, w.cell? ⟨g, i, none⟩ = some (ptr B) ∧ S B = some (x i))
theorem DR.keep {P S w w' v n x} (h : DR P S w v n x) (hk : Keep P w w') : DR P S w' v n x := by
  obtain ⟨A, cap, hv, h⟩ := h.form
  refine ⟨A, cap, hv, fun hn => ?_⟩
  obtain ⟨g, hA, hg, hl, hc⟩ := h hn
  refine ⟨g, hA, hg, Nat.lt_of_lt_of_le hl hk.size, fun i hi => ?_⟩
  obtain ⟨B, h1, h2⟩ := hc i hi
  exact ⟨B, by rw [← h1]; exact World.cell?_of_block (hk.block g hg hl), h2⟩
/-- Alike. -/
def likeB (n m : Nat) (x y : Nat → Int) : Bool := decide (n = m) && (List.range n).all fun i => decide (x i = y i)
theorem likeB_ne {n m : Nat} {x y : Nat → Int} (h : n ≠ m) : likeB n m x y = false := by simp [likeB, h]
theorem likeB_no {n : Nat} {x y : Nat → Int} {i : Nat} (hi : i < n) (h : x i ≠ y i) : likeB n n x y = false := by
  simp only [likeB, decide_true, Bool.true_and, List.all_eq_false, List.mem_range, decide_eq_true_eq]
  exact ⟨i, hi, h⟩
theorem likeB_yes {n : Nat} {x y : Nat → Int} (h : ∀ i, i < n → x i = y i) : likeB n n x y = true := by
  simp only [likeB, decide_true, Bool.true_and, List.all_eq_true, List.mem_range, decide_eq_true_eq]
  exact h
set_option maxHeartbeats 2000000 in
theorem decsEqual_any (P : Nat → Prop) (S : Nat → Option Int) (w : World) (v1 v2 : Value) (n m : Nat) (x y : Nat → Int) (hI : Ints P w S) (h1 : DR P S w v1 n x) (h2 : DR P S w v2 m y) (hn : n < 1000000) (hm : m < 1000000) (hw : ∀ i, i < n → wlen (x i).natAbs < 800) :
    Calls Tryz.prog 62 #[v1, v2] w fun e w' => e = .returned (.bool (likeB n m x y)) ∧ Keep P w w' ∧ Ints P w' S := by
  obtain ⟨A1, cap1, rfl, h1f⟩ := h1.form
  obtain ⟨A2, cap2, rfl, h2f⟩ := h2.form
  clear h1 h2
  have hk0 := Hd.mk (Keep.refl P w)
  replace hI := Hd.mk hI
  have h1 := Hd.mk h1f
  have h2 := Hd.mk h2f
  clear h1f h2f
  replace hw := Hd.mk hw
  by_cases hnm : n = m
  · subst hnm
    go_enter Tryz.func62, Tryz.ntmps62
    go_wp2
    go_loopw [14] (fun i wr => ∃ k : Nat, k ≤ n ∧ i = .int .i64 k ∧ Hd (∀ j, j < k → x j = y j) ∧ Hd (Keep P w wr) ∧ Hd (Ints P wr S)) (fun i _ => n - (intOf i).toNat)
    case atStart => exact ⟨0, Nat.zero_le _, rfl, ⟨fun j hj => by omega⟩, hk0, hI⟩
    case round =>
      obtain ⟨k, hk, rfl, heq, hkp, hIr⟩ := hrel
      by_cases hlt : k < n
      · obtain ⟨g1, rfl, hg1, hl1, hc1⟩ := h1.out (by omega)
        obtain ⟨g2, rfl, hg2, hl2, hc2⟩ := h2.out (by omega)
        obtain ⟨B1, e1, s1⟩ := hc1 k hlt
        obtain ⟨B2, e2, s2⟩ := hc2 k hlt
        have e1r : wr.cell? ⟨g1, k, none⟩ = some (ptr B1) := (World.cell?_of_block (hkp.out.block g1 hg1 hl1)).trans e1
        have e2r : wr.cell? ⟨g2, k, none⟩ = some (ptr B2) := (World.cell?_of_block (hkp.out.block g2 hg2 hl2)).trans e2
        have l1 : g1 < wr.heap.size := hIr.out.pl g1 hg1
        have l2 : g2 < wr.heap.size := hIr.out.pl g2 hg2
        have r0 := Hd.mk (Run.start hIr.out)
        have r1 := Hd.mk (r0.out.box #[ptr B1] 71)
        have hc0 := Hd.mk fun w1 (Q : Nat → Prop) (h : Ints Q w1 S) => dEqual_any Q B1 B2 (x k) (y k) S w1 h s1 s2 (hw.out k hlt)
        have c6 := (r1.out.bx _ _ _ updX_same).cell 0
        simp only [List.getElem?_cons_zero] at c6
        have c2 : (wr.alloc (.cells #[ptr B1] 71)).cell? ⟨g2, k, none⟩ = some (ptr B2) := by rw [World.cell?_of_block (w := wr) (((Below.refl wr.heap.size wr).alloc (Nat.le_refl _) _).block g2 l2)]; exact e2r
        have m9 : (wr.alloc (.cells #[ptr B1] 71)).drew.cell? ⟨wr.heap.size, 0, none⟩ = some (ptr B1) ∧ (wr.alloc (.cells #[ptr B1] 71)).drew.cell? ⟨g2, k, none⟩ = some (ptr B2) := ⟨c6, c2⟩
        have hlk : x k ≠ y k → likeB n n x y = false := likeB_no hlt
        replace hlk := Hd.mk hlk
        go_upto_region 6 with fail
        go_region_held3 (fun wx => wx.cell? ⟨wr.heap.size, 0, none⟩ = some (ptr B1) ∧ wx.cell? ⟨g2, k, none⟩ = some (ptr B2)) (first | with_reducible exact m9 | with_reducible exact m2) (first
          | (go_at_call 56; refine (hc0.out _ _ r1.out.drew.ints).mono ?_; rintro e w3 ⟨rfl, q1, q2⟩; have r2 := Hd.mk (r1.out.drew.op q1 q2); have m2 : w3.cell? ⟨wr.heap.size, 0, none⟩ = some (ptr B1) ∧ w3.cell? ⟨g2, k, none⟩ = some (ptr B2) := ⟨(r2.out.bx _ _ _ updX_same).cell 0, (World.cell?_of_block (r2.out.keep.block g2 hg2 l2)).trans e2r⟩; clear q1 q2))
        all_goals
          have rf := Hd.mk (hkp.out.trans r2.out.fin.1)
          have ri := Hd.mk r2.out.fin.2
          by_cases he : x k = y k
          · rw [decide_eq_true he]
            replace he := Hd.mk he
            go_wp2
            go_roundw
            case rel => exact ⟨k + 1, by omega, by rw [Int.natCast_succ], ⟨fun j hj => if e : j = k then e ▸ he.out else heq.out j (by omega)⟩, rf, ri⟩
            case measure => simp [intOf]; omega
          · rw [decide_eq_false he]
            have hl := hlk.out he
            go_wp2
            go_ret
            exact ⟨by rw [hl]; rfl, rf.out, ri.out⟩
      · obtain rfl : k = n := by omega
        have hlk := likeB_yes heq.out
        go_wp2
        go_ret
        exact ⟨by rw [hlk]; rfl, hkp.out, hIr.out⟩
  · go_enter Tryz.func62, Tryz.ntmps62
    have hlk := likeB_ne (x := x) (y := y) hnm
    have hb : ((n : Int) != (m : Int)) = true := by simp; omega
    go_wp2
    go_ret
    exact ⟨by rw [hlk]; rfl, hk0.out, hI.out⟩
end Go.Proofs.YtpabbnogfflgpaaGreatDoor
end

section
namespace Go.Proofs.YtpabbnogfflgpaaGreatDoor
open Go.RowKit
set_option maxRecDepth 100000
/-- A row of the call's own grows: the Ints stay. -/
theorem Ints.grow {P : Nat → Prop} {w w' : World} {S : Nat → Option Int} {row : Option Nat} (h : Ints P w S) (hg : w.grownBy w' row) (hr : ∀ g, row = some g → P g ∧ 18 ≤ g) : Ints (fun k => P k ∨ (w.heap.size ≤ k ∧ k < w'.heap.size)) w' S := by
  obtain ⟨own, h⟩ := h
  have hne : ∀ k, ¬ P k → some k ≠ row := fun k hk e => hk (hr k e.symm).1
  refine ⟨own, ⟨?_, fun k hk => .inl (h.pg k hk), fun k hk => ?_, fun B z hB => (h.at_ B z hB).of_heap (hg.block B (h.at_ B z hB).lt (hne B (h.np B z hB))) fun K hK => hg.block K ((h.at_ B z hB).own_lt hK) (hne K (h.no B z K hB hK).1), fun B z hB hq => ?_, fun B z K hB hK => ⟨fun hq => ?_, (h.no B z K hB hK).2⟩, h.ap⟩⟩
  · refine h.gl.of_cells fun g x hg' hx => ?_
    rw [← hx]
    refine World.cell?_of_block (w := w) (hg.block g ?_ fun e => ?_)
    · exact World.block_lt_of_cell? w ⟨g, 0, none⟩ hx
    · have := (hr g e.symm).2; omega
  · rcases hk with hk | hk
    · exact Nat.lt_of_lt_of_le (h.pl k hk) hg.size
    · exact hk.2
  · rcases hq with h1 | h1
    · exact h.np B z hB h1
    · have := (h.at_ B z hB).lt; omega
  · rcases hq with h1 | h1
    · exact (h.no B z K hB hK).1 h1
    · have := (h.at_ B z hB).own_lt hK; omega
theorem decInfo0 : (Tryz.prog.info? 71).map (fun i => (i.zero, i.size, i.bytes)) = some (some (.agg #[.pointer none]), 1, 8) := by kernel_rfl
/-- A row of decimals of the call's own, begun at w0; the first k of x. -/
structure LI (w0 : World) (Q0 : Nat → Prop) (S0 : Nat → Option Int) (wr : World) (v : Value) (k : Nat) (x : Nat → Int) : Prop where
  bel : Below w0.heap.size w0 wr
  big : 18 ≤ w0.heap.size
  ex : ∃ (Q : Nat → Prop) (S : Nat → Option Int) (bs : List Nat), bs.length = k ∧ wr.ownsRow w0.heap.size 71 1 v k (bs.map ptr) ∧ Ints Q wr S ∧ (∀ j, Q0 j → Q j) ∧ (∀ j z, S0 j = some z → S j = some z) ∧
    (∀ g, v.ownBlock = some g → Q g) ∧ ∀ i, i < k → ∃ B, bs[i]? = some B ∧ S B = some (x i)
theorem LI.nil {w0 : World} {Q0 S0} (h : Ints Q0 w0 S0) (hb : 18 ≤ w0.heap.size) (x : Nat → Int) : LI w0 Q0 S0 w0 (.slice none 0 0) 0 x :=
  ⟨Below.refl _ _, hb, Q0, S0, [], rfl, World.ownsRow_nil _ _ _ _, h, fun _ h => h, fun _ _ h => h, fun g hg => by (simp [Value.ownBlock] at hg), fun i hi => by omega⟩
set_option maxHeartbeats 1000000 in
/-- A decimal more. -/
theorem wpList_pushD {w0 wr w1 : World} {Q0 : Nat → Prop} {S0 : Nat → Option Int} {ops : Array Oper} {rest : List Oper} {o : Oper} {a : Act} {Q : Exit → Act → World → Prop} (hgd : o.guard = none) (s x : Operand)
    (ho : o.op = .call { callee := .builtin .append, args := #[s, x], argTypes := #[87, 87] })
    (v : Value) (k : Nat) (xs : Nat → Int) (hs : a.eval s = v) (how : LI w0 Q0 S0 wr v k xs) (B : Nat) (hB : NewI wr w1 B (xs k)) (hx : a.eval x = .slice (some ⟨w1.heap.size, 0, none⟩) 1 1) (hn : k < 1000000)
    (h : ∀ v' w', LI w0 Q0 S0 w' v' (k + 1) xs → (∃ g cap, v' = .slice (some ⟨g, 0, none⟩) (k + 1 : Nat) cap) → wpList Tryz.prog ops Q rest (a.put o.dst v') w') :
    wpList Tryz.prog ops Q (o :: rest) a (w1.alloc (.cells #[ptr B] 71)) := by
  obtain ⟨i, hi, hz, hsz, hby⟩ := info_parts decInfo0
  obtain ⟨hbel, hbig, P, S, bs, hl, hrow, hI, hP, hS, hown, hv⟩ := how
  have hsize : w1.heap.size ≤ (w1.alloc (.cells #[ptr B] 71)).heap.size := by rw [World.size_alloc]; omega
  have hrow1 : w1.ownsRow w0.heap.size 71 1 v k (bs.map ptr) := hrow.kept (row := none) ⟨hB.bel.os, hB.bel.tape, hB.bel.output, hB.bel.size, fun k hk _ => hB.bel.block k hk⟩ (by
    cases e : v.ownBlock with
    | none => exact .inl rfl
    | some k => exact .inr (by simp))
  have hb1 := hbel.trans (hB.bel.mono hbel.size)
  refine wpList_append_lies _ hgd s x 87 ho w0.heap.size 71 i (.agg #[.pointer none]) 1 8 Tryz.underlying87 hi hz hsz hby rfl (by decide) v k (bs.map ptr) hs (hrow1.alloc _) ⟨w1.heap.size, 0, none⟩ 1 1 [ptr B] hx rfl
    (World.news_of_block (w := w1.alloc (.cells #[ptr B] 71)) (cs := #[ptr B]) (Blk.new w1 #[ptr B] 71))
    (fun u hu => by simp at hu; subst hu; rfl) (by decide) (by unfold maxLen; omega) (by omega) (Nat.le_trans hb1.size hsize) _ rfl ?_
  intro g cap w' h1 h2 h3 h4
  have hI1 := (hB.add hI).below (w' := w1.alloc (.cells #[ptr B] 71)) ((Below.refl _ _).alloc (Nat.le_refl _) _)
  have hb : Below w0.heap.size w0 w' := Below.grown (hb1.alloc hb1.size _) h2 (fun K hK => (hrow1.lt K hK).1) (Nat.le_trans hb1.size hsize)
  have hI2 := hI1.grow h2 (fun g hg => ⟨hown g hg, Nat.le_trans hbig (hrow1.lt g hg).1⟩)
  refine h _ w' ⟨hb, hbig, _, _, bs ++ [B], by rw [List.length_append, hl]; rfl, by rw [List.map_append]; exact h1, hI2, fun j hj => .inl (hP j hj), fun j z hj => ?_, fun g' hg' => ?_, fun j hj => ?_⟩ ⟨g, cap, rfl⟩
  · have := hI.lt (hS j z hj)
    rw [upd_ne (by have := hB.ge; omega)]
    exact hS j z hj
  · simp only [Value.ownBlock, Option.some.injEq] at hg'
    subst hg'
    rcases h3 with h3 | h3
    · exact .inl (hown _ h3)
    · exact .inr ⟨by omega, h4⟩
  · by_cases e : j = k
    · subst e
      exact ⟨B, by rw [List.getElem?_append_right (by omega), hl, Nat.sub_self]; rfl, upd_same⟩
    · obtain ⟨B', h5, h6⟩ := hv j (by omega)
      refine ⟨B', by rw [List.getElem?_append_left (by omega)]; exact h5, ?_⟩
      have := hI.lt h6
      rw [upd_ne (by have := hB.ge; omega)]
      exact h6
end Go.Proofs.YtpabbnogfflgpaaGreatDoor
end

section
namespace Go.Proofs.YtpabbnogfflgpaaGreatDoor
open Go.RowKit
set_option maxRecDepth 100000
/-- A row of texts of decimals, wherever it lies. -/
def TR (w : World) (v : Value) (n : Nat) (x : Nat → Int) : Prop :=
  ∃ A cap, v = .slice A n cap ∧ (0 < n → ∃ a, A = some a ∧ a.block < w.heap.size ∧ ∀ i, i < n → w.cell? (a.add i) = some (.string (zT (x i))))
theorem TR.below {w w' : World} {v : Value} {n : Nat} {x : Nat → Int} (h : TR w v n x) (hb : Below w.heap.size w w') : TR w' v n x := by
  obtain ⟨A, cap, hv, h⟩ := h
  refine ⟨A, cap, hv, fun hn => ?_⟩
  obtain ⟨a, h1, h2, h3⟩ := h hn
  exact ⟨a, h1, Nat.lt_of_lt_of_le h2 hb.size, fun i hi => cb' hb (h3 i hi)⟩
theorem LI.shape {w0 wr : World} {Q0 : Nat → Prop} {S0 : Nat → Option Int} {v : Value} {k : Nat} {x : Nat → Int} (h : LI w0 Q0 S0 wr v k x) : ∃ A c, v = .slice A k c := by
  obtain ⟨hbel, hbig, Q, S, bs, hl, hrow, hI, hP, hS, hown, hv⟩ := h
  rcases hrow.2 with ⟨rfl, h0⟩ | ⟨g, cap, cur, rfl, hb, hg, h1⟩
  · subst h0; exact ⟨none, 0, rfl⟩
  · exact ⟨_, cap, rfl⟩
theorem LI.dr {w0 wr : World} {Q0 : Nat → Prop} {S0 : Nat → Option Int} {v : Value} {k : Nat} {x : Nat → Int} (h : LI w0 Q0 S0 wr v k x) :
    ∃ (Q : Nat → Prop) (S : Nat → Option Int), Ints Q wr S ∧ (∀ j, Q0 j → Q j) ∧ (∀ j z, S0 j = some z → S j = some z) ∧ DR Q S wr v k x := by
  obtain ⟨hbel, hbig, Q, S, bs, hl, hrow, hI, hP, hS, hown, hv⟩ := h
  refine ⟨Q, S, hI, hP, hS, ?_⟩
  have hrow' := hrow
  rcases hrow.2 with ⟨rfl, h0⟩ | ⟨g, cap, cur, rfl, hb, hg, h1⟩
  · subst h0; exact ⟨none, 0, rfl, fun h => by omega⟩
  · refine ⟨_, cap, rfl, fun hn => ⟨g, rfl, hown g rfl, (hrow'.lt g rfl).2, fun i hi => ?_⟩⟩
    obtain ⟨B, h5, h6⟩ := hv i hi
    exact ⟨B, by rw [hrow'.cellAt i (by omega), List.getElem?_map, h5]; rfl, h6⟩
theorem DR.more {P Q : Nat → Prop} {S S' : Nat → Option Int} {w w' : World} {v : Value} {n : Nat} {x : Nat → Int} (h : DR P S w v n x) (hb : Below w.heap.size w w') (hP : ∀ j, P j → Q j) (hS : ∀ j z, S j = some z → S' j = some z) : DR Q S' w' v n x := by
  obtain ⟨A, cap, hv, h⟩ := h.form
  refine ⟨A, cap, hv, fun hn => ?_⟩
  obtain ⟨g, h1, h2, h3, h4⟩ := h hn
  refine ⟨g, h1, hP g h2, Nat.lt_of_lt_of_le h3 hb.size, fun i hi => ?_⟩
  obtain ⟨B, h5, h6⟩ := h4 i hi
  exact ⟨B, cb' hb h5, hS _ _ h6⟩
set_option maxHeartbeats 4000000 in
theorem DecsC_ok (v1 v2 : Value) (n m : Nat) (x y : Nat → Int) (ba bb bl : Nat) (w : World) (hok : Ok w) (her : Er w) (h1 : TR w v1 n x) (h2 : TR w v2 m y) (hx : ∀ i, i < n → inR (x i) = true) (hy : ∀ i, i < m → inR (y i) = true) (hn : n < 1000000) (hm : m < 1000000)
    (ha : Blk w ba 37 [v1]) (hb : Blk w bb 37 [v2]) (hl : Blk w bl 4 [.bool false]) (hl1 : 18 ≤ bl) :
    Calls Tryz.prog 61 #[ptr ba, ptr bb, ptr bl] w fun e w' => e = .returned (.tuple #[]) ∧ Keep (fun k => k < w.heap.size ∧ k ≠ bl) w w' ∧ Blk w' bl 4 [.bool (likeB n m x y)] := by
  obtain ⟨A1, cap1, rfl, h1f⟩ := h1
  obtain ⟨A2, cap2, rfl, h2f⟩ := h2
  have h1 := Hd.mk h1f
  have h2 := Hd.mk h2f
  clear h1f h2f
  have hbl := Hd.mk hl
  have hbig : Hd (18 ≤ w.heap.size) := ⟨by have := hl.lt; omega⟩
  have ca := ha.cell 0
  have cb0 := hb.cell 0
  simp only [List.getElem?_cons_zero] at ca cb0
  have la := ha.lt
  have lb := hb.lt
  have i0 := Hd.mk hok.run.fin.2
  have hd0 := Hd.mk fun (z : Int) (hz : inR z = true) w1 (hb : Below w.heap.size w w1) => decimal_ok z w1 (hok.below hb) (her.below hb) (inR_130 hz)
  have b0 := Hd.mk (LI.nil (Q0 := (· < w.heap.size)) i0.out hbig.out x)
  replace hx := Hd.mk hx
  replace hy := Hd.mk hy
  clear ha hb hl hok her
  go_enter Tryz.func61, Tryz.ntmps61
  go_wp2
  go_loopw [3, 11] (fun v i wr => ∃ k : Nat, k ≤ n ∧ i = .int .i64 k ∧ Hd (LI w (· < w.heap.size) (fun _ => none) wr v k x)) (fun _ i _ => n - (intOf i).toNat)
  case atStart => exact ⟨0, Nat.zero_le _, rfl, b0⟩
  case round =>
    obtain ⟨k, hk, rfl, how⟩ := hrel
    by_cases hlt : k < n
    · obtain ⟨a, rfl, ha1, ha2⟩ := h1.out (by omega)
      have e1 := cb' how.out.bel (ha2 k hlt)
      have hd := Hd.mk (hd0.out (x k) (hx.out k hlt) _ how.out.bel)
      obtain ⟨A0, c0, rfl⟩ := how.out.shape
      go_wp2_with (first
        | (go_at_call 55; refine hd.out.mono ?_; rintro e wd ⟨B, rfl, hB⟩)
        | (at_builtin; refine wpList_pushD rfl (.tmp 15) (.tmp 18) rfl _ k x rfl how.out B hB rfl (by omega) ?_; intro v' w' how2 hv'; obtain ⟨g', cap', rfl⟩ := hv'; replace how2 := Hd.mk how2))
      go_roundw
      case rel => exact ⟨k + 1, by omega, by rw [Int.natCast_succ], how2⟩
      case measure => simp [intOf]; omega
    · obtain rfl : k = n := by omega
      obtain ⟨Q1, S1, hI1, hQ1, hS1, hdr⟩ := how.out.dr
      have hb1 := Hd.mk how.out.bel
      have b1 := Hd.mk (LI.nil hI1 (Nat.le_trans hbig.out hb1.out.size) y)
      replace hdr := Hd.mk hdr
      replace hQ1 := Hd.mk hQ1
      obtain ⟨A0, c0, rfl⟩ := how.out.shape
      clear hI1 hS1 how
      rename World => wa
      have cb1 := cb' hb1.out cb0
      go_wp2
      go_loopw [4, 23] (fun v i w2 => ∃ k2 : Nat, k2 ≤ m ∧ i = .int .i64 k2 ∧ Hd (LI wa Q1 S1 w2 v k2 y)) (fun _ i _ => m - (intOf i).toNat)
      case atStart => exact ⟨0, Nat.zero_le _, rfl, b1⟩
      case round =>
        obtain ⟨k2, hk2, rfl, how⟩ := hrel
        obtain ⟨A3, c3, rfl⟩ := how.out.shape
        by_cases hlt2 : k2 < m
        · obtain ⟨a, rfl, ha1, ha2⟩ := h2.out (by omega)
          have hb2 := hb1.out.trans (how.out.bel.mono hb1.out.size)
          have e2 := cb' hb2 (ha2 k2 hlt2)
          have hd := Hd.mk (hd0.out (y k2) (hy.out k2 hlt2) _ hb2)
          clear hb2
          go_wp2_with (first
            | (go_at_call 55; refine hd.out.mono ?_; rintro e wd ⟨B, rfl, hB⟩)
            | (at_builtin; refine wpList_pushD rfl (.tmp 27) (.tmp 30) rfl _ k2 y rfl how.out B hB rfl (by omega) ?_; intro v' w' how2 hv'; obtain ⟨g', cap', rfl⟩ := hv'; replace how2 := Hd.mk how2))
          go_roundw
          case rel => exact ⟨k2 + 1, by omega, by rw [Int.natCast_succ], how2⟩
          case measure => simp [intOf]; omega
        · obtain rfl : k2 = m := by omega
          obtain ⟨Q2, S2, hI2, hQ2, hS2, hdr2⟩ := how.out.dr
          have hbw := how.out.bel
          have hdr1 := hdr.out.more hbw hQ2 hS2
          have hb2 := Hd.mk (hb1.out.trans (hbw.mono hb1.out.size))
          have hc := Hd.mk (decsEqual_any Q2 S2 wr _ _ _ _ x y hI2 hdr1 hdr2 hn hm (fun i hi => by have := inR_wl (hx.out i hi); omega))
          have hQw : Hd (∀ j, j < w.heap.size → Q2 j) := ⟨fun j hj => hQ2 j (hQ1.out j hj)⟩
          have hu2 := Hd.mk ((hbl.out.of_heap (hb2.out.block bl hbl.out.lt)))
          clear hI2 hQ2 hS2 hdr2 hdr1 hbw how hdr hQ1 b1 b0 hd0 i0
          go_wp2_with (go_at_call 62; refine hc.out.mono ?_; rintro e w3 ⟨rfl, hk3, hI3⟩; have hb3 : Below w.heap.size w w3 := hb2.out.trans ⟨hk3.os, hk3.tape, hk3.output, hk3.size, fun j hj => hk3.block j (hQw.out j hj) (Nat.lt_of_lt_of_le hj hb2.out.size)⟩; have hu3 := hbl.out.of_heap (hb3.block bl hbl.out.lt); have c3 := hu3.cell 0; have f3 := hu3.frozen 0; have l3 := hu3.lt; have hp := Hd.mk (put1 (v' := .bool (likeB k k2 x y)) hu3); have hfin := Hd.mk (Keep.put (P := fun j => j < w.heap.size ∧ j ≠ bl) (Keep.of_below hb3) hp.out (fun h => h.2 rfl)); simp only [List.getElem?_cons_zero] at c3; clear hb3 hu3 hk3 hI3)
          go_end0
          exact ⟨rfl, hfin.out, hp.out.here⟩
end Go.Proofs.YtpabbnogfflgpaaGreatDoor
end

section
namespace Go.Proofs.YtpabbnogfflgpaaGreatDoor
open Go.RowKit
set_option maxRecDepth 100000
abbrev rowW (w : World) (v1 v2 : Value) : World := ((w.alloc (.cells #[v1] 37)).alloc (.cells #[v2] 37)).alloc (.cells #[.bool false] 4)
theorem rowW_below (w : World) (v1 v2 : Value) : Below w.heap.size w (rowW w v1 v2) :=
  (((Below.refl _ _).alloc (Nat.le_refl _) _).alloc (by simp only [World.size_alloc]; omega) _).alloc (by simp only [World.size_alloc]; omega) _
theorem rowW_blk (w : World) (v1 v2 : Value) : Blk (rowW w v1 v2) w.heap.size 37 [v1] ∧ Blk (rowW w v1 v2) (w.heap.size + 1) 37 [v2] ∧ Blk (rowW w v1 v2) (w.heap.size + 2) 4 [.bool false] := by
  have h1 := Blk.new w #[v1] 37
  have h2 := Blk.new (w.alloc (.cells #[v1] 37)) #[v2] 37
  have h3 := Blk.new ((w.alloc (.cells #[v1] 37)).alloc (.cells #[v2] 37)) #[.bool false] 4
  simp only [World.size_alloc] at h1 h2 h3
  exact ⟨(h1.alloc _).alloc _, h2.alloc _, h3⟩
set_option maxHeartbeats 2000000 in
theorem DecsEqual_ok (v1 v2 : Value) (n m : Nat) (x y : Nat → Int) (w : World) (hok : Ok w) (her : Er w) (ht1 : TR w v1 n x) (ht2 : TR w v2 m y) (hx : ∀ i, i < n → inR (x i) = true) (hy : ∀ i, i < m → inR (y i) = true) (hn : n < 1000000) (hm : m < 1000000) :
    Calls Tryz.prog 20 #[v1, v2] w fun e w' => e = .returned (.bool (likeB n m x y)) ∧ Below w.heap.size w w' := by
  have ht3 := ht1
  have ht4 := ht2
  obtain ⟨A1, c1, rfl, _⟩ := ht3
  obtain ⟨A2, c2, rfl, _⟩ := ht4
  obtain ⟨h1, h2, h3⟩ := rowW_blk w (.slice A1 n c1) (.slice A2 m c2)
  have hb1 := rowW_below w (.slice A1 n c1) (.slice A2 m c2)
  have hs1 : (rowW w (.slice A1 n c1) (.slice A2 m c2)).heap.size = w.heap.size + 3 := by simp only [World.size_alloc]
  have h100 := hok.2
  generalize hW : rowW w (.slice A1 n c1) (.slice A2 m c2) = w1 at *
  have hb2 : Below w1.heap.size w1 (okW w1) := (Below.refl _ _).alloc (Nat.le_refl _) _
  have hb3 := hb1.trans (hb2.mono hb1.size)
  have hs2 : (okW w1).heap.size = w1.heap.size + 1 := World.size_alloc _ _
  have hc := DecsC_ok _ _ n m x y w.heap.size (w.heap.size + 1) (w.heap.size + 2) (okW w1) (hok.below hb3) (her.below hb3) (ht1.below hb3) (ht2.below hb3) hx hy hn hm (h1.alloc _) (h2.alloc _) (h3.alloc _) (by omega)
  generalize likeB n m x y = q0 at *
  have hsf := Hd.mk (safe_ok 61 _ w1 (fun w2 => Keep (fun k => k < (okW w1).heap.size ∧ k ≠ (w.heap.size + 2)) (okW w1) w2 ∧ Blk w2 (w.heap.size + 2) 4 [.bool q0]) (enters Tryz.func61 (by kernel_rfl) (by kernel_rfl)) (hc.mono fun e w2 ⟨q1, q2, q3⟩ => ⟨q1, q2.block _ ⟨by omega, by omega⟩ (by omega), q2, q3⟩))
  have hfin : Hd (∀ w2 w3, Keep (fun k => k < (okW w1).heap.size ∧ k ≠ (w.heap.size + 2)) (okW w1) w2 → Put w2 w3 w1.heap.size 4 [.bool true] → Below w.heap.size w w3) := ⟨fun w2 w3 q1 q2 => q2.bel (hb3.trans ⟨q1.os, q1.tape, q1.output, q1.size, fun k hk => q1.block k ⟨Nat.lt_of_lt_of_le hk hb3.size, by omega⟩ (Nat.lt_of_lt_of_le hk hb3.size)⟩) hb1.size⟩
  have hmf : ∀ (fn : Fn) (first cap : Array Value) (w : World), (Instr.makeFunc fn first cap).run Tryz.prog w = .ok (.func fn first cap) w := fun _ _ _ _ => rfl
  have hne : w.heap.size + 2 ≠ w1.heap.size := by omega
  clear hc h1 h2 h3 hb1 hb2 hb3 hok her ht1 ht2
  go_enter Tryz.func20, Tryz.ntmps20
  go_wp2_with fail
  refine hsf.out.mono ?_
  rintro e w3 ⟨rfl, w2, ⟨hc2, hu2⟩, hp3⟩
  have hb3 := Hd.mk (hfin.out w2 w3 hc2 hp3)
  have hu3 := hp3.blk hu2 hne
  have y0 : w3.cell? ⟨w.heap.size + 1 + 1, 0, none⟩ = some (.bool q0) := hu3.cell 0
  have z0 : w3.frozen? ⟨w.heap.size + 1 + 1, 0, none⟩ = false := hu3.frozen 0
  have lu : w.heap.size + 1 + 1 < w3.heap.size := hu3.lt
  clear hu3 hu2 hc2 hp3 hsf hfin
  go_wp2
  refine bodyPost_ret (v := .bool q0) (by simp [results, Tryz.results20, go_sem, y0, z0, lu]) rfl ⟨rfl, ?_⟩
  (repeat first | exact hb3.out | refine Below.setCell ?_ (by dsimp only; omega) _)
end Go.Proofs.YtpabbnogfflgpaaGreatDoor
end
