/- Texts that are no number: the scan fails at its first byte. Decimals' texts that are refused: the ways out of LegacyNewDecFromStr. Conditions: those that each theorem states. -/
import Derived.Test.YtmamfidjigmahaaGreatDoorSums22
import Derived.Test.YtmamfidjigmahaaGreatDoorSums21
import Derived.Test.YtmamfidjigmahaaGreatDoorSums25
set_option linter.all false

section
namespace Go.Proofs.YtmamfidjigmahaaGreatDoor
open Go.RowKit
set_option maxRecDepth 100000
set_option maxHeartbeats 4000000 in
theorem IScan_none (B R : Nat) (s : ByteArray) (E N : Addr) (w : World) (hB : Blk w B 83 [.bool false, .slice none 0 0]) (hR : RdAt w R s 0) (hBR : B ≠ R) (hRg : 15 ≤ R) (hBg : 15 ≤ B) (hRl : R < w.heap.size) (h0 : 0 < s.size) (hs : s.size < 140)
    (hE : w.cell? ⟨3, 0, none⟩ = some (errV E)) (hN : w.cell? ⟨12, 0, none⟩ = some (errV N)) (hpn : (sgP s).2 ≤ s.size) (hend : (sgP s).2 = s.size ∨ ¬ isD (ch s (sgP s).2)) :
    Calls Tryz.prog 162 #[ptr B, .iface 122 (ptr R), .int .i64 10] w fun e w' => e = .returned (.tuple #[.pointer none, .int .i64 10, errV N]) ∧ C2 w w' B R := by
  have hsg := Hd.mk (scanSign_some R s w hR h0 hs)
  have hns : Hd (∀ w1, RdTo w w1 R s (sgP s).2 → Calls Tryz.prog 197 #[.slice none 0 0, .iface 122 (ptr R), .int .i64 10, .bool false] w1 fun e w' => ∃ v, e = .returned (.tuple #[v, .int .i64 10, .int .i64 (0 : Nat), errV N]) ∧ Sc w1 w' R s ((sgP s).2 + 0) v (dn s (sgP s).2 0)) := ⟨fun w1 h => by
    obtain ⟨pr, hp⟩ := h
    have := scan10_any R (sgP s).2 0 E N s w1 hRg (by rw [hp.size]; exact hRl) hs (RdAt.of_put hp) ((hp.cell_other (by omega) 0).trans hE) ((hp.cell_other (by omega) 0).trans hN) hpn (fun j hj => by omega) hend
    rwa [if_pos rfl] at this⟩
  have c0 := hB.cell 0
  have c1 := hB.cell 1
  simp only [List.getElem?_cons_succ, List.getElem?_cons_zero] at c0 c1
  generalize dn s (sgP s).2 0 = m at *
  generalize (sgP s).2 = p at *
  generalize (sgP s).1 = neg at *
  have hfin : Hd (∀ w1 w2 v, RdTo w w1 R s p → Sc w1 w2 R s (p + 0) v m → Blk w2 B 83 [.bool false, .slice none 0 0] → C2 w (w2.setCell ⟨B, 1, none⟩ v) B R) := ⟨fun w1 w2 v h1 h2 h3 => (((C2.refl w B R).rd h1).sc h2).putB ((Put.refl h3).set 1 v)⟩
  replace hend := Hd.mk hend
  replace hR := Hd.mk hR
  replace hE := Hd.mk hE
  replace hN := Hd.mk hN
  replace hB := Hd.mk hB
  have hkB : Hd (∀ w1, RdTo w w1 R s p → Blk w1 B 83 [.bool false, .slice none 0 0]) := ⟨fun w1 h => h.choose_spec.blk hB.out hBR⟩
  have hkB2 : Hd (∀ w1 w2 v, RdTo w w1 R s p → Sc w1 w2 R s (p + 0) v m → Blk w2 B 83 [.bool false, .slice none 0 0]) := ⟨fun w1 w2 v h k => k.chg.blk (hkB.out w1 h) (by simp; omega)⟩
  have hm1 := methR
  have hnn := niln_nil
  have hne := errn_nil N
  go_enter Tryz.func162, Tryz.ntmps162
  go_wp2_with (first | (go_at_call 196; refine hsg.out.mono ?_; rintro e w1 ⟨rfl, hr1⟩; have hb1 := hkB.out w1 hr1; have d0 := hb1.cell 0; have d1 := hb1.cell 1; simp only [List.getElem?_cons_succ, List.getElem?_cons_zero] at d0 d1; have y0 := hb1.frozen 0; have y1 := hb1.frozen 1; replace hb1 := Hd.mk hb1; replace hr1 := Hd.mk hr1) | (go_at_call 197; refine (hns.out _ hr1.out).mono ?_; rintro e w2 ⟨v, rfl, hsc⟩; obtain ⟨o, hno, hoK⟩ := hsc.nat; replace hno := Hd.mk hno; obtain ⟨A, cap, rfl, hcl, _⟩ := hno.out; have hb2 := hkB2.out w1 w2 _ hr1.out hsc; have g0 := hb2.cell 0; have g1 := hb2.cell 1; simp only [List.getElem?_cons_succ, List.getElem?_cons_zero] at g0 g1; have q0 := hb2.frozen 0; have q1 := hb2.frozen 1; replace hb2 := Hd.mk hb2; replace hsc := Hd.mk hsc; replace hoK := Hd.mk hoK))
  refine bodyPost_ret (v := .tuple #[.pointer none, .int .i64 10, errV N]) (by simp [results, Tryz.results162, go_sem]) rfl ⟨rfl, hfin.out w1 w2 _ hr1.out hsc.out hb2.out⟩
set_option maxHeartbeats 4000000 in
theorem SFS_none (B R : Nat) (s : ByteArray) (w : World) (hB : Blk w B 83 [.bool false, .slice none 0 0]) (hR : RdAt w R s 0) (hBR : B ≠ R) (hRg : 15 ≤ R) (hBg : 15 ≤ B) (hRl : R < w.heap.size) (h0 : 0 < s.size) (hs : s.size < 140)
    (her : Er w) (hpn : (sgP s).2 ≤ s.size) (hend : (sgP s).2 = s.size ∨ ¬ isD (ch s (sgP s).2)) :
    Calls Tryz.prog 136 #[ptr B, .iface 122 (ptr R), .int .i64 10] w fun e w' => e = .returned (.tuple #[.pointer none, .bool false]) ∧ C2 w w' B R := by
  obtain ⟨E, hE⟩ := her.eof
  obtain ⟨N, hN⟩ := her.nod
  have hsc := Hd.mk (IScan_none B R s E N w hB hR hBR hRg hBg hRl h0 hs hE hN hpn hend)
  have hne := errn_nil N
  clear her hB hR hend hN hE
  go_enter Tryz.func136, Tryz.ntmps136
  go_wp2_with (go_at_call 162; refine hsc.out.mono ?_; rintro e w1 ⟨rfl, hc1⟩; replace hc1 := Hd.mk hc1)
  go_ret2
  exact ⟨rfl, hc1.out⟩
set_option maxHeartbeats 4000000 in
theorem SetString_none (B : Nat) (s : ByteArray) (w : World) (hB : Blk w B 83 [.bool false, .slice none 0 0]) (hBg : 15 ≤ B) (h0 : 0 < s.size) (hs : s.size < 140)
    (her : Er w) (hpn : (sgP s).2 ≤ s.size) (hend : (sgP s).2 = s.size ∨ ¬ isD (ch s (sgP s).2)) :
    Calls Tryz.prog 101 #[ptr B, .string s, .int .i64 10] w fun e w' => e = .returned (.tuple #[.pointer none, .bool false]) ∧ Chg w w' (some B) := by
  have hBl := hB.lt
  have hb1 : Below w.heap.size w (w.alloc (.cells #[.string s, .int .i64 0, .int .i64 (-1)] 152)) := (Below.refl _ _).alloc (Nat.le_refl _) _
  have hsz : (w.alloc (.cells #[.string s, .int .i64 0, .int .i64 (-1)] 152)).heap.size = w.heap.size + 1 := World.size_alloc _ _
  have hsf := Hd.mk (SFS_none B w.heap.size s _ (hB.alloc _) ⟨-1, Blk.new w #[.string s, .int .i64 0, .int .i64 (-1)] 152⟩ (by omega) (by omega) hBg (by omega) h0 hs (her.below hb1) hpn hend)
  have hfin : Hd (∀ w', C2 (w.alloc (.cells #[.string s, .int .i64 0, .int .i64 (-1)] 152)) w' B w.heap.size → Chg w w' (some B)) := ⟨fun w' h1 => h1.chg (Nat.le_refl _) hb1 rfl hBl⟩
  have hnr := Hd.mk (NewReader_any s w)
  clear hB hBg her hend hb1 hsz hpn
  go_enter Tryz.func101, Tryz.ntmps101
  go_wp2_with (first | (go_at_call 137; refine hnr.out.mono ?_; rintro e w1 ⟨rfl, rfl⟩) | (go_at_call 136; refine hsf.out.mono ?_; rintro e w2 ⟨rfl, hc2⟩; replace hc2 := Hd.mk (hfin.out _ hc2)))
  go_ret2
  exact ⟨rfl, hc2.out⟩
/-- A text that begins with no digit, or goes on with something else, sets no number. -/
theorem SetString_bad (B : Nat) (s : ByteArray) (w : World) (hB : Blk w B 83 [.bool false, .slice none 0 0]) (hBg : 15 ≤ B) (h0 : 0 < s.size) (hs : s.size < 140)
    (her : Er w) (hsg : (sgP s).2 = 0) (hb : ∃ j, j < s.size ∧ ¬ isD (ch s j)) :
    Calls Tryz.prog 101 #[ptr B, .string s, .int .i64 10] w fun e w' => e = .returned (.tuple #[.pointer none, .bool false]) ∧ Chg w w' (some B) := by
  obtain ⟨n, h1, h2, h3⟩ := lead s 0 (Nat.zero_le _)
  rw [Nat.zero_add] at h1 h3
  have hne : n ≠ s.size := fun e => by
    obtain ⟨j, hj, hjn⟩ := hb
    have := h2 j (by omega)
    rw [Nat.zero_add] at this
    exact hjn this
  have h4 : ¬ isD (ch s n) := h3.resolve_left hne
  by_cases hn : n = 0
  · subst hn
    exact SetString_none B s w hB hBg h0 hs her (by omega) (.inr (by rw [hsg]; exact h4))
  · have h := SetString_any B n s w hB hBg h0 hs her (by omega) (by rw [hsg]; exact h2) (by rw [hsg, Nat.zero_add]; exact .inr h4) hn
    rw [hsg, Nat.zero_add, if_neg hne, decide_eq_false hne] at h
    exact h.mono fun e w' ⟨q1, q2, _⟩ => ⟨q1, q2⟩
end Go.Proofs.YtmamfidjigmahaaGreatDoor
end

section
namespace Go.Proofs.YtmamfidjigmahaaGreatDoor
open Go.RowKit
set_option maxRecDepth 100000
theorem errNew_any (s : ByteArray) (w : World) : Calls Tryz.prog 99 #[.string s] w fun e w' => e = .returned (errV ⟨w.heap.size, 0, none⟩) ∧ w' = w.alloc (.cells #[.string s] 110) := by
  go_enter Tryz.func99, Tryz.ntmps99
  go_wp2
  go_ret
  exact ⟨rfl, rfl⟩
/-- What a refusal hands back. -/
def FErr (w : World) (e : Ending) (w' : World) : Prop := ∃ a, e = .returned (.tuple #[.agg #[.pointer none], errV a]) ∧ Below w.heap.size w w'
theorem unm_cases (s : ByteArray) {neg : Bool} {t : ByteArray} (h : unm s = (neg, t)) : if neg = true then 0 < s.size ∧ ch s 0 = 45 ∧ t = s.extract 1 s.size else ¬ (0 < s.size ∧ ch s 0 = 45) ∧ t = s := by
  unfold unm at h
  split at h
  · rename_i h1
    obtain ⟨rfl, rfl⟩ := Prod.mk.inj h
    exact ⟨h1.1, h1.2, rfl⟩
  · rename_i h1
    obtain ⟨rfl, rfl⟩ := Prod.mk.inj h
    exact ⟨h1, rfl⟩
set_option maxHeartbeats 4000000 in
theorem FromStr_empty (s t : ByteArray) (neg : Bool) (w : World) (hok : Ok w) (her : Er w) (hs : s.size < 120) (hun : unm s = (neg, t)) (h0 : t.size = 0) :
    Calls Tryz.prog 48 #[.string s] w fun e w' => FErr w e w' := by
  have hts : t.size ≤ s.size := by have := unm_size s; rw [hun] at this; exact this
  have hun := unm_cases s hun
  obtain ⟨E, hE⟩ := her.e1
  have hb1 : Below w.heap.size w (w.alloc (.cells #[.pointer none] 52)) := (Below.refl _ _).alloc (Nat.le_refl _) _
  have hE1 := cb hb1 hE
  have hG := hok.2
  have hok1 := hok.below hb1
  have her1 := her.below hb1
  have hbk := Blk.new w #[.pointer none] 52
  have c0 := hbk.cell 0
  have z0 := hbk.frozen 0
  simp only [List.getElem?_cons_zero] at c0
  have sz1 : w.heap.size < (w.alloc (.cells #[.pointer none] 52)).heap.size := by rw [World.size_alloc]; omega
  replace hb1 := Hd.mk hb1
  replace hok1 := Hd.mk hok1
  replace her1 := Hd.mk her1
  replace hbk := Hd.mk hbk
  clear hok her
  cases neg
  · simp only [Bool.false_eq_true, if_false] at hun
    obtain ⟨-, rfl⟩ := hun
    have hd0 : decide (0 < (t.size : Int)) = false := decide_eq_false (by omega)
    have dz : ((t.size : Int) == 0) = true := by rw [h0]; rfl
    replace h0 := Hd.mk h0
    go_enter Tryz.func48, Tryz.ntmps48
    go_upto_region 6 with fail
    generalize w.alloc (.cells #[.pointer none] 52) = w1 at *
    have hE3 : (w1.setCell ⟨w.heap.size, 0, none⟩ (.pointer none)).cell? ⟨0, 0, none⟩ = some (errV E) := by
      rw [World.cell?_setCell_other]
      · exact hE1
      · intro e; have h9 := congrArg Addr.block e; dsimp only at h9; omega
    go_region
    all_goals
      go_wp2_with fail
      refine bodyPost_ret (v := .tuple #[.agg #[.pointer none], errV E]) (by simp [results, Tryz.results48, go_sem, c0, z0, sz1]) rfl ⟨_, rfl, ?_⟩
      (repeat first | with_reducible exact hb1.out | with_reducible exact below_drew' hb1.out | refine Below.setCell ?_ (by dsimp only; omega) _ | refine below_drew' ?_ | refine Below.alloc ?_ (by first | exact (hb1.out).size | (simp only [World.size_drew, World.size_setCell]; exact (hb1.out).size)) _)
  · simp only [if_true] at hun
    obtain ⟨hs0, h45, rfl⟩ := hun
    have hix := ch_eq (s := s) (k := 0) hs0
    rw [h45] at hix
    have hss : 1 ≤ s.size := hs0
    have hsm : s.size - 1 = 0 := by rw [ext_size _ _ _ (Nat.le_refl _)] at h0; exact h0
    have dz : (((s.size - 1 : Nat) : Int) == 0) = true := by rw [hsm]; rfl
    have dz2 : (((s.extract 1 s.size).size : Int) == 0) = true := by rw [h0]; rfl
    replace h0 := Hd.mk h0
    replace hsm := Hd.mk hsm
    go_enter Tryz.func48, Tryz.ntmps48
    go_upto_region 6 with fail
    generalize w.alloc (.cells #[.pointer none] 52) = w1 at *
    have hE3 : (w1.setCell ⟨w.heap.size, 0, none⟩ (.pointer none)).cell? ⟨0, 0, none⟩ = some (errV E) := by
      rw [World.cell?_setCell_other]
      · exact hE1
      · intro e; have h9 := congrArg Addr.block e; dsimp only at h9; omega
    go_region
    all_goals
      go_wp2_with fail
      refine bodyPost_ret (v := .tuple #[.agg #[.pointer none], errV E]) (by simp [results, Tryz.results48, go_sem, c0, z0, sz1]) rfl ⟨_, rfl, ?_⟩
      (repeat first | with_reducible exact hb1.out | with_reducible exact below_drew' hb1.out | refine Below.setCell ?_ (by dsimp only; omega) _ | refine below_drew' ?_ | refine Below.alloc ?_ (by first | exact (hb1.out).size | (simp only [World.size_drew, World.size_setCell]; exact (hb1.out).size)) _)
set_option maxHeartbeats 4000000 in
theorem FromStr_noF (s t : ByteArray) (neg : Bool) (w : World) (hok : Ok w) (her : Er w) (hs : s.size < 120) (hun : unm s = (neg, t)) (h0 : t.size ≠ 0) (A F : ByteArray) (hsp : Spl t [A, F]) (hF : F.size = 0) :
    Calls Tryz.prog 48 #[.string s] w fun e w' => FErr w e w' := by
  have hts : t.size ≤ s.size := by have := unm_size s; rw [hun] at this; exact this
  have hun := unm_cases s hun
  obtain ⟨E, hE⟩ := her.e2
  have hb1 : Below w.heap.size w (w.alloc (.cells #[.pointer none] 52)) := (Below.refl _ _).alloc (Nat.le_refl _) _
  have hE1 := cb hb1 hE
  have hG := hok.2
  have hok1 := hok.below hb1
  have her1 := her.below hb1
  have hbk := Blk.new w #[.pointer none] 52
  have c0 := hbk.cell 0
  have z0 := hbk.frozen 0
  simp only [List.getElem?_cons_zero] at c0
  have sz1 : w.heap.size < (w.alloc (.cells #[.pointer none] 52)).heap.size := by rw [World.size_alloc]; omega
  replace hb1 := Hd.mk hb1
  replace hok1 := Hd.mk hok1
  replace her1 := Hd.mk her1
  replace hbk := Hd.mk hbk
  clear hok her
  have hsl := Hd.mk fun w1 => zzSplit_any t _ w1 (by omega) hsp
  have htz : (((t.size : Nat) : Int) == 0) = false := beq_false_of_ne (by omega)
  replace hsp := Hd.mk hsp
  go_enter Tryz.func48, Tryz.ntmps48
  go_upto_if 20 with fail
  generalize w.alloc (.cells #[.pointer none] 52) = w1 at *
  go_cut [0, 4] (fun t0 t4 wx => t0 = .string t ∧ t4 = .bool neg ∧ wx = w1)
  case first =>
    cases neg
    · simp only [Bool.false_eq_true, if_false] at hun
      obtain ⟨hn, rfl⟩ := hun
      have hs0 : 0 < t.size := by omega
      have hix := ch_eq (s := t) (k := 0) hs0
      have h45 : ((ch t 0 : Int) == 45) = false := by
        have : ch t 0 ≠ 45 := fun h => hn ⟨hs0, h⟩
        simp; omega
      generalize ch t 0 = cc at *
      go_wp2_with fail
      go_meet
      exact ⟨rfl, rfl, rfl⟩
    · simp only [if_true] at hun
      obtain ⟨hs0, h45, rfl⟩ := hun
      have hix := ch_eq (s := s) (k := 0) hs0
      rw [h45] at hix
      have hss : 1 ≤ s.size := hs0
      go_wp2_with fail
      go_meet
      exact ⟨rfl, rfl, rfl⟩
  case rest =>
  obtain ⟨rfl, rfl, rfl⟩ := hcut
  clear hun
  go_upto_region 13 with (go_at_call 98; refine (hsl.out _).mono ?_; rintro e w2 ⟨v2, rfl, how⟩; have hbel2 := Hd.mk (hb1.out.trans (how.bel.mono hb1.out.size)); have hok2 := Hd.mk (hok1.out.below how.bel); have her2 := Hd.mk (her1.out.below how.bel); have e0 := cb how.bel c0; have y0 := fb how.bel c0 z0; have s2 := Nat.lt_of_lt_of_le sz1 how.bel.size; obtain ⟨g, cap, rfl, hcap, hcell⟩ := how.open (by simp); have k0 := hcell 0 _ rfl; have k1 := hcell 1 _ rfl; simp only [List.length_cons, List.length_nil] at hcap; clear how hcell)
  have hE2 := cb hbel2.out hE
  have hE3 : (w2.setCell ⟨w.heap.size, 0, none⟩ (.pointer none)).cell? ⟨1, 0, none⟩ = some (errV E) := by
    rw [World.cell?_setCell_other]
    · exact hE2
    · intro e; have h9 := congrArg Addr.block e; dsimp only at h9; omega
  go_region
  all_goals
    go_wp2_with fail
    refine bodyPost_ret (v := .tuple #[.agg #[.pointer none], errV E]) (by simp [results, Tryz.results48, go_sem, e0, y0, s2]) rfl ⟨_, rfl, ?_⟩
    (repeat first | with_reducible exact hbel2.out | with_reducible exact below_drew' hbel2.out | refine Below.setCell ?_ (by dsimp only; omega) _ | refine below_drew' ?_ | refine Below.alloc ?_ (by first | exact (hbel2.out).size | (simp only [World.size_drew, World.size_setCell]; exact (hbel2.out).size)) _)
set_option maxHeartbeats 4000000 in
theorem FromStr_noA (s t : ByteArray) (neg : Bool) (w : World) (hok : Ok w) (her : Er w) (hs : s.size < 120) (hun : unm s = (neg, t)) (h0 : t.size ≠ 0) (A F : ByteArray) (hsp : Spl t [A, F]) (hF : F.size ≠ 0) (hA : A.size = 0) :
    Calls Tryz.prog 48 #[.string s] w fun e w' => FErr w e w' := by
  have hts : t.size ≤ s.size := by have := unm_size s; rw [hun] at this; exact this
  have hun := unm_cases s hun
  obtain ⟨E, hE⟩ := her.e2
  have hb1 : Below w.heap.size w (w.alloc (.cells #[.pointer none] 52)) := (Below.refl _ _).alloc (Nat.le_refl _) _
  have hE1 := cb hb1 hE
  have hG := hok.2
  have hok1 := hok.below hb1
  have her1 := her.below hb1
  have hbk := Blk.new w #[.pointer none] 52
  have c0 := hbk.cell 0
  have z0 := hbk.frozen 0
  simp only [List.getElem?_cons_zero] at c0
  have sz1 : w.heap.size < (w.alloc (.cells #[.pointer none] 52)).heap.size := by rw [World.size_alloc]; omega
  replace hb1 := Hd.mk hb1
  replace hok1 := Hd.mk hok1
  replace her1 := Hd.mk her1
  replace hbk := Hd.mk hbk
  clear hok her
  have hsl := Hd.mk fun w1 => zzSplit_any t _ w1 (by omega) hsp
  have htz : (((t.size : Nat) : Int) == 0) = false := beq_false_of_ne (by omega)
  replace hsp := Hd.mk hsp
  go_enter Tryz.func48, Tryz.ntmps48
  go_upto_if 20 with fail
  generalize w.alloc (.cells #[.pointer none] 52) = w1 at *
  go_cut [0, 4] (fun t0 t4 wx => t0 = .string t ∧ t4 = .bool neg ∧ wx = w1)
  case first =>
    cases neg
    · simp only [Bool.false_eq_true, if_false] at hun
      obtain ⟨hn, rfl⟩ := hun
      have hs0 : 0 < t.size := by omega
      have hix := ch_eq (s := t) (k := 0) hs0
      have h45 : ((ch t 0 : Int) == 45) = false := by
        have : ch t 0 ≠ 45 := fun h => hn ⟨hs0, h⟩
        simp; omega
      generalize ch t 0 = cc at *
      go_wp2_with fail
      go_meet
      exact ⟨rfl, rfl, rfl⟩
    · simp only [if_true] at hun
      obtain ⟨hs0, h45, rfl⟩ := hun
      have hix := ch_eq (s := s) (k := 0) hs0
      rw [h45] at hix
      have hss : 1 ≤ s.size := hs0
      go_wp2_with fail
      go_meet
      exact ⟨rfl, rfl, rfl⟩
  case rest =>
  obtain ⟨rfl, rfl, rfl⟩ := hcut
  clear hun
  go_upto_region 13 with (go_at_call 98; refine (hsl.out _).mono ?_; rintro e w2 ⟨v2, rfl, how⟩; have hbel2 := Hd.mk (hb1.out.trans (how.bel.mono hb1.out.size)); have hok2 := Hd.mk (hok1.out.below how.bel); have her2 := Hd.mk (her1.out.below how.bel); have e0 := cb how.bel c0; have y0 := fb how.bel c0 z0; have s2 := Nat.lt_of_lt_of_le sz1 how.bel.size; obtain ⟨g, cap, rfl, hcap, hcell⟩ := how.open (by simp); have k0 := hcell 0 _ rfl; have k1 := hcell 1 _ rfl; simp only [List.length_cons, List.length_nil] at hcap; clear how hcell)
  have hE2 := cb hbel2.out hE
  have hE3 : (w2.setCell ⟨w.heap.size, 0, none⟩ (.pointer none)).cell? ⟨1, 0, none⟩ = some (errV E) := by
    rw [World.cell?_setCell_other]
    · exact hE2
    · intro e; have h9 := congrArg Addr.block e; dsimp only at h9; omega
  go_region
  all_goals
    go_wp2_with fail
    refine bodyPost_ret (v := .tuple #[.agg #[.pointer none], errV E]) (by simp [results, Tryz.results48, go_sem, e0, y0, s2]) rfl ⟨_, rfl, ?_⟩
    (repeat first | with_reducible exact hbel2.out | with_reducible exact below_drew' hbel2.out | refine Below.setCell ?_ (by dsimp only; omega) _ | refine below_drew' ?_ | refine Below.alloc ?_ (by first | exact (hbel2.out).size | (simp only [World.size_drew, World.size_setCell]; exact (hbel2.out).size)) _)
set_option maxHeartbeats 4000000 in
theorem FromStr_many (s t : ByteArray) (neg : Bool) (w : World) (hok : Ok w) (her : Er w) (hs : s.size < 120) (hun : unm s = (neg, t)) (h0 : t.size ≠ 0) (l : List ByteArray) (hsp : Spl t l) (h3 : 2 < l.length) (h9 : l.length < 200) :
    Calls Tryz.prog 48 #[.string s] w fun e w' => FErr w e w' := by
  have hts : t.size ≤ s.size := by have := unm_size s; rw [hun] at this; exact this
  have hun := unm_cases s hun
  obtain ⟨E, hE⟩ := her.e3
  have hb1 : Below w.heap.size w (w.alloc (.cells #[.pointer none] 52)) := (Below.refl _ _).alloc (Nat.le_refl _) _
  have hE1 := cb hb1 hE
  have hG := hok.2
  have hok1 := hok.below hb1
  have her1 := her.below hb1
  have hbk := Blk.new w #[.pointer none] 52
  have c0 := hbk.cell 0
  have z0 := hbk.frozen 0
  simp only [List.getElem?_cons_zero] at c0
  have sz1 : w.heap.size < (w.alloc (.cells #[.pointer none] 52)).heap.size := by rw [World.size_alloc]; omega
  replace hb1 := Hd.mk hb1
  replace hok1 := Hd.mk hok1
  replace her1 := Hd.mk her1
  replace hbk := Hd.mk hbk
  clear hok her
  have hsl := Hd.mk fun w1 => zzSplit_any t _ w1 (by omega) hsp
  have htz : (((t.size : Nat) : Int) == 0) = false := beq_false_of_ne (by omega)
  replace hsp := Hd.mk hsp
  have hl0 : l[0]? = some (l[0]'(by omega)) := List.getElem?_eq_getElem (by omega)
  generalize l[0]'(by omega) = A at hl0
  have dn : ((l.length : Int) == 2) = false := by simp; omega
  have dg : decide (2 < (l.length : Int)) = true := decide_eq_true (by omega)
  replace hl0 := Hd.mk hl0
  go_enter Tryz.func48, Tryz.ntmps48
  go_upto_if 20 with fail
  generalize w.alloc (.cells #[.pointer none] 52) = w1 at *
  go_cut [0, 4] (fun t0 t4 wx => t0 = .string t ∧ t4 = .bool neg ∧ wx = w1)
  case first =>
    cases neg
    · simp only [Bool.false_eq_true, if_false] at hun
      obtain ⟨hn, rfl⟩ := hun
      have hs0 : 0 < t.size := by omega
      have hix := ch_eq (s := t) (k := 0) hs0
      have h45 : ((ch t 0 : Int) == 45) = false := by
        have : ch t 0 ≠ 45 := fun h => hn ⟨hs0, h⟩
        simp; omega
      generalize ch t 0 = cc at *
      go_wp2_with fail
      go_meet
      exact ⟨rfl, rfl, rfl⟩
    · simp only [if_true] at hun
      obtain ⟨hs0, h45, rfl⟩ := hun
      have hix := ch_eq (s := s) (k := 0) hs0
      rw [h45] at hix
      have hss : 1 ≤ s.size := hs0
      go_wp2_with fail
      go_meet
      exact ⟨rfl, rfl, rfl⟩
  case rest =>
  obtain ⟨rfl, rfl, rfl⟩ := hcut
  clear hun
  go_upto_region 16 with (go_at_call 98; refine (hsl.out _).mono ?_; rintro e w2 ⟨v2, rfl, how⟩; have hbel2 := Hd.mk (hb1.out.trans (how.bel.mono hb1.out.size)); have hok2 := Hd.mk (hok1.out.below how.bel); have her2 := Hd.mk (her1.out.below how.bel); have e0 := cb how.bel c0; have y0 := fb how.bel c0 z0; have s2 := Nat.lt_of_lt_of_le sz1 how.bel.size; obtain ⟨g, cap, rfl, hcap, hcell⟩ := how.open (by intro h; rw [h] at h3; simp at h3); have k0 := hcell 0 _ hl0.out; clear how hcell)
  have hE2 := cb hbel2.out hE
  have hE3 : (w2.setCell ⟨w.heap.size, 0, none⟩ (.pointer none)).cell? ⟨2, 0, none⟩ = some (errV E) := by
    rw [World.cell?_setCell_other]
    · exact hE2
    · intro e; have h9 := congrArg Addr.block e; dsimp only at h9; omega
  go_region
  all_goals
    go_wp2_with fail
    refine bodyPost_ret (v := .tuple #[.agg #[.pointer none], errV E]) (by simp [results, Tryz.results48, go_sem, e0, y0, s2]) rfl ⟨_, rfl, ?_⟩
    (repeat first | with_reducible exact hbel2.out | with_reducible exact below_drew' hbel2.out | refine Below.setCell ?_ (by dsimp only; omega) _ | refine below_drew' ?_ | refine Below.alloc ?_ (by first | exact (hbel2.out).size | (simp only [World.size_drew, World.size_setCell]; exact (hbel2.out).size)) _)
set_option maxHeartbeats 4000000 in
theorem FromStr_long (s t : ByteArray) (neg : Bool) (w : World) (hok : Ok w) (her : Er w) (hs : s.size < 120) (hun : unm s = (neg, t)) (h0 : t.size ≠ 0) (A F : ByteArray) (hsp : Spl t [A, F]) (hA : A.size ≠ 0) (hF : 18 < F.size) :
    Calls Tryz.prog 48 #[.string s] w fun e w' => FErr w e w' := by
  have hts : t.size ≤ s.size := by have := unm_size s; rw [hun] at this; exact this
  have hun := unm_cases s hun
  have hb1 : Below w.heap.size w (w.alloc (.cells #[.pointer none] 52)) := (Below.refl _ _).alloc (Nat.le_refl _) _
  have hG := hok.2
  have hok1 := hok.below hb1
  have her1 := her.below hb1
  have hbk := Blk.new w #[.pointer none] 52
  have c0 := hbk.cell 0
  have z0 := hbk.frozen 0
  simp only [List.getElem?_cons_zero] at c0
  have sz1 : w.heap.size < (w.alloc (.cells #[.pointer none] 52)).heap.size := by rw [World.size_alloc]; omega
  replace hb1 := Hd.mk hb1
  replace hok1 := Hd.mk hok1
  replace her1 := Hd.mk her1
  replace hbk := Hd.mk hbk
  clear hok her
  have hsl := Hd.mk fun w1 => zzSplit_any t _ w1 (by omega) hsp
  have htz : (((t.size : Nat) : Int) == 0) = false := beq_false_of_ne (by omega)
  replace hsp := Hd.mk hsp
  have hAF := spl_two hsp.out
  have hn := Hd.mk fun s w1 => errNew_any s w1
  have zA : (((A.size : Nat) : Int) == 0) = false := beq_false_of_ne (by omega)
  have zF : (((F.size : Nat) : Int) == 0) = false := beq_false_of_ne (by omega)
  have gF : decide (18 < ((F.size : Nat) : Int)) = true := decide_eq_true (by omega)
  have hov : ¬ (9223372036854775807 < A.size + F.size) := by omega
  go_enter Tryz.func48, Tryz.ntmps48
  go_upto_if 20 with fail
  generalize w.alloc (.cells #[.pointer none] 52) = w1 at *
  go_cut [0, 4] (fun t0 t4 wx => t0 = .string t ∧ t4 = .bool neg ∧ wx = w1)
  case first =>
    cases neg
    · simp only [Bool.false_eq_true, if_false] at hun
      obtain ⟨hn, rfl⟩ := hun
      have hs0 : 0 < t.size := by omega
      have hix := ch_eq (s := t) (k := 0) hs0
      have h45 : ((ch t 0 : Int) == 45) = false := by
        have : ch t 0 ≠ 45 := fun h => hn ⟨hs0, h⟩
        simp; omega
      generalize ch t 0 = cc at *
      go_wp2_with fail
      go_meet
      exact ⟨rfl, rfl, rfl⟩
    · simp only [if_true] at hun
      obtain ⟨hs0, h45, rfl⟩ := hun
      have hix := ch_eq (s := s) (k := 0) hs0
      rw [h45] at hix
      have hss : 1 ≤ s.size := hs0
      go_wp2_with fail
      go_meet
      exact ⟨rfl, rfl, rfl⟩
  case rest =>
  obtain ⟨rfl, rfl, rfl⟩ := hcut
  clear hun
  go_wp2_with (first
    | (go_at_call 98; refine (hsl.out _).mono ?_; rintro e w2 ⟨v2, rfl, how⟩; have hbel2 := Hd.mk (hb1.out.trans (how.bel.mono hb1.out.size)); have hok2 := Hd.mk (hok1.out.below how.bel); have her2 := Hd.mk (her1.out.below how.bel); have e0 := cb how.bel c0; have y0 := fb how.bel c0 z0; have s2 := Nat.lt_of_lt_of_le sz1 how.bel.size; obtain ⟨g, cap, rfl, hcap, hcell⟩ := how.open (by simp); have k0 := hcell 0 _ rfl; have k1 := hcell 1 _ rfl; simp only [List.length_cons, List.length_nil] at hcap; clear how hcell)
    | (go_at_call 99; refine (hn.out _ _).mono ?_; rintro e w3 ⟨rfl, rfl⟩))
  refine bodyPost_ret (v := .tuple #[.agg #[.pointer none], errV ⟨w2.heap.size, 0, none⟩]) (by simp [results, Tryz.results48, go_sem, e0, y0, s2]) rfl ⟨_, rfl, ?_⟩
  (repeat first | with_reducible exact hbel2.out | with_reducible exact below_drew' hbel2.out | refine Below.setCell ?_ (by dsimp only; omega) _ | refine below_drew' ?_ | refine Below.alloc ?_ (by first | exact (hbel2.out).size | (simp only [World.size_drew, World.size_setCell]; exact (hbel2.out).size)) _)
end Go.Proofs.YtmamfidjigmahaaGreatDoor
end
