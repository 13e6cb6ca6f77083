/- The thin package: a text read as a whole number, at the text of minus seven; the statements' first questions. The reference: numbers of at most 256 bits; the decimal of a number. Whole numbers as decimals: the plain laws. No program in sight. The decimal of a number; sums, differences and products by the reference. What a row's listed variables give: the parts that every row shares. What a row's listed variables give; a world that meets them. A byte that came in. Conditions: those that each theorem states. -/
import Derived.Test.YtdbjdpooggaonaaGreatDoorJoin01
import Derived.Test.YtdbjdpooggaonaaGreatDoorJoin02
import Derived.Test.YtdbjdpooggaonaaGreatDoorBase30
import Derived.Test.YtdbjdpooggaonaaGreatDoorBase25
import Derived.Test.YtdbjdpooggaonaaGreatDoorBase28
import Derived.Test.YtdbjdpooggaonaaGreatDoorBase21
import Derived.Test.YtdbjdpooggaonaaGreatDoorBase29
import Derived.Test.YtdbjdpooggaonaaGreatDoorCards
import Derived.Test.YtdbjdpooggaonaaGreatDoorTie
import Derived.WalkKit
import Derived.ProofKit
import Derived.OpenShut
import Derived.Deep.DeepHandedRow
import Derived.Lib.LaidTab
import Derived.LaidLaws
import Derived.ChangeMaps5
import Derived.Test.YtdbjdpooggaonaaGreatDoorBase22
set_option linter.all false

section
namespace Go.Proofs.YtdbjdpooggaonaaGreatDoor
open Go.RowKit
set_option maxRecDepth 100000
theorem z7n : zT (-7) = m7 := (zT_litn (l := [55]) (by decide) (by decide) (by decide) (by decide)).trans rfl
theorem z5 : zT 5 = ByteArray.mk #[53] := (zT_lit (l := [53]) (by decide) (by decide) (by decide)).trans rfl
theorem z3E : zT 3000000000000000000 = ByteArray.mk #[51, 48, 48, 48, 48, 48, 48, 48, 48, 48, 48, 48, 48, 48, 48, 48, 48, 48, 48] := (zT_lit (l := [51, 48, 48, 48, 48, 48, 48, 48, 48, 48, 48, 48, 48, 48, 48, 48, 48, 48, 48]) (by decide) (by decide) (by decide)).trans rfl
set_option maxHeartbeats 2000000 in
theorem NIFS_7 (w : World) (hok : Ok w) (her : Er w) :
    Calls Tryz.prog 195 #[.string m7] w fun e w' => ∃ B, e = .returned (.tuple #[.agg #[ptr B], .bool true]) ∧ NewI w w' B (-7) := by
  have r0 := Hd.mk hok.run
  have hb1 : Below w.heap.size w (w.alloc (.cells #[.pointer none] 65)) := (Below.refl _ _).alloc (Nat.le_refl _) _
  have her1 := Hd.mk (her.below hb1)
  clear hb1
  have r1 := Hd.mk (r0.out.box #[.pointer none] 65)
  clear r0
  have hn := Hd.mk fun w1 h1 h2 => newIFS_7 w1 h1 h2
  have hov := Hd.mk fun (Q : Nat → Prop) B S1 w1 (h : Ints Q w1 S1) (h1 : S1 B = some (-7)) => overflows_no Q B (-7) S1 w1 h h1 (by decide)
  generalize m7 = s at *
  go_enter Tryz.func195, Tryz.ntmps195
  go_wp2_with (first
    | (go_at_call 226; refine (hn.out _ r1.out.ok her1.out).mono ?_; rintro e w2 ⟨B2, rfl, hn2⟩; have r2 := Hd.mk (r1.out.new_int hn2); have g2 := hn2.ge; (try simp only [World.size_alloc] at g2); clear hn2; obtain ⟨c2, c2z, c2l⟩ := r2.out.cell (b := w.heap.size) updX_same)
    | (go_at_call 196; refine (hov.out _ B2 _ _ r2.out.ints upd_same).mono ?_; rintro e w3 ⟨rfl, rfl⟩))
  have r3 := r2.out.set1 (b := w.heap.size) (v := .pointer none) (v' := ptr B2) updX_same
  refine bodyPost_ret (v := .tuple #[.agg #[ptr B2], .bool true]) (by simp [results, Tryz.results195, go_sem, c2, c2z, c2l]) rfl ⟨_, rfl, r3.newI upd_same⟩
set_option maxHeartbeats 2000000 in
theorem IntReadC_7 (bs bu bk : Nat) (w : World) (hok : Ok w) (her : Er w) (hb : Blk w bs 9 [.string m7]) (hu : Blk w bu 9 [.string (ByteArray.mk #[])]) (hk : Blk w bk 4 [.bool false])
    (hd : bs ≠ bu ∧ bs ≠ bk ∧ bu ≠ bk) (hb1 : 16 ≤ bu) (hk1 : 16 ≤ bk) :
    Calls Tryz.prog 194 #[ptr bs, ptr bu, ptr bk] w fun e w' => e = .returned (.tuple #[]) ∧ C2 w w' bu bk ∧ Blk w' bu 9 [.string m7] ∧ Blk w' bk 4 [.bool true] := by
  have r0 := Hd.mk (Run.start2 hok hu hk hb1 hk1 hd.2.2)
  have hPs := Hd.mk (p := But2 w bu bk bs) ⟨hb.lt, hd.1, hd.2.1⟩
  have cs := hb.cell 0
  simp only [List.getElem?_cons_zero] at cs
  have lu := hu.lt
  have lk := hk.lt
  have hpz := Hd.mk fun (Q : Nat → Prop) B S1 w1 (h : Ints Q w1 S1) (h1 : S1 B = some (-7)) => cIntString_any Q B (-7) S1 w1 h h1 (by rw [show (-7 : Int).natAbs = 7 from rfl, wl7]; decide)
  have hf0 := Hd.mk (NIFS_7 w hok her)
  have hnn := niln_nil
  have hbk := Hd.mk hd.2.2
  clear hok her
  rw [z7n] at hpz
  generalize m7 = sz at *
  replace hb := Hd.mk hb
  replace hu := Hd.mk hu
  replace hk := Hd.mk hk
  go_enter Tryz.func194, Tryz.ntmps194
  go_upto_region 1 with (go_at_call 195; refine hf0.out.mono ?_; rintro e w2 ⟨B2, rfl, hn2⟩; have r2 := Hd.mk (r0.out.new_int hn2); have g2 := hn2.bel.size; clear hn2)
  have r3 := Hd.mk (r2.out.box #[ptr B2] 65)
  have hmp := Hd.mk (hpz.out _ B2 _ _ r3.out.ints upd_same)
  go_wp2_with (go_at_call 60; refine hmp.out.mono ?_; rintro e w4 ⟨rfl, hk4, hI4⟩; have r4 := Hd.mk (r3.out.op hk4 hI4); clear hk4 hI4; obtain ⟨u4, u4z, u4l⟩ := r4.out.cell (b := bu) (by rw [updX_ne (by omega), updX_ne hbk.out, updX_same]); obtain ⟨k4, k4z, k4l⟩ := r4.out.cell (b := bk) (by rw [updX_ne (by omega), updX_same]))
  have r5 := Hd.mk (r4.out.set1 (b := bu) (v' := .string sz) (by rw [updX_ne (by omega), updX_ne hbk.out, updX_same]))
  have r6 := Hd.mk (r5.out.set1 (b := bk) (v' := .bool true) (by rw [updX_ne (fun e => hbk.out e.symm), updX_ne (by omega), updX_same]))
  have hU := Hd.mk (r6.out.bx bu _ _ (by rw [updX_ne hbk.out, updX_same]))
  have hK := Hd.mk (r6.out.bx bk _ _ updX_same)
  have hkk := Hd.mk r6.out.keep
  go_end0
  exact ⟨rfl, ⟨hkk.out.os, hkk.out.tape, hkk.out.output, hkk.out.size, fun k h1 h2 h3 => hkk.out.block k ⟨h1, h2, h3⟩ h1⟩, hU.out, hK.out⟩
set_option maxHeartbeats 2000000 in
theorem IntRead_7 (w : World) (hok : Ok w) (her : Er w) :
    Calls Tryz.prog 125 #[.string m7] w fun e w' => e = .returned (.tuple #[.string m7, .bool true]) ∧ Below w.heap.size w w' := by
  obtain ⟨h1, h2, h3⟩ := paW_blk w m7
  have hb1 := paW_below w m7
  have hs1 : (paW w m7).heap.size = w.heap.size + 3 := by simp only [World.size_alloc]
  have h100 := hok.2
  generalize hW : paW w m7 = w1 at *
  have hb2 : Below w1.heap.size w1 (okW w1) := (Below.refl _ _).alloc (Nat.le_refl _) _
  have hb3 := hb1.trans (hb2.mono hb1.size)
  have hs2 : (okW w1).heap.size = w1.heap.size + 1 := World.size_alloc _ _
  have hc := IntReadC_7 w.heap.size (w.heap.size + 1) (w.heap.size + 2) (okW w1) (hok.below hb3) (her.below hb3) (h1.alloc _) (h2.alloc _) (h3.alloc _) (by omega) (by omega) (by omega)
  generalize m7 = sz at *
  have hsf := Hd.mk (safe_ok 194 _ w1 (fun w2 => C2 (okW w1) w2 (w.heap.size + 1) (w.heap.size + 2) ∧ Blk w2 (w.heap.size + 1) 9 [.string sz] ∧ Blk w2 (w.heap.size + 2) 4 [.bool true]) (enters Tryz.func194 (by kernel_rfl) (by kernel_rfl)) (hc.mono fun e w2 ⟨q2, q1, q3, q4⟩ => ⟨q2, q1.block _ (by omega) (by omega) (by omega), q1, q3, q4⟩))
  have hfin : Hd (∀ w2 w3, C2 (okW w1) w2 (w.heap.size + 1) (w.heap.size + 2) → Put w2 w3 w1.heap.size 4 [.bool true] → Below w.heap.size w w3) := ⟨fun w2 w3 q1 q2 => q2.bel (q1.below hb3 (by omega) (by omega)) hb1.size⟩
  have hmf : ∀ (fn : Fn) (first cap : Array Value) (w : World), (Instr.makeFunc fn first cap).run Tryz.prog w = .ok (.func fn first cap) w := fun _ _ _ _ => rfl
  have hne : w.heap.size + 1 ≠ w1.heap.size ∧ w.heap.size + 2 ≠ w1.heap.size := by omega
  clear hc h1 h2 h3 hb1 hb2 hb3 hok her
  go_enter Tryz.func125, Tryz.ntmps125
  go_wp2_with fail
  refine hsf.out.mono ?_
  rintro e w3 ⟨rfl, w2, ⟨hc2, hu2, hk2⟩, hp3⟩
  have hb3 := Hd.mk (hfin.out w2 w3 hc2 hp3)
  have hu3 := hp3.blk hu2 hne.1
  have hk3 := hp3.blk hk2 hne.2
  have cu : w3.cell? ⟨w.heap.size + 1, 0, none⟩ = some (.string sz) := hu3.cell 0
  have ck : w3.cell? ⟨w.heap.size + 1 + 1, 0, none⟩ = some (.bool true) := hk3.cell 0
  have zu : w3.frozen? ⟨w.heap.size + 1, 0, none⟩ = false := hu3.frozen 0
  have zk : w3.frozen? ⟨w.heap.size + 1 + 1, 0, none⟩ = false := hk3.frozen 0
  have lu : w.heap.size + 1 < w3.heap.size := hu3.lt
  have lk : w.heap.size + 1 + 1 < w3.heap.size := hk3.lt
  clear hu3 hk3 hu2 hk2 hc2 hp3 hsf hfin
  go_wp2
  refine bodyPost_ret (v := .tuple #[.string sz, .bool true]) (by simp [results, Tryz.results125, go_sem, cu, ck, zu, zk, lu, lk]) rfl ⟨rfl, ?_⟩
  (repeat first | exact hb3.out | refine Below.setCell ?_ (by dsimp only; omega) _)
set_option maxHeartbeats 4000000 in
theorem intAwake_any (w : World) (hok : Ok w) (her : Er w) : Calls Tryz.prog 32 #[] w fun e w' => e = .returned (.bool true) ∧ Below w.heap.size w w' := by
  have ha := IntDo_ok 0 (by decide) 2 3 5 w hok her (by decide) (by decide) (by decide) rfl
  rw [z2, z3, z5] at ha
  have hp := Hd.mk fun w1 h1 h2 => IntRead_7 w1 h1 h2
  replace ha := Hd.mk ha
  go_enter Tryz.func32, Tryz.ntmps32
  go_wp2_with (first
    | (go_at_call 21; refine ha.out.mono ?_; rintro e w2 ⟨rfl, hb2⟩; have ho2 := hok.below hb2; have he2 := her.below hb2)
    | (go_at_call 125; refine (hp.out w2 ho2 he2).mono ?_; rintro e w3 ⟨rfl, hb3⟩; have hb23 := hb2.trans (hb3.mono hb2.size)))
  go_ret
  exact ⟨rfl, hb23⟩
set_option maxHeartbeats 4000000 in
theorem joinAwake_any (w : World) (hok : Ok w) (her : Er w) : Calls Tryz.prog 9 #[] w fun e w' => e = .returned (.bool true) ∧ Below w.heap.size w w' := by
  have ha := DecMake_ok 7 (by decide) 0 (by decide) 3 w hok her (by decide) (by decide)
  rw [show makV 7 0 3 = 3000000000000000000 from rfl, z3, z3E] at ha
  have hp := Hd.mk fun w1 h1 h2 => intAwake_any w1 h1 h2
  replace ha := Hd.mk ha
  go_enter Tryz.func9, Tryz.ntmps9
  go_wp2_with (first
    | (go_at_call 22; refine ha.out.mono ?_; rintro e w2 ⟨rfl, hb2⟩; have ho2 := hok.below hb2; have he2 := her.below hb2)
    | (go_at_call 32; refine (hp.out w2 ho2 he2).mono ?_; rintro e w3 ⟨rfl, hb3⟩; have hb23 := hb2.trans (hb3.mono hb2.size)))
  go_ret
  exact ⟨rfl, hb23⟩
end Go.Proofs.YtdbjdpooggaonaaGreatDoor
end

section
namespace Go.Proofs.YtdbjdpooggaonaaGreatDoor
open Go.RowKit
set_option maxRecDepth 100000
theorem cmp_abs (a M : Nat) : decide (cmpI (a : Int) (M : Int) < 0) = decide (a < M) := by
  unfold cmpI
  split
  · rw [decide_eq_true (by omega), decide_eq_true (by omega)]
  · split
    · rw [decide_eq_false (by omega), decide_eq_false (by omega)]
    · rw [decide_eq_false (by omega), decide_eq_false (by omega)]
set_option maxHeartbeats 2000000 in
theorem sfits_any (v : Value) (x : Int) (w : World) (hx : NumV w v x) (hl : T.wlen x.natAbs < 900) : Calls Tryz.prog 26 #[v] w fun e w' => e = .returned (.bool (decide (x.natAbs < 2 ^ 256))) ∧ Below w.heap.size w w' := by
  obtain ⟨A, cap, rfl, hd⟩ := hx.open
  have hab := Hd.mk fun w1 (hb : Below w.heap.size w w1) => nv (nabs_any _ x w1 (hx.below hb))
  have hmo := Hd.mk fun w1 => nv (two_any 256 w1 (by omega))
  have hcm := Hd.mk fun w1 v1 v2 (h1 : NumV w1 v1 (x.natAbs : Int)) (h2 : NumV w1 v2 (2 ^ 256)) => ncmpI_any v1 v2 _ _ w1 h1 h2 (by rw [Int.natAbs_natCast]; omega) (by have := pow2_wl (n := 256) (by omega); omega)
  have hle : decide (cmpI (x.natAbs : Int) (2 ^ 256) < 0) = decide (x.natAbs < 2 ^ 256) := by
    have hp : ((2 ^ 256 : Nat) : Int) = (2 : Int) ^ 256 := by rw [Int.natCast_pow]; rfl
    have h := cmp_abs x.natAbs (2 ^ 256)
    rw [hp] at h
    exact h
  rw [← hle]
  generalize cmpI (x.natAbs : Int) (2 ^ 256) = cm at *
  generalize (2 : Int) ^ 256 = MZ at *
  generalize decide (x < 0) = nb at *
  generalize T.wlen x.natAbs = m at *
  have hb0 : Below w.heap.size w (w.alloc (.cells #[.bool nb, .slice A m cap] 24)) := (Below.refl _ _).alloc (Nat.le_refl _) _
  replace hb0 := Hd.mk hb0
  replace hd := Hd.mk hd
  replace hx := Hd.mk hx
  replace hle := Hd.mk hle
  go_enter Tryz.func26, Tryz.ntmps26
  go_wp2_with (first | (go_at_call 28; refine (hab.out _ hb0.out).mono ?_; rintro e w2 ⟨b2, A2, m2, c2, rfl, hn2, hb2⟩; have hbb2 := Hd.mk (hb0.out.trans (hb2.mono hb0.out.size)); clear hb2; replace hn2 := Hd.mk hn2) | (go_at_call 16; refine (hmo.out _).mono ?_; rintro e w3 ⟨b3, A3, m3, c3, rfl, hn3, hb3⟩; have hbb3 := Hd.mk (hbb2.out.trans (hb3.mono hbb2.out.size)); replace hn2 := Hd.mk (hn2.out.below hb3); clear hb3; replace hn3 := Hd.mk hn3) | (go_at_call 15; refine (hcm.out _ _ _ hn2.out hn3.out).mono ?_; rintro e w4 ⟨rfl, hb4⟩; have hbb4 := Hd.mk (hbb3.out.trans (hb4.mono hbb3.out.size)); clear hb4))
  go_ret
  exact ⟨rfl, hbb4.out⟩
/-- What Int hands back. -/
def IntR (w : World) (s : ByteArray) (e : Ending) (w' : World) : Prop := ∃ b A n c ok, e = .returned (.tuple #[.agg #[.bool b, .slice A n c], .bool ok]) ∧ (ok = true → ∃ x : Int, s = zT x ∧ x.natAbs < 2 ^ 256 ∧ NumV w' (.agg #[.bool b, .slice A n c]) x) ∧ Below w.heap.size w w'
set_option maxHeartbeats 2000000 in
theorem sint_any (s : ByteArray) (w : World) (hs : s.size < 4294967296) :
    Calls Tryz.prog 8 #[.string s] w fun e w' => IntR w s e w' := by
  have hsl := Hd.mk (Slot.start w)
  have hb0 := Hd.mk ((Below.refl _ _).alloc (Nat.le_refl _) _ : Below w.heap.size w (w.alloc (.cells #[.bool false, .slice none 0 0] 24)))
  by_cases hl : s.size ≤ 90
  · have hrd := Hd.mk fun w1 => read_any s w1 (by omega)
    go_enter Tryz.func8, Tryz.ntmps8
    go_wp2_with (go_at_call 31; refine (hrd.out _).mono ?_; rintro e w2 ⟨v2, ok, rfl, ⟨b2, A2, m2, c2, hv2⟩, hok, hb⟩; subst hv2; have hsb := Hd.mk (hsl.out.below hb); obtain ⟨q1, q2, q3, q4, q5, q6⟩ := hsb.out; have hbb := Hd.mk (hb0.out.trans (hb.mono hb0.out.size)); clear hb; replace hok := Hd.mk hok)
    have hba : Below w2.heap.size w2 (w2.alloc (.cells #[.bool b2, .slice A2 m2 c2] 24)) := (Below.refl _ _).alloc (Nat.le_refl _) _
    have hbk := Blk.new w2 #[.bool b2, .slice A2 m2 c2] 24
    have hs3 := hsb.out.below hba
    have hb3 := hbb.out.trans (hba.mono hbb.out.size)
    have d0 := hbk.cell 0
    have d1 := hbk.cell 1
    simp only [List.getElem?_cons_succ, List.getElem?_cons_zero] at d0 d1
    obtain ⟨q1, q2, q3, q4, q5, q6⟩ := hs3
    replace hs3 := Hd.mk (hsb.out.below hba)
    replace hb3 := Hd.mk hb3
    replace hbk := Hd.mk hbk
    have hba2 := Hd.mk hba
    have hn3a := Hd.mk fun x (h : NumV w2 (.agg #[.bool b2, .slice A2 m2 c2]) x) => h.below hba
    clear hba
    have hw3 : Hd (w2.heap.size ≤ (w2.alloc (.cells #[.bool b2, .slice A2 m2 c2] 24)).heap.size) := ⟨hba2.out.size⟩
    have hKR : w.heap.size < w2.heap.size := hsb.out.lt
    generalize w2.alloc (.cells #[.bool b2, .slice A2 m2 c2] 24) = w3 at *
    generalize w2.heap.size = K2 at *
    cases ok
    · go_region
      all_goals
        have hfin := ret_num (u0 := .bool b2) (u1 := .slice A2 m2 c2) hb3.out (Nat.le_refl _) q3 q4 (num_zero w3)
        go_wp2
        refine bodyPost_ret (v := .tuple #[.agg #[.bool b2, .slice A2 m2 c2], .bool false]) (by simp [results, Tryz.results8, go_sem, q2, q3, q4, q5, q6]) rfl ?_
        unfold IntR
        first | exact ⟨_, _, _, _, false, rfl, (fun h => by cases h), ⟨hfin.2.os, hfin.2.tape, hfin.2.output, hfin.2.size, hfin.2.block⟩⟩
    · obtain ⟨x, hsx, hnx⟩ := hok.out rfl
      have hwi := Hd.mk (fun w5 (hb : NumV w5 (.agg #[.bool b2, .slice A2 m2 c2]) x) => sfits_any _ x w5 hb (by have := zT_wlen hsx hl; omega))
      have hn3 := Hd.mk (hn3a.out x hnx)
      replace hnx := Hd.mk hnx
      replace hsx := Hd.mk hsx
      generalize hdc : decide (x.natAbs < 2 ^ 256) = dc at hwi
      replace hdc := Hd.mk hdc
      go_region_law (go_simp; go_at_call 26; refine (hwi.out _ (hn3.out.below (below_drew _))).mono ?_; rintro e w5 ⟨rfl, hb5⟩; have hbu := below_undrew hb5; have j0 := cb hbu d0; have j1 := cb hbu d1; have hs5 := Hd.mk (hs3.out.below hbu); have hb6 := Hd.mk (hb3.out.trans (hbu.mono hb3.out.size)); obtain ⟨p1, p2, p3, p4, p5, p6⟩ := hs5.out; have hn5 := Hd.mk (hn3.out.below hbu); clear hbu hb5)
      all_goals
        have hfin := Hd.mk (ret_num (u0 := .bool b2) (u1 := .slice A2 m2 c2) hb6.out (Nat.le_refl _) p3 p4 hn5.out)
        go_wp2
        refine bodyPost_ret (v := .tuple #[.agg #[.bool b2, .slice A2 m2 c2], .bool dc]) (by simp [results, Tryz.results8, go_sem, p2, p3, p4, p5, p6]) rfl ?_
        have hB : ∀ wx, wx = ((w5.setCell ⟨w.heap.size, 0, none⟩ (.bool b2)).setCell ⟨w.heap.size, 1, none⟩ (.slice A2 m2 c2)).drew → Below w.heap.size w wx := fun wx e => by subst e; exact ⟨hfin.out.2.os, hfin.out.2.tape, hfin.out.2.output, hfin.out.2.size, hfin.out.2.block⟩
        unfold IntR
        first
          | exact ⟨_, _, _, _, dc, rfl, (fun h => ⟨x, hsx.out, of_decide_eq_true (hdc.out.trans h), hfin.out.1⟩), hfin.out.2⟩
          | exact ⟨_, _, _, _, dc, rfl, (fun h => ⟨x, hsx.out, of_decide_eq_true (hdc.out.trans h), hfin.out.1.below (below_drew _)⟩), hB _ rfl⟩
  · go_enter Tryz.func8, Tryz.ntmps8
    have hfin := Hd.mk (hsl.out.num (u0 := .bool false) (u1 := .slice none 0 0) hb0.out (num_zero _))
    obtain ⟨q1, q2, q3, q4, q5, q6⟩ := hsl.out
    go_wp2
    refine bodyPost_ret (v := .tuple #[.agg #[.bool false, .slice none 0 0], .bool false]) (by simp [results, Tryz.results8, go_sem, q2, q3, q4, q5, q6]) rfl ?_
    unfold IntR
    refine ⟨_, _, _, _, false, rfl, (fun h => by cases h), ?_⟩
    first | exact hfin.out.2 | exact hb0.out
theorem i256_wl {x : Int} (h : x.natAbs < 2 ^ 256) : T.wlen x.natAbs < 100 := Nat.lt_of_le_of_lt (T.wlen_le (n := 78) (Nat.lt_trans h (by unfold T.BB; decide))) (by decide)
end Go.Proofs.YtdbjdpooggaonaaGreatDoor
end

section
namespace Go.Proofs.YtdbjdpooggaonaaGreatDoor
open Go.RowKit
set_option maxRecDepth 100000
theorem chopP_whole (y : Int) : chopP (y * E18) = y := by
  unfold chopP
  rw [show y * E18 % E18 = 0 from Int.mul_emod_left y E18, show y * E18 / E18 = y from Int.mul_ediv_cancel y (by decide)]
  rfl
theorem chopR_whole (x : Int) : chopR (x * E18) = x := by
  unfold chopR
  split
  · rw [← Int.neg_mul, chopP_whole]; omega
  · rw [chopP_whole]
theorem chopU_whole (x : Int) : chopU (x * E18) = x := by
  unfold chopU
  split
  · rw [← Int.neg_mul, Int.mul_ediv_cancel _ (by decide)]; omega
  · rw [show x * E18 % E18 = 0 from Int.mul_emod_left x E18, show x * E18 / E18 = x from Int.mul_ediv_cancel x (by decide)]; rfl
theorem tdiv_whole (x : Int) : (x * E18).tdiv E18 = x := Int.mul_tdiv_cancel x (by decide)
theorem tmod_whole (x : Int) : (x * E18).tmod E18 = 0 := Int.mul_tmod_left x E18
theorem inR_whole {x : Int} (h : x.natAbs < 2 ^ 256) : inR (x * E18) = true := by
  have h2 : x.natAbs ≤ 115792089237316195423570985008687907853269984665640564039457584007913129639935 := Nat.le_of_lt_succ h
  rw [show x * E18 = x * 1000000000000000000 from rfl]
  refine decide_eq_true ⟨?_, ?_⟩ <;> · unfold lim; omega
theorem whole_wl {x : Int} (h : x.natAbs < 2 ^ 256) : wlen (x * E18).natAbs < 8 := inR_wl (inR_whole h)
theorem whole_mul (x y : Int) : x * E18 * (y * E18) = x * y * E18 * E18 := by
  generalize E18 = E
  ac_rfl
theorem rmul_whole {x y : Int} (h : (x * y).natAbs < 2 ^ 256) : rmul (x * E18) (y * E18) = some (x * y * E18) := by
  unfold rmul
  rw [whole_mul, chopR_whole, if_pos (inR_whole h)]
theorem whole_zero (x : Int) : decide (x * E18 = 0) = decide (x = 0) := by
  rw [show x * E18 = x * 1000000000000000000 from rfl, decide_eq_decide]; omega
theorem whole_neg (x : Int) : decide (x * E18 < 0) = decide (x < 0) := by
  rw [show x * E18 = x * 1000000000000000000 from rfl, decide_eq_decide]; omega
/-- A whole power of whole numbers, as decimals. -/
theorem pwS_whole (n : Nat) (hn : 1 ≤ n) (o a : Nat) (ho : 1 ≤ o) (ha : 1 ≤ a) (h : o * a ^ n < 2 ^ 256) : pwS n ((o : Int) * E18) ((a : Int) * E18) = some (((o * a ^ n : Nat) : Int) * E18) := by
  induction n using Nat.strongRecOn generalizing o a with
  | _ n ih =>
    by_cases h1 : n ≤ 1
    · obtain rfl : n = 1 := by omega
      rw [pwS_one h1, rmul_whole (by rw [← Int.natCast_mul, Int.natAbs_natCast, Nat.mul_comm]; simpa using h), Nat.pow_one, Nat.mul_comm o a, Int.natCast_mul]
    · have h2 : a ^ 2 ≤ a ^ n := Nat.pow_le_pow_right ha (by omega)
      have h3 : a ^ n ≤ o * a ^ n := Nat.le_mul_of_pos_left _ ho
      have h4 : a * a < 2 ^ 256 := by rw [Nat.pow_two] at h2; omega
      have h5 : o * a ≤ o * a ^ n := Nat.mul_le_mul_left o (by simpa using Nat.pow_le_pow_right (n := a) (i := 1) (j := n) ha (by omega))
      have ha2 : 1 ≤ a * a := Nat.mul_le_mul ha ha
      have e2 : rmul ((a : Int) * E18) ((a : Int) * E18) = some (((a * a : Nat) : Int) * E18) := by
        rw [rmul_whole (by rw [← Int.natCast_mul, Int.natAbs_natCast]; exact h4), Int.natCast_mul]
      have e1 : rmul ((o : Int) * E18) ((a : Int) * E18) = some (((o * a : Nat) : Int) * E18) := by
        rw [rmul_whole (by rw [← Int.natCast_mul, Int.natAbs_natCast]; omega), Int.natCast_mul]
      have hd := Nat.div_add_mod n 2
      have hsq : (a * a) ^ (n / 2) = a ^ (2 * (n / 2)) := by rw [Nat.pow_mul, Nat.pow_two]
      rw [pwS_step h1, e2]
      by_cases hodd : n % 2 = 1
      · have hp : o * a * (a * a) ^ (n / 2) = o * a ^ n := by
          rw [hsq, Nat.mul_assoc, ← Nat.pow_succ', show (2 * (n / 2)).succ = n by omega]
        rw [if_pos hodd, e1]
        simp only [Option.bind_some]
        rw [ih (n / 2) (by omega) (by omega) (o * a) (a * a) (Nat.mul_le_mul ho ha) ha2 (by rw [hp]; exact h), hp]
      · have hp : o * (a * a) ^ (n / 2) = o * a ^ n := by rw [hsq, show 2 * (n / 2) = n by omega]
        rw [if_neg hodd]
        simp only [Option.bind_some]
        rw [ih (n / 2) (by omega) (by omega) o (a * a) ho ha2 (by rw [hp]; exact h), hp]
theorem pwD_whole (n k : Nat) (hk : 1 ≤ k) (h : k ^ n < 2 ^ 256) : pwD n ((k : Int) * E18) = some (((k ^ n : Nat) : Int) * E18) := by
  unfold pwD
  by_cases h0 : n = 0
  · subst h0; rw [if_pos rfl, Nat.pow_zero]; rfl
  · rw [if_neg h0]
    have := pwS_whole n (by omega) 1 k (Nat.le_refl _) hk (by rw [Nat.one_mul]; exact h)
    rw [show ((1 : Nat) : Int) * E18 = 1000000000000000000 from rfl, Nat.one_mul] at this
    exact this
end Go.Proofs.YtdbjdpooggaonaaGreatDoor
end

section
namespace Go.Proofs.YtdbjdpooggaonaaGreatDoor
open Go.RowKit
set_option maxRecDepth 100000
theorem whole_tl {x : Int} (h : x.natAbs < 2 ^ 256) : T.wlen (x * E18).natAbs < 900 := by
  have h1 := inR_130 (inR_whole h)
  exact Nat.lt_of_le_of_lt (T.wlen_le (n := 130) h1) (by decide)
set_option maxHeartbeats 2000000 in
theorem decOf_any (v : Value) (x : Int) (w : World) (hx : NumV w v x) (hl : x.natAbs < 2 ^ 256) : Calls Tryz.prog 12 #[v] w fun e w' => e = .returned (.string (zT (x * E18))) ∧ Below w.heap.size w w' := by
  have hw := i256_wl hl
  obtain ⟨A, cap, rfl, hd⟩ := hx.open
  have hte := Hd.mk fun w1 => nv (ten_any 18 w1 (by omega))
  have hmu := Hd.mk fun w1 v1 v2 (h1 : NumV w1 v1 x) (h2 : NumV w1 v2 ((10 ^ 18 : Nat) : Int)) => nv (ntimes_any v1 v2 _ _ w1 h1 h2 (by omega) (by rw [Int.natAbs_natCast, T_wlen_pow]; omega))
  have htx := Hd.mk fun w1 v1 (h1 : NumV w1 v1 (x * ((10 ^ 18 : Nat) : Int))) => text_any v1 _ w1 h1 (whole_tl hl)
  rw [show x * ((10 ^ 18 : Nat) : Int) = x * E18 from rfl] at hmu htx
  generalize zT (x * E18) = s at *
  generalize x * E18 = z at *
  generalize T.wlen x.natAbs = m at *
  generalize decide (x < 0) = nb at *
  have r1 := Hd.mk ((SR.start w [(.agg #[.bool nb, .slice A m cap], x)] (fun p hp => by cases List.mem_singleton.1 hp; exact hx)).box2 (b0 := nb) (A := A) (m := m) (c := cap))
  have hC : Hd (updC (fun _ => none) w.heap.size [.bool nb, .slice A m cap] w.heap.size = some [.bool nb, .slice A m cap]) := ⟨updC_same⟩
  generalize updC (fun _ => none) w.heap.size [.bool nb, .slice A m cap] = C at *
  refine SR.cellK r1.out hC.out ?_
  intro f0 f1 fz fy fl
  replace hd := Hd.mk hd
  replace hx := Hd.mk hx
  replace hl := Hd.mk hl
  go_enter Tryz.func12, Tryz.ntmps12
  go_upto_region 1 with fail
  go_region_law (first
    | (go_simp; go_at_call 20; refine (hte.out _).mono ?_; rintro e w2 ⟨b2, A2, m2, c2, rfl, hn2, hb2⟩; have r2 := Hd.mk ((r1.out.drew.op hb2).add hn2); clear hb2 hn2; refine SR.cellK r2.out hC.out ?_; intro i0 i1 iz iy il)
    | (go_simp; go_at_call 29; refine (hmu.out _ _ _ r2.out.v1 r2.out.v0).mono ?_; rintro e w3 ⟨b3, A3, m3, c3, rfl, hn3, hb3⟩; have r3 := Hd.mk ((r2.out.op hb3).add hn3); clear hb3 hn3)
    | (go_simp; go_at_call 19; refine (htx.out _ _ r3.out.v0).mono ?_; rintro e w4 ⟨rfl, hb4⟩; have r4 := Hd.mk (r3.out.op hb4); clear hb4))
  all_goals
    go_wp2
    go_ret
    exact ⟨rfl, r4.out.bel⟩
set_option maxHeartbeats 2000000 in
theorem sdo_any (k : Nat) (hk : k < 2) (v u : Value) (x y z : Int) (w : World) (hx : NumV w v x) (hy : NumV w u y) (hlx : x.natAbs < 2 ^ 256) (hly : y.natAbs < 2 ^ 256) (hz : doZ k x y = z) :
    Calls Tryz.prog 25 #[.int .i64 (k : Int), v, u] w fun e w' => ∃ b A m c, e = .returned (.tuple #[.agg #[.bool b, .slice A m c], .bool true]) ∧ NumV w' (.agg #[.bool b, .slice A m c]) z ∧ Below w.heap.size w w' := by
  have hwx := i256_wl hlx
  have hwy := i256_wl hly
  have hop : Hd (∀ w1 v1 v2, NumV w1 v1 x → NumV w1 v2 y → Calls Tryz.prog (if k = 0 then 92 else 93) #[v1, v2] w1 fun e w' => ∃ b A m c, e = .returned (.agg #[.bool b, .slice A m c]) ∧ NumV w' (.agg #[.bool b, .slice A m c]) z ∧ Below w1.heap.size w1 w') := ⟨fun w1 v1 v2 h1 h2 => by
    subst hz
    unfold doZ
    match k, hk with
    | 0, _ => exact nv (nplus_any v1 v2 x y w1 h1 h2 (by omega) (by omega))
    | 1, _ => exact nv (ndiff_any v1 v2 x y w1 h1 h2 (by omega) (by omega))⟩
  obtain ⟨A, ca, rfl, hd⟩ := hx.open
  obtain ⟨B, cb', rfl, he⟩ := hy.open
  generalize T.wlen x.natAbs = m at *
  generalize decide (x < 0) = nb at *
  generalize T.wlen y.natAbs = n at *
  generalize decide (y < 0) = nc at *
  have r1 := Hd.mk (((((SR.start w [(.agg #[.bool nb, .slice A m ca], x), (.agg #[.bool nc, .slice B n cb'], y)] (fun p hp => by rcases List.mem_cons.1 hp with e | e; (· cases e; exact hx); cases List.mem_singleton.1 e; exact hy)).box2 (b0 := nb) (A := A) (m := m) (c := ca)).box2 (b0 := nc) (A := B) (m := n) (c := cb')).box2 (b0 := false) (A := none) (m := 0) (c := 0)))
  simp only [World.size_alloc] at r1
  have hC : Hd (updC (updC (updC (fun _ => none) w.heap.size [.bool nb, .slice A m ca]) (w.heap.size + 1) [.bool nc, .slice B n cb']) (w.heap.size + 1 + 1) [.bool false, .slice none 0 0] (w.heap.size + 1 + 1) = some [.bool false, .slice none 0 0]) := ⟨updC_same⟩
  generalize updC (updC (updC (fun _ => none) w.heap.size [.bool nb, .slice A m ca]) (w.heap.size + 1) [.bool nc, .slice B n cb']) (w.heap.size + 1 + 1) [.bool false, .slice none 0 0] = C at *
  replace hd := Hd.mk hd
  replace he := Hd.mk he
  replace hx := Hd.mk hx
  replace hy := Hd.mk hy
  replace hlx := Hd.mk hlx
  replace hly := Hd.mk hly
  replace hz := Hd.mk hz
  match k, hk with
  | 0, _ =>
    rw [if_pos rfl] at hop
    go_enter Tryz.func25, Tryz.ntmps25
    go_wp2_with (go_at_call 92; refine (hop.out _ _ _ r1.out.v0 r1.out.v1).mono ?_; rintro e w2 ⟨b2, A2, m2, c2, rfl, hn2, hb2⟩; have r2 := Hd.mk ((r1.out.op hb2).add hn2); clear hb2 hn2; refine SR.cellK r2.out hC.out ?_; intro i0 i1 iz iy il)
    have r3 := r2.out.set (b1 := b2) (A1 := A2) (m1 := m2) (c1 := c2) hC.out
    refine bodyPost_ret (v := .tuple #[.agg #[.bool b2, .slice A2 m2 c2], .bool true]) (by simp [results, Tryz.results25, go_sem, i0, i1, iz, iy, il]) rfl ⟨_, _, _, _, rfl, r3.v0, r3.bel⟩
  | 1, _ =>
    rw [if_neg (by decide)] at hop
    go_enter Tryz.func25, Tryz.ntmps25
    go_wp2_with (go_at_call 93; refine (hop.out _ _ _ r1.out.v0 r1.out.v1).mono ?_; rintro e w2 ⟨b2, A2, m2, c2, rfl, hn2, hb2⟩; have r2 := Hd.mk ((r1.out.op hb2).add hn2); clear hb2 hn2; refine SR.cellK r2.out hC.out ?_; intro i0 i1 iz iy il)
    have r3 := r2.out.set (b1 := b2) (A1 := A2) (m1 := m2) (c1 := c2) hC.out
    refine bodyPost_ret (v := .tuple #[.agg #[.bool b2, .slice A2 m2 c2], .bool true]) (by simp [results, Tryz.results25, go_sem, i0, i1, iz, iy, il]) rfl ⟨_, _, _, _, rfl, r3.v0, r3.bel⟩
end Go.Proofs.YtdbjdpooggaonaaGreatDoor
end

section
namespace Go.Proofs.YtdbjdpooggaonaaGreatDoor
open Go.ChangeShapes Go.WideShapes Go.ChangeAt Go.RowKit
set_option maxRecDepth 100000
theorem ownNone : ownKnob Tryz.prog.godebug = none := by kernel_rfl
theorem starE : "*" ++ "errors.errorString" = "*errors.errorString" := by decide
theorem rowErr (u : TypeId) (h : Tryz.prog.typeName? 3 u = some "*errors.errorString") : u = 238 :=
  typeName_ptr_named (nm := "errors.errorString") (by rw [starE]; kernel_rfl) (by kernel_rfl) (by decide) u (by rw [starE]; exact h)
theorem cellsErr : Tryz.prog.cellsOf 240 = 1 := by kernel_rfl
theorem cellsStr : Tryz.prog.cellsOf 9 = 1 := by kernel_rfl
theorem laid_mem {P : Program} {w : World} : ∀ {l : List (String × DataW Unit)} {ps : List MemPlace}, DataW.LaidVars P w l ps → ∀ {n : String} {d : DataW Unit}, (n, d) ∈ l →
    ∃ g t cs fuel p, P.globalNamed n = some g ∧ (P.globals[g]?).map (·.type) = some t ∧ w.var? P n = some cs ∧ DataW.trod (fun _ => ()) P w 0 (fun _ => true) false fuel t cs.toList = some (d, p) ∧ ∀ x, x ∈ MemPlace.row ⟨g, 0, none⟩ cs.size → x ∈ ps
  | [], _, _, _, _, hm => by cases hm
  | (n', d') :: r, ps, h, n, d, hm => by
    obtain ⟨g, t, cs, fuel, p, q, h1, h2, h3, h4, h5, rfl⟩ := h
    rcases List.mem_cons.1 hm with e | hm
    · cases e
      exact ⟨g, t, cs, fuel, p, h1, h2, h3, h4, fun x hx => by simp [hx]⟩
    · obtain ⟨g', t', cs', fuel', p', k1, k2, k3, k4, k5⟩ := laid_mem h5 hm
      exact ⟨g', t', cs', fuel', p', k1, k2, k3, k4, fun x hx => by simp [k5 x hx]⟩
section
variable {w : World} {l : List (String × DataW Unit)}
theorem laid_int {n : String} {z : Int} {g : Nat} (h : laidMet Tryz.prog l w) (hm : (n, .lit (.int .i64 z)) ∈ l) (hg : Tryz.prog.globalNamed n = some g) (ht : (Tryz.prog.globals[g]?).map (·.type) = some 3) : w.cell? ⟨g, 0, none⟩ = some (.int .i64 z) := by
  obtain ⟨ps, h1, _, _⟩ := h
  obtain ⟨g', t', cs, fuel, p, k1, k2, k3, k4, _⟩ := laid_mem h1 hm
  obtain rfl := Option.some.inj (hg.symm.trans k1)
  obtain rfl := Option.some.inj (ht.symm.trans k2)
  obtain ⟨m, e1, e2, _⟩ := DataW.trod_int Tryz.underlying3 k4
  have e3 : z = m := by simpa using congrArg Prod.fst e2
  subst e3
  rw [World.var?_cell hg k3 0, ← Array.getElem?_toList, e1]; rfl
theorem laid_err {n : String} {text : List UInt8} {g : Nat} (h : laidMet Tryz.prog l w) (hm : (n, .iface "*errors.errorString" (.ptr (.agg [.lit (.string text)]))) ∈ l) (hg : Tryz.prog.globalNamed n = some g) (ht : (Tryz.prog.globals[g]?).map (·.type) = some 113) : ∃ a, w.cell? ⟨g, 0, none⟩ = some (errV a) := by
  obtain ⟨ms, hmI⟩ := errU
  obtain ⟨ps, h1, _, hr⟩ := h
  obtain ⟨g', t', cs, fuel, p, k1, k2, k3, k4, k5⟩ := laid_mem h1 hm
  obtain rfl := Option.some.inj (hg.symm.trans k1)
  obtain rfl := Option.some.inj (ht.symm.trans k2)
  obtain ⟨lc⟩ := cs
  have ok : ∀ u v, lc = [.iface u v] → Value.okWide Tryz.prog w .any 0 u v := fun u v e => by
    subst e
    exact (hr g 0 (k5 _ (by simp [MemPlace.row]))).2 u v (by simpa using World.var?_cell hg k3 0)
  obtain ⟨a, s, e, _⟩ := errorString_of_trod hmI rowErr Tryz.underlying238 Tryz.underlying240 rfl rfl Tryz.underlying9 cellsErr cellsStr k4 ok
  refine ⟨a, ?_⟩
  rw [World.var?_cell hg k3 0, ← Array.getElem?_toList]
  dsimp only at e
  rw [e]; rfl
end
theorem lastGlobal : (((begin Tryz.prog (fun _ _ => 0) default).world.heap[16 - 1]?).bind Obj.row?).isSome = true := by kernel_rfl
theorem sized {W : World} (h : W.ShapedOpen Tryz.prog) : 16 ≤ W.heap.size := by
  obtain ⟨⟨zero, t⟩, hx⟩ := Option.isSome_iff_exists.1 lastGlobal
  obtain ⟨cs, hc, _⟩ := h.1 (16 - 1) zero t (Nat.le_of_ble_eq_true (by kernel_rfl)) hx
  have := (Array.getElem?_eq_some_iff.1 hc).1
  omega
/-- What a law's post asks where nothing that was there has turned. -/
theorem post_plain {H : Type} {enc : TypeId × Value → H} {P : Program} {f : Func} {s : ChangeSpec} {apart fresh handsOn again : Bool} {W W' : World} {args : Array Value} {v : Value} {ds gs : List (DataW H)}
    (hW : DataW.Whole enc P f.params.toList s.vars apart W args.toList ds gs [])
    (hres : ∀ (b : Nat) (sp : Nat → Bool) (hd : Bool), DataW.TrodAll enc P W' b sp hd f.resultTypes.toList (v.resultList f.resultTypes.size) (s.fn H (ds ++ gs)).results [])
    (hargs : ∀ sp : Nat → Bool, DataW.TrodAll enc P W' 0 sp true f.params.toList args.toList (s.fn H (ds ++ gs)).args [])
    (hvars : ∀ sp : Nat → Bool, DataW.TrodVars enc P W' sp s.vars (s.fn H (ds ++ gs)).vars [])
    (hk : W.keptBut W' (fun _ => False))
    (hok : ∀ (j : Nat) (t : TypeId) (r : Value), f.resultTypes[j]? = some t → (v.resultList f.resultTypes.size)[j]? = some r → Value.okWide P W' .any 0 t r) :
    s.post enc P f apart fresh handsOn again W args v W' := by
  refine ⟨ds, gs, [], [], [], [], hW, hres _ _ _, hargs _, hvars _, World.keptBut_mono (fun p hp => hp.elim) hk, fun _ => ?_⟩
  refine ⟨hok, _, _, [], ⟨[], [], trodAll_append (hargs _) (hres _ _ _), hvars _, rfl, ?_, ?_⟩, ?_⟩
  · intro b off hp; cases hp
  · intro _; exact List.nodup_nil
  · intro p hp; cases hp
/-- Where the errors' texts lie in the witness's world. -/
noncomputable def low : Nat := (World.holding Tryz.prog default ⟨#[], #[], []⟩).heap.size
def setC (c : Array Value) : Obj → Obj
  | .cells _ t frozen => .cells c t frozen
  | o => o
def tab32 : Array Value := #[.int .u8 0, .int .u8 1, .int .u8 28, .int .u8 2, .int .u8 29, .int .u8 14, .int .u8 24, .int .u8 3, .int .u8 30, .int .u8 22, .int .u8 20, .int .u8 15, .int .u8 25, .int .u8 17, .int .u8 4, .int .u8 8, .int .u8 31, .int .u8 27, .int .u8 13, .int .u8 23, .int .u8 21, .int .u8 19, .int .u8 16, .int .u8 7, .int .u8 26, .int .u8 12, .int .u8 18, .int .u8 6, .int .u8 11, .int .u8 5, .int .u8 10, .int .u8 9]
def tab64 : Array Value := #[.int .u8 0, .int .u8 1, .int .u8 56, .int .u8 2, .int .u8 57, .int .u8 49, .int .u8 28, .int .u8 3, .int .u8 61, .int .u8 58, .int .u8 42, .int .u8 50, .int .u8 38, .int .u8 29, .int .u8 17, .int .u8 4, .int .u8 62, .int .u8 47, .int .u8 59, .int .u8 36, .int .u8 45, .int .u8 43, .int .u8 51, .int .u8 22, .int .u8 53, .int .u8 39, .int .u8 33, .int .u8 30, .int .u8 24, .int .u8 18, .int .u8 12, .int .u8 5, .int .u8 63, .int .u8 55, .int .u8 48, .int .u8 27, .int .u8 60, .int .u8 41, .int .u8 37, .int .u8 16, .int .u8 46, .int .u8 35, .int .u8 44, .int .u8 21, .int .u8 52, .int .u8 32, .int .u8 23, .int .u8 11, .int .u8 54, .int .u8 26, .int .u8 40, .int .u8 15, .int .u8 34, .int .u8 20, .int .u8 31, .int .u8 10, .int .u8 25, .int .u8 14, .int .u8 19, .int .u8 9, .int .u8 13, .int .u8 8, .int .u8 7, .int .u8 6]
end Go.Proofs.YtdbjdpooggaonaaGreatDoor
end

section
namespace Go.Proofs.YtdbjdpooggaonaaGreatDoor
open Go.ChangeShapes Go.WideShapes Go.ChangeAt Go.RowKit
set_option maxRecDepth 100000
/-- What the walks ask of the world, out of the row's list. -/
theorem start_okJ {W : World} (h : laidMetH Tryz.prog Rows.fnOrdersBothRow.laid W) (hs : W.ShapedOpen Tryz.prog) : Ok W ∧ Er W := by
  have h : laidMet Tryz.prog Rows.fnOrdersBothRow.laid W := h
  have e3 := laid_err h (n := "io.EOF") (g := 2) (List.mem_of_getElem? (i := 5) rfl) (by kernel_rfl) (by kernel_rfl)
  have e4 := laid_err h (n := "pub-marlinspike/pub/bigall.errNoDigits") (g := 12) (List.mem_of_getElem? (i := 6) rfl) (by kernel_rfl) (by kernel_rfl)
  refine ⟨⟨⟨?_, ?_, ?_, ?_, ?_, e3, e4⟩, sized hs⟩, ⟨e3, e4⟩⟩
  · exact laid_int h (n := "pub-marlinspike/pub/bigall.karatsubaThreshold") (List.mem_of_getElem? (i := 10) rfl) (by kernel_rfl) (by kernel_rfl)
  · exact laid_int h (n := "pub-marlinspike/pub/bigall.basicSqrThreshold") (List.mem_of_getElem? (i := 11) rfl) (by kernel_rfl) (by kernel_rfl)
  · exact laid_int h (n := "pub-marlinspike/pub/bigall.karatsubaSqrThreshold") (List.mem_of_getElem? (i := 12) rfl) (by kernel_rfl) (by kernel_rfl)
  · exact laid_int h (n := "pub-marlinspike/pub/bigall.divRecursiveThreshold") (List.mem_of_getElem? (i := 9) rfl) (by kernel_rfl) (by kernel_rfl)
  · exact laid_int h (n := "pub-marlinspike/pub/bigall.leafSize") (List.mem_of_getElem? (i := 8) rfl) (by kernel_rfl) (by kernel_rfl)
def errTextsJ : Array Obj := #[.cells #[.string (ByteArray.mk #[118, 97, 108, 117, 101, 32, 111, 117, 116, 32, 111, 102, 32, 114, 97, 110, 103, 101])] 240, .cells #[.string (ByteArray.mk #[105, 110, 118, 97, 108, 105, 100, 32, 115, 121, 110, 116, 97, 120])] 240, .cells #[.string (ByteArray.mk #[69, 79, 70])] 240, .cells #[.string (ByteArray.mk #[110, 117, 109, 98, 101, 114, 32, 104, 97, 115, 32, 110, 111, 32, 100, 105, 103, 105, 116, 115])] 240, .cells #[.string (ByteArray.mk #[39, 95, 39, 32, 109, 117, 115, 116, 32, 115, 101, 112, 97, 114, 97, 116, 101, 32, 115, 117, 99, 99, 101, 115, 115, 105, 118, 101, 32, 100, 105, 103, 105, 116, 115])] 240, .cells #[.string (ByteArray.mk #[105, 110, 116, 101, 103, 101, 114, 32, 111, 118, 101, 114, 102, 108, 111, 119])] 240, .cells #[.string (ByteArray.mk #[100, 105, 118, 105, 100, 101, 32, 98, 121, 32, 122, 101, 114, 111])] 240]
def pow10J : Array Value := #[.int .u64 1, .int .u64 10, .int .u64 100, .int .u64 1000, .int .u64 10000, .int .u64 100000, .int .u64 1000000, .int .u64 10000000, .int .u64 100000000, .int .u64 1000000000, .int .u64 10000000000, .int .u64 100000000000, .int .u64 1000000000000, .int .u64 10000000000000, .int .u64 100000000000000, .int .u64 1000000000000000, .int .u64 10000000000000000, .int .u64 100000000000000000, .int .u64 1000000000000000000, .int .u64 10000000000000000000]
/-- A world for the witness: the settled one, the listed variables holding what their initialisers lay. -/
noncomputable def laidWorldJ (os : Os) : World :=
  { World.holding Tryz.prog os ⟨errTextsJ, #[], []⟩ with heap := ((((((((((((((((World.holding Tryz.prog os ⟨errTextsJ, #[], []⟩).heap.modify 13 (setC tab32)).modify 14 (setC tab64)).modify 15 (setC pow10J)).modify 4 (setC #[.iface 238 (.pointer (some ⟨low + 0, 0, none⟩))])).modify 3 (setC #[.iface 238 (.pointer (some ⟨low + 1, 0, none⟩))])).modify 2 (setC #[.iface 238 (.pointer (some ⟨low + 2, 0, none⟩))])).modify 12 (setC #[.iface 238 (.pointer (some ⟨low + 3, 0, none⟩))])).modify 11 (setC #[.iface 238 (.pointer (some ⟨low + 4, 0, none⟩))])).modify 10 (setC #[.int .i64 8])).modify 8 (setC #[.int .i64 40])).modify 7 (setC #[.int .i64 40])).modify 5 (setC #[.int .i64 12])).modify 6 (setC #[.int .i64 80])).modify 0 (setC #[.iface 238 (.pointer (some ⟨low + 5, 0, none⟩))])).modify 1 (setC #[.iface 238 (.pointer (some ⟨low + 6, 0, none⟩))])) }
end Go.Proofs.YtdbjdpooggaonaaGreatDoor
end

section
namespace Go.Proofs.YtdbjdpooggaonaaGreatDoor
open Go.ChangeShapes Go.WideShapes Go.ChangeAt Go.RowKit
theorem u8_lo {n : Int} (h : (Lit.int .u8 n).wf = true) : 0 ≤ n := by
  simp only [Lit.wf, Bool.and_eq_true, decide_eq_true_eq] at h
  exact h.1
theorem u8_hi {n : Int} (h : (Lit.int .u8 n).wf = true) : n < 256 := by
  simp only [Lit.wf, Bool.and_eq_true, decide_eq_true_eq] at h
  have h2 : n ≤ 255 := h.2
  omega
end Go.Proofs.YtdbjdpooggaonaaGreatDoor
end
