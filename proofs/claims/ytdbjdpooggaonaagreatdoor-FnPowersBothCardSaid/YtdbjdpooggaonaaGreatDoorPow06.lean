/- FnPowersBoth: the contract, lifted to the row. Conditions: those that each theorem states. -/
import Derived.Test.YtdbjdpooggaonaaGreatDoorJoin03
import Derived.Test.YtdbjdpooggaonaaGreatDoorPow05
set_option linter.all false

namespace Go.Proofs.YtdbjdpooggaonaaGreatDoor.fnPowersBoth
open Go.ChangeShapes Go.WideShapes Go.ChangeAt Go.RowKit
open Go.ChangeMaps (open_string shut_string)
set_option maxRecDepth 100000
theorem contract (H : Type) (enc : TypeId × Value → H) (W : World) (base : Nat) (args : Array Value) (ds gs : List (DataW H)) (before : List MemPlace)
    (hval : ∀ (j : Nat) t v, Tryz.f4.params[j]? = some t → args[j]? = some v → Value.okWide Tryz.prog W .any base t v)
    (hW : DataW.Whole enc Tryz.prog Tryz.f4.params.toList Rows.fnPowersBothSpec.vars false W args.toList ds gs before) (hL : laidMetH Tryz.prog Rows.fnPowersBothRow.laid W) (hS : W.ShapedOpen Tryz.prog) :
    Calls Tryz.prog 4 args W fun e W' => ∃ v, e = .returned v ∧ Rows.fnPowersBothSpec.post enc Tryz.prog Tryz.f4 false true false false W args v W' := by
  have hW' := hW
  obtain ⟨p, q, hA0, hV, rfl, hfz, hnd⟩ := hW
  have hA : DataW.TrodAll enc Tryz.prog W 0 (fun _ => true) true Tryz.f4.params.toList args.toList ds p := hA0
  rw [Tryz.params4] at hA hval
  obtain ⟨v0, vs0, d0, ds0, p0, q0, hargs0, rfl, rfl, h0, r0⟩ := trodAll_cons hA
  obtain ⟨v1, vs1, d1, ds1, p1, q1, hargs1, rfl, rfl, h1, r1⟩ := trodAll_cons r0
  obtain ⟨rfl, rfl, rfl⟩ := trodAll_nil r1
  subst hargs1
  obtain rfl : args = #[v0, v1] := by cases args; simp_all
  obtain ⟨rfl, rfl⟩ := trodVars_none hV
  obtain ⟨a, rfl, rfl, rfl, hs0⟩ := open_int Tryz.underlying35 (hval 0 35 v0 rfl rfl) h0
  obtain ⟨b, rfl, rfl, rfl, hs1⟩ := open_int Tryz.underlying5 (hval 1 5 v1 rfl rfl) h1
  clear hA0
  simp only [List.append_nil] at hW'
  obtain ⟨hok, her⟩ := start_okJ hL hS
  refine (powers_walk a b W hok her (u16_lo hs0) (u16_hi hs0) (u8_lo hs1) (u8_hi hs1)).mono fun e W' ⟨he, hb⟩ => ?_
  subst he
  exact ⟨_, rfl, post_plain hW' (fun _ _ _ => trodAll_cons_mk (shut_bool Tryz.underlying4 _) trodAll_mk0) (fun _ => (trodAll_cons_mk (shut_int Tryz.underlying35 hs0) (trodAll_cons_mk (shut_int Tryz.underlying5 hs1) trodAll_mk0))) (fun _ => rfl) (hb.frame _) (ok_one (by kernel_rfl) rfl (okWide_bool_mk Tryz.underlying4 _))⟩
theorem laid_met (os : Os) : laidMet Tryz.prog Rows.fnPowersBothRow.laid ((laidWorldJ os).forCall (fun _ _ => 0) ⟨#[], #[.int .u16 0, .int .u8 0], []⟩).memory :=
  laidMet_of_run' 8 (by kernel_rfl) (by kernel_rfl)
theorem reads (os : Os) {H : Type} (enc : TypeId × Value → H) : ∃ places, DataW.whole enc Tryz.prog ((laidWorldJ os).forCall (fun _ _ => 0) ⟨#[], #[.int .u16 0, .int .u8 0], []⟩).memory Tryz.f4.params.toList Rows.fnPowersBothSpec.vars false #[Value.int .u16 0, Value.int .u8 0].toList 8 = some ([.lit (.int .u16 0), .lit (.int .u8 0)], [], places) :=
  ⟨[], by kernel_rfl⟩
theorem lifted (os : Os) (started : os.Started) (H : Type) (enc : TypeId × Value → H) (F : Stop.Interp) :
    ReturnsInHanded {} Tryz.checked os 4 .any ((OpenSpec.ofChange Rows.fnPowersBothSpec).preRow enc Tryz.prog Tryz.f4 Rows.fnPowersBothRow.domain false Rows.fnPowersBothRow.laid) (((OpenSpec.ofChange Rows.fnPowersBothSpec).at F).post enc Tryz.prog Tryz.f4 false true false false) := by
  obtain ⟨places, hx⟩ := reads os enc
  refine returnsInHanded_of_row (C := Tryz.checked) (s := OpenSpec.ofChange Rows.fnPowersBothSpec) ownNone started (by kernel_rfl) Tryz.func4
    (witness_row_at (enc := enc) (C := Tryz.checked) false (laidWorldJ os) #[.int .u16 0, .int .u8 0] rfl (by kernel_rfl) (by kernel_rfl) (by kernel_rfl)
      (OpenSpec.preRow_of_cond 8 hx (by kernel_rfl) (fun k hk => by cases hk) (by kernel_rfl) (laid_met os))) ?_
  intro W base args ds gs before hval hW _ _ _ hL hS _
  exact contract H enc W base args ds gs before hval hW hL hS
end Go.Proofs.YtdbjdpooggaonaaGreatDoor.fnPowersBoth
