/- FnOrdersBoth: the contract, lifted to the row. Conditions: those that each theorem states. -/
import Derived.Test.YtdbjdpooggaonaaGreatDoorJoin03
import Derived.Test.YtdbjdpooggaonaaGreatDoorOrders04
set_option linter.all false

namespace Go.Proofs.YtdbjdpooggaonaaGreatDoor.fnOrdersBoth
open Go.ChangeShapes Go.WideShapes Go.ChangeAt Go.RowKit
open Go.ChangeMaps (open_string shut_string)
set_option maxRecDepth 100000
theorem contract (H : Type) (enc : TypeId × Value → H) (W : World) (base : Nat) (args : Array Value) (ds gs : List (DataW H)) (before : List MemPlace)
    (hval : ∀ (j : Nat) t v, Tryz.f3.params[j]? = some t → args[j]? = some v → Value.okWide Tryz.prog W .any base t v)
    (hW : DataW.Whole enc Tryz.prog Tryz.f3.params.toList Rows.fnOrdersBothSpec.vars false W args.toList ds gs before) (hL : laidMetH Tryz.prog Rows.fnOrdersBothRow.laid W) (hS : W.ShapedOpen Tryz.prog) :
    Calls Tryz.prog 3 args W fun e W' => ∃ v, e = .returned v ∧ Rows.fnOrdersBothSpec.post enc Tryz.prog Tryz.f3 false true false false W args v W' := by
  have hW' := hW
  obtain ⟨p, q, hA0, hV, rfl, hfz, hnd⟩ := hW
  have hA : DataW.TrodAll enc Tryz.prog W 0 (fun _ => true) true Tryz.f3.params.toList args.toList ds p := hA0
  rw [Tryz.params3] at hA hval
  obtain ⟨v0, vs0, d0, ds0, p0, q0, hargs0, rfl, rfl, h0, r0⟩ := trodAll_cons hA
  obtain ⟨v1, vs1, d1, ds1, p1, q1, hargs1, rfl, rfl, h1, r1⟩ := trodAll_cons r0
  obtain ⟨rfl, rfl, rfl⟩ := trodAll_nil r1
  subst hargs1
  obtain rfl : args = #[v0, v1] := by cases args; simp_all
  obtain ⟨rfl, rfl⟩ := trodVars_none hV
  obtain ⟨a, rfl, rfl, rfl, hs0⟩ := open_string Tryz.underlying9 (hval 0 9 v0 rfl rfl) h0
  obtain ⟨b, rfl, rfl, rfl, hs1⟩ := open_string Tryz.underlying9 (hval 1 9 v1 rfl rfl) h1
  clear hA0
  simp only [List.append_nil] at hW'
  obtain ⟨hok, her⟩ := start_okJ hL hS
  refine (ordersBoth_walk a b W hok her).mono fun e W' ⟨he, hb⟩ => ?_
  subst he
  exact ⟨_, rfl, post_plain hW' (fun _ _ _ => trodAll_cons_mk (shut_bool Tryz.underlying4 _) trodAll_mk0) (fun _ => (trodAll_cons_mk (shut_string Tryz.underlying9 hs0) (trodAll_cons_mk (shut_string Tryz.underlying9 hs1) trodAll_mk0))) (fun _ => rfl) (hb.frame _) (ok_one (by kernel_rfl) rfl (okWide_bool_mk Tryz.underlying4 _))⟩
theorem laid_met (os : Os) : laidMet Tryz.prog Rows.fnOrdersBothRow.laid ((laidWorldJ os).forCall (fun _ _ => 0) ⟨#[], #[.string (ByteArray.mk #[]), .string (ByteArray.mk #[])], []⟩).memory :=
  laidMet_of_run' 8 (by kernel_rfl) (by kernel_rfl)
theorem reads (os : Os) {H : Type} (enc : TypeId × Value → H) : ∃ places, DataW.whole enc Tryz.prog ((laidWorldJ os).forCall (fun _ _ => 0) ⟨#[], #[.string (ByteArray.mk #[]), .string (ByteArray.mk #[])], []⟩).memory Tryz.f3.params.toList Rows.fnOrdersBothSpec.vars false #[Value.string (ByteArray.mk #[]), Value.string (ByteArray.mk #[])].toList 8 = some ([.lit (.string []), .lit (.string [])], [], places) :=
  ⟨[], by kernel_rfl⟩
theorem lifted (os : Os) (started : os.Started) (H : Type) (enc : TypeId × Value → H) (F : Stop.Interp) :
    ReturnsInHanded {} Tryz.checked os 3 .any ((OpenSpec.ofChange Rows.fnOrdersBothSpec).preRow enc Tryz.prog Tryz.f3 Rows.fnOrdersBothRow.domain false Rows.fnOrdersBothRow.laid) (((OpenSpec.ofChange Rows.fnOrdersBothSpec).at F).post enc Tryz.prog Tryz.f3 false true false false) := by
  obtain ⟨places, hx⟩ := reads os enc
  refine returnsInHanded_of_row (C := Tryz.checked) (s := OpenSpec.ofChange Rows.fnOrdersBothSpec) ownNone started (by kernel_rfl) Tryz.func3
    (witness_row_at (enc := enc) (C := Tryz.checked) false (laidWorldJ os) #[.string (ByteArray.mk #[]), .string (ByteArray.mk #[])] rfl (by kernel_rfl) (by kernel_rfl) (by kernel_rfl)
      (OpenSpec.preRow_of_cond 8 hx (by kernel_rfl) (fun k hk => by cases hk) (by kernel_rfl) (laid_met os))) ?_
  intro W base args ds gs before hval hW _ _ _ hL hS _
  exact contract H enc W base args ds gs before hval hW hL hS
end Go.Proofs.YtdbjdpooggaonaaGreatDoor.fnOrdersBoth
