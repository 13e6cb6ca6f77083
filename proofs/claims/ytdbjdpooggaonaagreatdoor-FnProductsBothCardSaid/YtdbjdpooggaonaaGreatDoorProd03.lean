/- FnProductsBoth: the contract, lifted to the row. Conditions: those that each theorem states. -/
import Derived.Test.YtdbjdpooggaonaaGreatDoorJoin03
import Derived.Test.YtdbjdpooggaonaaGreatDoorProd02
set_option linter.all false

namespace Go.Proofs.YtdbjdpooggaonaaGreatDoor.fnProductsBoth
open Go.ChangeShapes Go.WideShapes Go.ChangeAt Go.RowKit
open Go.ChangeMaps (open_string shut_string)
set_option maxRecDepth 100000
theorem contract (H : Type) (enc : TypeId × Value → H) (W : World) (base : Nat) (args : Array Value) (ds gs : List (DataW H)) (before : List MemPlace)
    (hval : ∀ (j : Nat) t v, Tryz.f7.params[j]? = some t → args[j]? = some v → Value.okWide Tryz.prog W .any base t v)
    (hW : DataW.Whole enc Tryz.prog Tryz.f7.params.toList Rows.fnProductsBothSpec.vars false W args.toList ds gs before) (hL : laidMetH Tryz.prog Rows.fnProductsBothRow.laid W) (hS : W.ShapedOpen Tryz.prog) :
    Calls Tryz.prog 7 args W fun e W' => ∃ v, e = .returned v ∧ Rows.fnProductsBothSpec.post enc Tryz.prog Tryz.f7 false true false false W args v W' := by
  have hW' := hW
  obtain ⟨p, q, hA0, hV, rfl, hfz, hnd⟩ := hW
  have hA : DataW.TrodAll enc Tryz.prog W 0 (fun _ => true) true Tryz.f7.params.toList args.toList ds p := hA0
  rw [Tryz.params7] at hA hval
  obtain ⟨v0, vs0, d0, ds0, p0, q0, hargs0, rfl, rfl, h0, r0⟩ := trodAll_cons hA
  obtain ⟨v1, vs1, d1, ds1, p1, q1, hargs1, rfl, rfl, h1, r1⟩ := trodAll_cons r0
  obtain ⟨v2, vs2, d2, ds2, p2, q2, hargs2, rfl, rfl, h2, r2⟩ := trodAll_cons r1
  obtain ⟨rfl, rfl, rfl⟩ := trodAll_nil r2
  subst hargs2
  subst hargs1
  obtain rfl : args = #[v0, v1, v2] := by cases args; simp_all
  obtain ⟨rfl, rfl⟩ := trodVars_none hV
  obtain ⟨a, rfl, rfl, rfl, hs0⟩ := open_string Tryz.underlying9 (hval 0 9 v0 rfl rfl) h0
  obtain ⟨b, rfl, rfl, rfl, hs1⟩ := open_string Tryz.underlying9 (hval 1 9 v1 rfl rfl) h1
  obtain ⟨c, rfl, rfl, rfl, hs2⟩ := open_int Tryz.underlying5 (hval 2 5 v2 rfl rfl) h2
  clear hA0
  simp only [List.append_nil] at hW'
  obtain ⟨hok, her⟩ := start_okJ hL hS
  refine (productsBoth_walk a b c W hok her (u8_lo hs2) (u8_hi hs2)).mono fun e W' ⟨he, hb⟩ => ?_
  subst he
  exact ⟨_, rfl, post_plain hW' (fun _ _ _ => trodAll_cons_mk (shut_bool Tryz.underlying4 _) trodAll_mk0) (fun _ => (trodAll_cons_mk (shut_string Tryz.underlying9 hs0) (trodAll_cons_mk (shut_string Tryz.underlying9 hs1) (trodAll_cons_mk (shut_int Tryz.underlying5 hs2) trodAll_mk0)))) (fun _ => rfl) (hb.frame _) (ok_one (by kernel_rfl) rfl (okWide_bool_mk Tryz.underlying4 _))⟩
theorem laid_met (os : Os) : laidMet Tryz.prog Rows.fnProductsBothRow.laid ((laidWorldJ os).forCall (fun _ _ => 0) ⟨#[], #[.string (ByteArray.mk #[]), .string (ByteArray.mk #[]), .int .u8 0], []⟩).memory :=
  laidMet_of_run' 8 (by kernel_rfl) (by kernel_rfl)
theorem reads (os : Os) {H : Type} (enc : TypeId × Value → H) : ∃ places, DataW.whole enc Tryz.prog ((laidWorldJ os).forCall (fun _ _ => 0) ⟨#[], #[.string (ByteArray.mk #[]), .string (ByteArray.mk #[]), .int .u8 0], []⟩).memory Tryz.f7.params.toList Rows.fnProductsBothSpec.vars false #[Value.string (ByteArray.mk #[]), Value.string (ByteArray.mk #[]), Value.int .u8 0].toList 8 = some ([.lit (.string []), .lit (.string []), .lit (.int .u8 0)], [], places) :=
  ⟨[], by kernel_rfl⟩
theorem lifted (os : Os) (started : os.Started) (H : Type) (enc : TypeId × Value → H) (F : Stop.Interp) :
    ReturnsInHanded {} Tryz.checked os 7 .any ((OpenSpec.ofChange Rows.fnProductsBothSpec).preRow enc Tryz.prog Tryz.f7 Rows.fnProductsBothRow.domain false Rows.fnProductsBothRow.laid) (((OpenSpec.ofChange Rows.fnProductsBothSpec).at F).post enc Tryz.prog Tryz.f7 false true false false) := by
  obtain ⟨places, hx⟩ := reads os enc
  refine returnsInHanded_of_row (C := Tryz.checked) (s := OpenSpec.ofChange Rows.fnProductsBothSpec) ownNone started (by kernel_rfl) Tryz.func7
    (witness_row_at (enc := enc) (C := Tryz.checked) false (laidWorldJ os) #[.string (ByteArray.mk #[]), .string (ByteArray.mk #[]), .int .u8 0] rfl (by kernel_rfl) (by kernel_rfl) (by kernel_rfl)
      (OpenSpec.preRow_of_cond 8 hx (by kernel_rfl) (fun k hk => by cases hk) (by kernel_rfl) (laid_met os))) ?_
  intro W base args ds gs before hval hW _ _ _ hL hS _
  exact contract H enc W base args ds gs before hval hW hL hS
end Go.Proofs.YtdbjdpooggaonaaGreatDoor.fnProductsBoth
