/- FnDecCompares: the contract, lifted to the row. Conditions: those that each theorem states. -/
import Derived.SliceStrings
import Derived.Carry
import Derived.Test.YtpabbnogfflgpaaGreatDoorOnes01
import Derived.Test.YtpabbnogfflgpaaGreatDoorCompares01
set_option linter.all false

namespace Go.Proofs.YtpabbnogfflgpaaGreatDoor.fnDecCompares
open Go.ChangeShapes Go.WideShapes Go.ChangeAt Go.RowKit
open Go.ChangeMaps (open_string shut_string)
set_option maxRecDepth 100000
theorem open_TS {H : Type} {enc : TypeId × Value → H} {W : World} {A : Option Addr} {len cap : Nat} {d : DataW H} {p : List MemPlace} (h : DataW.Trod enc Tryz.prog W 0 (fun _ => true) true 37 (.slice A len cap) d p) :
    ∃ s, TS W (.slice A len cap) len s ∧ len ≤ maxLen ∧ ∀ i, i < len → (s i).size ≤ maxLen := by
  obtain ⟨fuel, hf⟩ := h
  rcases open_strings Tryz.underlying37 Tryz.underlying9 (by kernel_rfl) hf with ⟨hcs, hx⟩ | ⟨a, len', cap', ss, hcs, _, hl, hm, hz, hx, hcell, hws⟩
  · simp [Value.cells] at hcs
    obtain ⟨rfl, rfl, rfl⟩ := hcs
    exact ⟨fun _ => ByteArray.empty, ⟨none, 0, rfl, fun h => by omega⟩, Nat.zero_le _, fun i hi => by omega⟩
  · simp [Value.cells] at hcs
    obtain ⟨rfl, rfl, rfl⟩ := hcs
    simp only [if_true] at hz
    refine ⟨fun i => ss.getD i ByteArray.empty, ⟨some a, cap, rfl, fun hn => ⟨a, rfl, ?_, fun i hi => hcell i (by omega)⟩⟩, by omega, fun i hi => ?_⟩
    · have := World.block_lt_of_cell? W _ (hcell 0 (by omega))
      have e : (a.add 0).block = a.block := by unfold Addr.add; split <;> rfl
      omega
    · dsimp only
      rw [List.getD_eq_getElem?_getD, List.getElem?_eq_getElem (by omega)]
      exact hws _ (List.getElem_mem _)
theorem contract (H : Type) (enc : TypeId × Value → H) (W : World) (base : Nat) (args : Array Value) (ds gs : List (DataW H)) (before : List MemPlace)
    (hval : ∀ (j : Nat) t v, Tryz.f4.params[j]? = some t → args[j]? = some v → Value.okWide Tryz.prog W .any base t v)
    (hW : DataW.Whole enc Tryz.prog Tryz.f4.params.toList Rows.fnDecComparesSpec.vars false W args.toList ds gs before) (hL : laidMetH Tryz.prog Rows.fnDecComparesRow.laid W) (hS : W.ShapedOpen Tryz.prog) :
    Calls Tryz.prog 4 args W fun e W' => ∃ v, e = .returned v ∧ Rows.fnDecComparesSpec.post enc Tryz.prog Tryz.f4 false true false false W args v W' := by
  have hW' := hW
  obtain ⟨p, q, hA0, hV, rfl, hfz, hnd⟩ := hW
  have hA : DataW.TrodAll enc Tryz.prog W 0 (fun _ => true) true Tryz.f4.params.toList args.toList ds p := hA0
  rw [Tryz.params4] at hA hval
  obtain ⟨v0, vs0, d0, ds0, p0, q0, hargs0, rfl, rfl, h0, r0⟩ := trodAll_cons hA
  obtain ⟨v1, vs1, d1, ds1, p1, q1, hargs1, rfl, rfl, h1, r1⟩ := trodAll_cons r0
  obtain ⟨v2, vs2, d2, ds2, p2, q2, hargs2, rfl, rfl, h2, r2⟩ := trodAll_cons r1
  obtain ⟨v3, vs3, d3, ds3, p3, q3, hargs3, rfl, rfl, h3, r3⟩ := trodAll_cons r2
  obtain ⟨rfl, rfl, rfl⟩ := trodAll_nil r3
  subst hargs3
  subst hargs2
  subst hargs1
  obtain rfl : args = #[v0, v1, v2, v3] := by cases args; simp_all
  obtain ⟨rfl, rfl⟩ := trodVars_none hV
  obtain ⟨a, rfl, rfl, rfl, hs0⟩ := open_string Tryz.underlying9 (hval 0 9 v0 rfl rfl) h0
  obtain ⟨b, rfl, rfl, rfl, hs1⟩ := open_string Tryz.underlying9 (hval 1 9 v1 rfl rfl) h1
  obtain ⟨A2, n2, c2, rfl⟩ := okWide_slice Tryz.underlying37 (hval 2 37 v2 rfl rfl)
  obtain ⟨A3, n3, c3, rfl⟩ := okWide_slice Tryz.underlying37 (hval 3 37 v3 rfl rfl)
  clear hA0
  simp only [List.append_nil] at hW'
  have hlt : ∀ x ∈ ([] ++ ([] ++ (p2 ++ p3)) : List MemPlace), x.block < W.heap.size := fun x hx => by simpa using hW'.lt x (by simpa using hx)
  obtain ⟨hok, her⟩ := start_ok hL hS
  obtain ⟨s, t2, m2, k2⟩ := open_TS h2
  obtain ⟨t, t3, m3, k3⟩ := open_TS h3
  refine (compares_walk a b _ _ n2 n3 s t W hok her t2 t3 m2 m3 k2 k3).mono fun e W' ⟨he, hb⟩ => ?_
  subst he
  refine ⟨_, rfl, _, _, _, [], [] ++ ([] ++ (p2 ++ (p3 ++ []))), [], hW', ?_, ?_, ?_, hb.frame _, fun h => by cases h⟩
  rotate_left 2
  · rfl
  · exact trodAll_cons_mk (shut_bool Tryz.underlying4 _) trodAll_mk0
  · exact trodAll_cons_mk (shut_string Tryz.underlying9 hs0) (trodAll_cons_mk (shut_string Tryz.underlying9 hs1) (trodAll_cons_mk (Below.trod (by kernel_rfl) (by kernel_rfl) (of_decide_eq_true (by kernel_rfl)) h2 hb (fun x hx => hlt x (by simp [hx]))) (trodAll_cons_mk (Below.trod (by kernel_rfl) (by kernel_rfl) (of_decide_eq_true (by kernel_rfl)) h3 hb (fun x hx => hlt x (by simp [hx]))) trodAll_mk0)))
theorem laid_met (os : Os) : laidMet Tryz.prog Rows.fnDecComparesRow.laid ((laidWorld os).forCall (fun _ _ => 0) ⟨#[], #[.string (ByteArray.mk #[]), .string (ByteArray.mk #[]), .slice none 0 0, .slice none 0 0], []⟩).memory :=
  laidMet_of_run' 8 (by kernel_rfl) (by kernel_rfl)
theorem reads (os : Os) {H : Type} (enc : TypeId × Value → H) : ∃ places, DataW.whole enc Tryz.prog ((laidWorld os).forCall (fun _ _ => 0) ⟨#[], #[.string (ByteArray.mk #[]), .string (ByteArray.mk #[]), .slice none 0 0, .slice none 0 0], []⟩).memory Tryz.f4.params.toList Rows.fnDecComparesSpec.vars false #[Value.string (ByteArray.mk #[]), Value.string (ByteArray.mk #[]), Value.slice none 0 0, Value.slice none 0 0].toList 8 = some ([.lit (.string []), .lit (.string []), .nil, .nil], [], places) :=
  ⟨[], by kernel_rfl⟩
theorem lifted (os : Os) (started : os.Started) (H : Type) (enc : TypeId × Value → H) (F : Stop.Interp) :
    ReturnsInHanded {} Tryz.checked os 4 .any ((OpenSpec.ofChange Rows.fnDecComparesSpec).preRow enc Tryz.prog Tryz.f4 Rows.fnDecComparesRow.domain false Rows.fnDecComparesRow.laid) (((OpenSpec.ofChange Rows.fnDecComparesSpec).at F).post enc Tryz.prog Tryz.f4 false true false false) := by
  obtain ⟨places, hx⟩ := reads os enc
  refine returnsInHanded_of_row (C := Tryz.checked) (s := OpenSpec.ofChange Rows.fnDecComparesSpec) ownNone started (by kernel_rfl) Tryz.func4
    (witness_row_at (enc := enc) (C := Tryz.checked) false (laidWorld os) #[.string (ByteArray.mk #[]), .string (ByteArray.mk #[]), .slice none 0 0, .slice none 0 0] rfl (by kernel_rfl) (by kernel_rfl) (by kernel_rfl)
      (OpenSpec.preRow_of_cond 8 hx (by kernel_rfl) (fun k hk => by cases hk) (by kernel_rfl) (laid_met os))) ?_
  intro W base args ds gs before hval hW _ _ _ hL hS _
  exact contract H enc W base args ds gs before hval hW hL hS
end Go.Proofs.YtpabbnogfflgpaaGreatDoor.fnDecCompares
