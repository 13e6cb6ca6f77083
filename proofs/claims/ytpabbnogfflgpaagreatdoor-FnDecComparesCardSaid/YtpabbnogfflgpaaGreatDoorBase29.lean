/- What the rows' listed variables give; a world that meets them. Conditions: those that each theorem states. -/
import Derived.Test.YtpabbnogfflgpaaGreatDoorCards
import Derived.Test.YtpabbnogfflgpaaGreatDoorTie
import Derived.WalkKit
import Derived.ProofKit
import Derived.OpenShut
import Derived.Deep.DeepHandedRow
import Derived.Lib.LaidTab
import Derived.LaidLaws
import Derived.ChangeMaps5
import Derived.Test.YtpabbnogfflgpaaGreatDoorBase28
set_option linter.all false

namespace Go.Proofs.YtpabbnogfflgpaaGreatDoor
open Go.ChangeShapes Go.WideShapes Go.ChangeAt Go.RowKit
set_option maxRecDepth 100000
theorem ownNone : ownKnob Tryz.prog.godebug = none := by kernel_rfl
theorem starE : "*" ++ "errors.errorString" = "*errors.errorString" := by decide
theorem rowErr (u : TypeId) (h : Tryz.prog.typeName? 3 u = some "*errors.errorString") : u = 148 :=
  typeName_ptr_named (nm := "errors.errorString") (by rw [starE]; kernel_rfl) (by kernel_rfl) (by decide) u (by rw [starE]; exact h)
theorem cellsErr : Tryz.prog.cellsOf 150 = 1 := by kernel_rfl
theorem cellsStr : Tryz.prog.cellsOf 9 = 1 := by kernel_rfl
theorem laid_mem {P : Program} {w : World} : ∀ {l : List (String × DataW Unit)} {ps : List MemPlace}, DataW.LaidVars P w l ps → ∀ {n : String} {d : DataW Unit}, (n, d) ∈ l →
    ∃ g t cs fuel p, P.globalNamed n = some g ∧ (P.globals[g]?).map (·.type) = some t ∧ w.var? P n = some cs ∧ DataW.trod (fun _ => ()) P w 0 (fun _ => true) false fuel t cs.toList = some (d, p) ∧ ∀ x, x ∈ MemPlace.row ⟨g, 0, none⟩ cs.size → x ∈ ps
  | [], _, _, _, _, hm => by cases hm
  | (n', d') :: r, ps, h, n, d, hm => by
    obtain ⟨g, t, cs, fuel, p, q, h1, h2, h3, h4, h5, rfl⟩ := h
    rcases List.mem_cons.1 hm with e | hm
    · cases e
      exact ⟨g, t, cs, fuel, p, h1, h2, h3, h4, fun x hx => by simp [hx]⟩
    · obtain ⟨g', t', cs', fuel', p', k1, k2, k3, k4, k5⟩ := laid_mem h5 hm
      exact ⟨g', t', cs', fuel', p', k1, k2, k3, k4, fun x hx => by simp [k5 x hx]⟩
section
variable {w : World} {l : List (String × DataW Unit)}
theorem laid_int {n : String} {z : Int} {g : Nat} (h : laidMet Tryz.prog l w) (hm : (n, .lit (.int .i64 z)) ∈ l) (hg : Tryz.prog.globalNamed n = some g) (ht : (Tryz.prog.globals[g]?).map (·.type) = some 3) : w.cell? ⟨g, 0, none⟩ = some (.int .i64 z) := by
  obtain ⟨ps, h1, _, _⟩ := h
  obtain ⟨g', t', cs, fuel, p, k1, k2, k3, k4, _⟩ := laid_mem h1 hm
  obtain rfl := Option.some.inj (hg.symm.trans k1)
  obtain rfl := Option.some.inj (ht.symm.trans k2)
  obtain ⟨m, e1, e2, _⟩ := DataW.trod_int Tryz.underlying3 k4
  have e3 : z = m := by simpa using congrArg Prod.fst e2
  subst e3
  rw [World.var?_cell hg k3 0, ← Array.getElem?_toList, e1]; rfl
theorem laid_err {n : String} {text : List UInt8} {g : Nat} (h : laidMet Tryz.prog l w) (hm : (n, .iface "*errors.errorString" (.ptr (.agg [.lit (.string text)]))) ∈ l) (hg : Tryz.prog.globalNamed n = some g) (ht : (Tryz.prog.globals[g]?).map (·.type) = some 100) : ∃ a, w.cell? ⟨g, 0, none⟩ = some (errV a) := by
  obtain ⟨ms, hmI⟩ := errU
  obtain ⟨ps, h1, _, hr⟩ := h
  obtain ⟨g', t', cs, fuel, p, k1, k2, k3, k4, k5⟩ := laid_mem h1 hm
  obtain rfl := Option.some.inj (hg.symm.trans k1)
  obtain rfl := Option.some.inj (ht.symm.trans k2)
  obtain ⟨lc⟩ := cs
  have ok : ∀ u v, lc = [.iface u v] → Value.okWide Tryz.prog w .any 0 u v := fun u v e => by
    subst e
    exact (hr g 0 (k5 _ (by simp [MemPlace.row]))).2 u v (by simpa using World.var?_cell hg k3 0)
  obtain ⟨a, s, e, _⟩ := errorString_of_trod hmI rowErr Tryz.underlying148 Tryz.underlying150 rfl rfl Tryz.underlying9 cellsErr cellsStr k4 ok
  refine ⟨a, ?_⟩
  rw [World.var?_cell hg k3 0, ← Array.getElem?_toList]
  dsimp only at e
  rw [e]; rfl
end
theorem lastGlobal : (((begin Tryz.prog (fun _ _ => 0) default).world.heap[18 - 1]?).bind Obj.row?).isSome = true := by kernel_rfl
theorem sized {W : World} (h : W.ShapedOpen Tryz.prog) : 18 ≤ W.heap.size := by
  obtain ⟨⟨zero, t⟩, hx⟩ := Option.isSome_iff_exists.1 lastGlobal
  obtain ⟨cs, hc, _⟩ := h.1 (18 - 1) zero t (Nat.le_of_ble_eq_true (by kernel_rfl)) hx
  have := (Array.getElem?_eq_some_iff.1 hc).1
  omega
/-- What the walks ask of the world, out of the row's list. -/
theorem start_ok {W : World} (h : laidMetH Tryz.prog Rows.fnDecComparesRow.laid W) (hs : W.ShapedOpen Tryz.prog) : Ok W ∧ Er W := by
  have h : laidMet Tryz.prog Rows.fnDecComparesRow.laid W := h
  have e3 := laid_err h (n := "io.EOF") (g := 3) (List.mem_of_getElem? (i := 2) rfl) (by kernel_rfl) (by kernel_rfl)
  have e4 := laid_err h (n := "pub-marlinspike/pub/bigall.errNoDigits") (g := 11) (List.mem_of_getElem? (i := 3) rfl) (by kernel_rfl) (by kernel_rfl)
  refine ⟨⟨⟨?_, ?_, ?_, ?_, ?_, e3, e4⟩, sized hs⟩, ⟨e3, e4, ?_, ?_, ?_⟩⟩
  · exact laid_int h (n := "pub-marlinspike/pub/bigall.karatsubaThreshold") (List.mem_of_getElem? (i := 7) rfl) (by kernel_rfl) (by kernel_rfl)
  · exact laid_int h (n := "pub-marlinspike/pub/bigall.basicSqrThreshold") (List.mem_of_getElem? (i := 8) rfl) (by kernel_rfl) (by kernel_rfl)
  · exact laid_int h (n := "pub-marlinspike/pub/bigall.karatsubaSqrThreshold") (List.mem_of_getElem? (i := 9) rfl) (by kernel_rfl) (by kernel_rfl)
  · exact laid_int h (n := "pub-marlinspike/pub/bigall.divRecursiveThreshold") (List.mem_of_getElem? (i := 6) rfl) (by kernel_rfl) (by kernel_rfl)
  · exact laid_int h (n := "pub-marlinspike/pub/bigall.leafSize") (List.mem_of_getElem? (i := 5) rfl) (by kernel_rfl) (by kernel_rfl)
  · exact laid_err h (n := "pub-marlinspike/pub/cosmosmath.ErrLegacyEmptyDecimalStr") (List.mem_of_getElem? (i := 10) rfl) (by kernel_rfl) (by kernel_rfl)
  · exact laid_err h (n := "pub-marlinspike/pub/cosmosmath.ErrLegacyInvalidDecimalLength") (List.mem_of_getElem? (i := 11) rfl) (by kernel_rfl) (by kernel_rfl)
  · exact laid_err h (n := "pub-marlinspike/pub/cosmosmath.ErrLegacyInvalidDecimalStr") (List.mem_of_getElem? (i := 12) rfl) (by kernel_rfl) (by kernel_rfl)
/-- What a law's post asks where nothing that was there has turned. -/
theorem post_plain {H : Type} {enc : TypeId × Value → H} {P : Program} {f : Func} {s : ChangeSpec} {apart fresh handsOn again : Bool} {W W' : World} {args : Array Value} {v : Value} {ds gs : List (DataW H)}
    (hW : DataW.Whole enc P f.params.toList s.vars apart W args.toList ds gs [])
    (hres : ∀ (b : Nat) (sp : Nat → Bool) (hd : Bool), DataW.TrodAll enc P W' b sp hd f.resultTypes.toList (v.resultList f.resultTypes.size) (s.fn H (ds ++ gs)).results [])
    (hargs : ∀ sp : Nat → Bool, DataW.TrodAll enc P W' 0 sp true f.params.toList args.toList (s.fn H (ds ++ gs)).args [])
    (hvars : ∀ sp : Nat → Bool, DataW.TrodVars enc P W' sp s.vars (s.fn H (ds ++ gs)).vars [])
    (hk : W.keptBut W' (fun _ => False))
    (hok : ∀ (j : Nat) (t : TypeId) (r : Value), f.resultTypes[j]? = some t → (v.resultList f.resultTypes.size)[j]? = some r → Value.okWide P W' .any 0 t r) :
    s.post enc P f apart fresh handsOn again W args v W' := by
  refine ⟨ds, gs, [], [], [], [], hW, hres _ _ _, hargs _, hvars _, World.keptBut_mono (fun p hp => hp.elim) hk, fun _ => ?_⟩
  refine ⟨hok, _, _, [], ⟨[], [], trodAll_append (hargs _) (hres _ _ _), hvars _, rfl, ?_, ?_⟩, ?_⟩
  · intro b off hp; cases hp
  · intro _; exact List.nodup_nil
  · intro p hp; cases hp
/-- Where the errors' texts lie in the witness's world. -/
noncomputable def low : Nat := (World.holding Tryz.prog default ⟨#[], #[], []⟩).heap.size
def setC (c : Array Value) : Obj → Obj
  | .cells _ t frozen => .cells c t frozen
  | o => o
def tab32 : Array Value := #[.int .u8 0, .int .u8 1, .int .u8 28, .int .u8 2, .int .u8 29, .int .u8 14, .int .u8 24, .int .u8 3, .int .u8 30, .int .u8 22, .int .u8 20, .int .u8 15, .int .u8 25, .int .u8 17, .int .u8 4, .int .u8 8, .int .u8 31, .int .u8 27, .int .u8 13, .int .u8 23, .int .u8 21, .int .u8 19, .int .u8 16, .int .u8 7, .int .u8 26, .int .u8 12, .int .u8 18, .int .u8 6, .int .u8 11, .int .u8 5, .int .u8 10, .int .u8 9]
def tab64 : Array Value := #[.int .u8 0, .int .u8 1, .int .u8 56, .int .u8 2, .int .u8 57, .int .u8 49, .int .u8 28, .int .u8 3, .int .u8 61, .int .u8 58, .int .u8 42, .int .u8 50, .int .u8 38, .int .u8 29, .int .u8 17, .int .u8 4, .int .u8 62, .int .u8 47, .int .u8 59, .int .u8 36, .int .u8 45, .int .u8 43, .int .u8 51, .int .u8 22, .int .u8 53, .int .u8 39, .int .u8 33, .int .u8 30, .int .u8 24, .int .u8 18, .int .u8 12, .int .u8 5, .int .u8 63, .int .u8 55, .int .u8 48, .int .u8 27, .int .u8 60, .int .u8 41, .int .u8 37, .int .u8 16, .int .u8 46, .int .u8 35, .int .u8 44, .int .u8 21, .int .u8 52, .int .u8 32, .int .u8 23, .int .u8 11, .int .u8 54, .int .u8 26, .int .u8 40, .int .u8 15, .int .u8 34, .int .u8 20, .int .u8 31, .int .u8 10, .int .u8 25, .int .u8 14, .int .u8 19, .int .u8 9, .int .u8 13, .int .u8 8, .int .u8 7, .int .u8 6]
def errTexts : Array Obj := #[.cells #[.string (ByteArray.mk #[69, 79, 70])] 150, .cells #[.string (ByteArray.mk #[110, 117, 109, 98, 101, 114, 32, 104, 97, 115, 32, 110, 111, 32, 100, 105, 103, 105, 116, 115])] 150, .cells #[.string (ByteArray.mk #[39, 95, 39, 32, 109, 117, 115, 116, 32, 115, 101, 112, 97, 114, 97, 116, 101, 32, 115, 117, 99, 99, 101, 115, 115, 105, 118, 101, 32, 100, 105, 103, 105, 116, 115])] 150, .cells #[.string (ByteArray.mk #[100, 101, 99, 105, 109, 97, 108, 32, 115, 116, 114, 105, 110, 103, 32, 99, 97, 110, 110, 111, 116, 32, 98, 101, 32, 101, 109, 112, 116, 121])] 150, .cells #[.string (ByteArray.mk #[105, 110, 118, 97, 108, 105, 100, 32, 100, 101, 99, 105, 109, 97, 108, 32, 108, 101, 110, 103, 116, 104])] 150, .cells #[.string (ByteArray.mk #[105, 110, 118, 97, 108, 105, 100, 32, 100, 101, 99, 105, 109, 97, 108, 32, 115, 116, 114, 105, 110, 103])] 150]
/-- A world for the witness: the settled one, the listed variables holding what their initialisers lay. -/
noncomputable def laidWorld (os : Os) : World :=
  { World.holding Tryz.prog os ⟨errTexts, #[], []⟩ with heap := ((((((((((((((World.holding Tryz.prog os ⟨errTexts, #[], []⟩).heap.modify 13 (setC #[.int .i64 8])).modify 9 (setC #[.int .i64 40])).modify 8 (setC #[.int .i64 40])).modify 6 (setC #[.int .i64 12])).modify 7 (setC #[.int .i64 80])).modify 3 (setC #[.iface 148 (.pointer (some ⟨low + 0, 0, none⟩))])).modify 11 (setC #[.iface 148 (.pointer (some ⟨low + 1, 0, none⟩))])).modify 10 (setC #[.iface 148 (.pointer (some ⟨low + 2, 0, none⟩))])).modify 0 (setC #[.iface 148 (.pointer (some ⟨low + 3, 0, none⟩))])).modify 1 (setC #[.iface 148 (.pointer (some ⟨low + 4, 0, none⟩))])).modify 2 (setC #[.iface 148 (.pointer (some ⟨low + 5, 0, none⟩))])).modify 15 (setC tab32)).modify 16 (setC tab64)) }
end Go.Proofs.YtpabbnogfflgpaaGreatDoor
