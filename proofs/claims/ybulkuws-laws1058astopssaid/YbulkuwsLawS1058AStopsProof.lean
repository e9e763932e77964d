/-
  The frame of 'Rows.LawS1058AStopsSaid': the guide's own way for a law over slices (as the given shells of this seat have it), turned to a slice of structs of two integers (Derived/Deep/SlicePairs.lean); the walk is in its own text.
-/
import Derived.Test.YbulkuwsRows
import Derived.WalkKit
import Derived.ProofKit
import Derived.OpenShut
import Derived.ShutString
import Derived.ChangeOld
import Derived.Below
import Derived.Deep.SlicePairs
import Derived.Test.YbulkuwsStopsLaw
namespace Go.Proofs.Ybulkuws.lawS1058AStops
open Go.ChangeShapes Go.WideShapes Go.ChangeAt Go.RowKit
open Go.ChangeMaps (open_string shut_string)
set_option linter.unusedVariables false

theorem own : ownKnob Yba.prog.godebug = none := by kernel_rfl
theorem laidOut : laidOutB Yba.prog = true := by kernel_rfl

/-- What the walk is told of the steps that came in: their numbers fit, and lie two by two behind the slice's address. -/
def IsSteps (w : World) (a : Option Addr) (len : Nat) (gp : Nat → Int) (sz : Nat → Nat) : Prop :=
  (∀ i, i < len → -32768 ≤ gp i ∧ gp i ≤ 32767 ∧ sz i ≤ 65535) ∧
  (0 < len → ∃ b off : Nat, a = some ⟨b, off, none⟩ ∧ b < w.heap.size ∧ ∀ j, j < len → w.cell? ⟨b, off + j * 2, none⟩ = some (.int .i16 (gp j)) ∧ w.cell? ⟨b, off + j * 2 + 1, none⟩ = some (.int .u16 (sz j : Nat)))

theorem steps_of {H : Type} {enc : TypeId × Value → H} {w : World} {a : Option Addr} {len cap fuel : Nat} {x : DataW H × List MemPlace} (hf : DataW.trod enc Yba.prog w 0 (fun _ => true) true fuel 22 [.slice a len cap] = some x) : ∃ gp sz, IsSteps w a len gp sz := by
  rcases Go.Deep.open_slice_pairs Yba.underlying22 Yba.underlying100 (by kernel_rfl) rfl rfl (by kernel_rfl) (by kernel_rfl) hf with ⟨hcs, _⟩ | ⟨ad, l, c, m, n, V0, V1, D0, D1, P0, P1, hcs, _, hl, _, hm, _, hx⟩
  · simp at hcs
    obtain ⟨_, rfl, _⟩ := hcs
    exact ⟨fun _ => 0, fun _ => 0, fun i hi => by omega, fun h => by omega⟩
  · simp at hcs hm
    obtain ⟨rfl, rfl, rfl⟩ := hcs
    subst hm
    have each : ∀ i, i < len → ∃ y z : Int, V0 i = .int .i16 y ∧ V1 i = .int .u16 z ∧ -32768 ≤ y ∧ y ≤ 32767 ∧ 0 ≤ z ∧ z ≤ 65535 := fun i hi => by
      obtain ⟨_, _, t0, t1⟩ := hx i (by omega)
      obtain ⟨y, e0, _, wy⟩ := DataW.trod_int Yba.underlying97 t0
      obtain ⟨z, e1, _, wz⟩ := DataW.trod_int Yba.underlying98 t1
      simp at e0 e1
      simp [Lit.wf, IntKind.min, IntKind.max, IntKind.signed, IntKind.bits] at wy wz
      exact ⟨y, z, e0, e1, by omega, by omega, by omega, by omega⟩
    refine ⟨fun i => intOf (V0 i), fun i => (intOf (V1 i)).toNat, fun i hi => ?_, fun h => ?_⟩
    · obtain ⟨y, z, e0, e1, h1, h2, h3, h4⟩ := each i hi
      simp only [e0, e1, intOf]
      omega
    · obtain ⟨b, off, spot⟩ := ad
      have hspot : spot = none := by simpa [Addr.add] using World.cell?_spot (hx 0 (by omega)).1
      subst hspot
      refine ⟨b, off, rfl, World.block_lt_of_cell? w _ (hx 0 (by omega)).1, fun j hj => ?_⟩
      obtain ⟨g0, g1, _, _⟩ := hx j (by omega)
      obtain ⟨y, z, e0, e1, h1, h2, h3, h4⟩ := each j hj
      rw [Addr.add_lit] at g0 g1
      rw [e0] at g0
      rw [e1] at g1
      simp only [e0, e1, intOf]
      refine ⟨g0, ?_⟩
      rw [show ((z.toNat : Nat) : Int) = z by omega]
      exact g1

theorem walk (a0 : Option Addr) (len0 cap0 : Nat) (gp : Nat → Int) (sz : Nat → Nat) (a1 : Int) (w : World) (w0 : IsSteps w a0 len0 gp sz) (w1 : (Lit.int .u8 a1).wf = true) :
    Calls Yba.prog 4 #[.slice a0 len0 cap0, .int .u8 a1] w fun e w' => e = .returned (.bool true) ∧ Below w.heap.size w w' := by
  by_cases hl : 1024 < len0
  · exact StopsLaw.walk_long a0 len0 cap0 a1 w hl
  · exact StopsLaw.walk_short a0 len0 cap0 gp sz a1 w (by omega) (bounds_u8 w1).1 (bounds_u8 w1).2 w0.1 w0.2

/-! ### THE ROW's STEP: WRITTEN OUT: LEAVE IT -/
set_option maxRecDepth 100000 in
theorem lifted (os : Os) (started : os.Started) (H : Type) (enc : TypeId × Value → H) :
    ReturnsInHanded {} Yba.checked os 4 .any (Rows.lawS1058AStopsSpec.pre6 enc Yba.prog Yba.f4 Rows.lawS1058AStopsRow.domain false) (Rows.lawS1058AStopsSpec.post enc Yba.prog Yba.f4 false true false false) := by
  refine returnsInHanded_of_change (C := Yba.checked) own started (by kernel_rfl) Yba.func4
    (ChangeSpec.witness6 (enc := enc) (C := Yba.checked) false ⟨#[], #[.slice none 0 0, .int .u8 0], []⟩ 8 (by kernel_rfl) (by kernel_rfl) (by kernel_rfl) (by kernel_rfl)) ?_
  intro W base args ds gs before hval0 hW hcnd _
  have hval : ∀ (j : Nat) t v, Yba.f4.params[j]? = some t → args[j]? = some v → Value.okWide Yba.prog W .any base t v := hval0
  have hW' := hW
  obtain ⟨p, q, hA0, hV, rfl, hfz, hnd⟩ := hW
  have hA : DataW.TrodAll enc Yba.prog W 0 (fun _ => true) true Yba.f4.params.toList args.toList ds p := hA0
  rw [Yba.params4] at hA hval
  obtain ⟨v0, vs0, d0, ds0, p0, q0, hargs, rfl, rfl, h0, r0⟩ := trodAll_cons hA
  obtain ⟨v1, vs1, d1, ds1, p1, q1, rfl, rfl, rfl, h1, r1⟩ := trodAll_cons r0
  obtain ⟨rfl, rfl, rfl⟩ := trodAll_nil r1
  obtain rfl : args = #[v0, v1] := by cases args; simp_all
  obtain ⟨rfl, rfl⟩ := trodVars_none hV
  obtain ⟨a0, len0, cap0, rfl⟩ := okWide_slice Yba.underlying22 (hval 0 22 v0 rfl rfl)
  have k0 := h0
  have lt0 : ∀ x ∈ p0, x.block < W.heap.size := by obtain ⟨m, hm⟩ := k0; exact DataW.trod_lt m _ _ _ hm
  obtain ⟨gp, sz, w0⟩ : ∃ gp sz, IsSteps W a0 len0 gp sz := by
    obtain ⟨fuel, hf⟩ := h0
    exact steps_of hf
  obtain ⟨a1, rfl, rfl, rfl, w1⟩ := open_int Yba.underlying5 (hval 1 5 v1 rfl rfl) h1
  clear hA0 hval0
  refine (walk a0 len0 cap0 gp sz a1 W w0 w1).mono fun e W' ⟨he, bel⟩ => ?_
  subst he
  exact ⟨_, rfl, _, _, _, [], _, [], hW', trodAll_mk1 (shut_bool Yba.underlying4 _), (trodAll_cons_mk (Below.trod laidOut (by kernel_rfl) (of_decide_eq_true (by kernel_rfl)) k0 bel lt0) (trodAll_cons_mk (shut_int Yba.underlying5 w1) trodAll_mk0)), rfl, bel.frame _, fun h => by cases h⟩

theorem over : Rows.lawS1058AStopsRow.holds Yba.pinned (OpenSpec.ofChange Rows.lawS1058AStopsSpec) :=
  OpenClaim.holds_of_wide 4 Yba.f4 rfl rfl rfl rfl rfl rfl rfl ⟨rfl, rfl, rfl, rfl, rfl⟩ rfl rfl rfl rfl rfl (by kernel_rfl) Yba.func4 (by kernel_rfl)
    (of_decide_eq_true (by kernel_rfl)) (by unfold Func.isWrapper; first | (rw [if_pos (by decide +kernel)]; kernel_rfl) | (rw [if_neg (by decide +kernel)]; exact ⟨rfl, rfl⟩))
    (fun os started H enc _ => lifted os started H enc)

/-- ████ THE STATEMENT ████ -/
theorem proved : Rows.LawS1058AStopsSaid := over
#print axioms proved
end Go.Proofs.Ybulkuws.lawS1058AStops
