/-
  THE PROOF OF 'Rows.LawS7993AWholeSaid': the frame after the shells that the guide's own program writes (proof-skeleton.mjs), turned by hand to a slice of structs of two fields.
-/
import Derived.Test.YbulkfimyRows
import Derived.Test.YbulkfimyLaw0
import Derived.Test.YbulkfimyLaw
import Derived.WalkKit
import Derived.ProofKit
import Derived.OpenShut
import Derived.ShutString
import Derived.ChangeOld
import Derived.Below
import Derived.Deep.SlicePairs
namespace Go.Proofs.Ybulkfimy.lawS7993AWhole
open Go.ChangeShapes Go.WideShapes Go.ChangeAt Go.RowKit Go.Deep
set_option linter.unusedVariables false

theorem own : ownKnob Yba.prog.godebug = none := by kernel_rfl
theorem laidOut : laidOutB Yba.prog = true := by kernel_rfl

/-- what the walk is told of the slice that came in -/
def IsPairs (w : World) (a : Option Addr) (len cap : Nat) (S : Nat → ByteArray) (C : Nat → Int) : Prop :=
  (a = none ∧ len = 0 ∧ cap = 0) ∨
  ∃ x, a = some x ∧ ∀ i, i < len → w.cell? (x.add (i * 2)) = some (.string (S i)) ∧ w.cell? (x.add (i * 2 + 1)) = some (.int .u64 (C i))

theorem walk (a0 : Option Addr) (len0 cap0 : Nat) (S : Nat → ByteArray) (C : Nat → Int) (w : World) (w0 : IsPairs w a0 len0 cap0 S C) :
    Calls Yba.prog 3 #[.slice a0 len0 cap0] w fun e w' => e = .returned (.bool true) ∧ Below w.heap.size w w' := by
  by_cases hb : 1048576 < (len0 : Int)
  · exact law_big a0 len0 cap0 w hb
  rcases w0 with ⟨rfl, rfl, rfl⟩ | ⟨x, rfl, hc⟩
  · exact law_nil w
  by_cases h0 : len0 = 0
  · subst h0; exact law_empty x cap0 w
  obtain ⟨b, off, spot⟩ := x
  have hspot : spot = none := by simpa [Addr.add] using World.cell?_spot (hc 0 (by omega)).1
  subst hspot
  refine law_some len0 cap0 b off S C w (by omega) (by omega) fun i hi => ⟨?_, ?_⟩
  · have := (hc i hi).1; rwa [add_plain] at this
  · have := (hc i hi).2; rw [add_plain] at this; rwa [Nat.add_assoc]

set_option maxRecDepth 100000 in
theorem lifted (os : Os) (started : os.Started) (H : Type) (enc : TypeId × Value → H) :
    ReturnsInHanded {} Yba.checked os 3 .any (Rows.lawS7993AWholeSpec.pre6 enc Yba.prog Yba.f3 Rows.lawS7993AWholeRow.domain false) (Rows.lawS7993AWholeSpec.post enc Yba.prog Yba.f3 false true false false) := by
  refine returnsInHanded_of_change (C := Yba.checked) own started (by kernel_rfl) Yba.func3
    (ChangeSpec.witness6 (enc := enc) (C := Yba.checked) false ⟨#[], #[.slice none 0 0], []⟩ 8 (by kernel_rfl) (by kernel_rfl) (by kernel_rfl) (by kernel_rfl)) ?_
  intro W base args ds gs before hval0 hW hcnd _
  have hval : ∀ (j : Nat) t v, Yba.f3.params[j]? = some t → args[j]? = some v → Value.okWide Yba.prog W .any base t v := hval0
  have hW' := hW
  obtain ⟨p, q, hA0, hV, rfl, hfz, hnd⟩ := hW
  have hA : DataW.TrodAll enc Yba.prog W 0 (fun _ => true) true Yba.f3.params.toList args.toList ds p := hA0
  rw [Yba.params3] at hA hval
  obtain ⟨v0, vs0, d0, ds0, p0, q0, hargs, rfl, rfl, h0, r0⟩ := trodAll_cons hA
  obtain ⟨rfl, rfl, rfl⟩ := trodAll_nil r0
  obtain rfl : args = #[v0] := by cases args; simp_all
  obtain ⟨rfl, rfl⟩ := trodVars_none hV
  obtain ⟨a0, len0, cap0, rfl⟩ := okWide_slice Yba.underlying22 (hval 0 22 v0 rfl rfl)
  have k0 := h0
  have lt0 : ∀ x ∈ p0, x.block < W.heap.size := by obtain ⟨m, hm⟩ := k0; exact DataW.trod_lt m _ _ _ hm
  obtain ⟨S, C, w0⟩ : ∃ S C, IsPairs W a0 len0 cap0 S C := by
    obtain ⟨fuel, hf⟩ := h0
    rcases open_slice_pairs Yba.underlying22 Yba.underlying26 (by kernel_rfl) rfl rfl (by kernel_rfl) (by kernel_rfl) hf with ⟨hcs, _⟩ | ⟨x, l, c, m, n, V0, V1, D0, D1, P0, P1, hcs, _, hl, hm, hmm, _, hx⟩
    · simp [Value.cells] at hcs
      obtain ⟨rfl, rfl, rfl⟩ := hcs
      exact ⟨fun _ => ⟨#[]⟩, fun _ => 0, .inl ⟨rfl, rfl, rfl⟩⟩
    · simp [Value.cells] at hcs
      obtain ⟨rfl, rfl, rfl⟩ := hcs
      have hlm : len0 ≤ m := by rw [hmm]; simpa using hl
      have each : ∀ i, i < len0 → ∃ q : ByteArray × Int, V0 i = .string q.1 ∧ V1 i = .int .u64 q.2 := by
        intro i hi
        obtain ⟨_, _, g0, g1⟩ := hx i (by omega)
        obtain ⟨s, e0, _⟩ := DataW.trod_string Yba.underlying9 g0
        obtain ⟨z, e1, _⟩ := DataW.trod_int Yba.underlying24 g1
        exact ⟨(s, z), by simpa using e0, by simpa using e1⟩
      obtain ⟨q, hq⟩ := choose_lt each
      refine ⟨fun i => (q i).1, fun i => (q i).2, .inr ⟨_, rfl, fun i hi => ?_⟩⟩
      obtain ⟨c0, c1, _, _⟩ := hx i (by omega)
      exact ⟨by rw [c0, (hq i hi).1], by rw [c1, (hq i hi).2]⟩
  clear hA0 hval0
  refine (walk a0 len0 cap0 S C W w0).mono fun e W' ⟨he, bel⟩ => ?_
  subst he
  exact ⟨_, rfl, _, _, _, [], _, [], hW', trodAll_mk1 (shut_bool Yba.underlying4 _), (trodAll_cons_mk (Below.trod laidOut (by kernel_rfl) (of_decide_eq_true (by kernel_rfl)) k0 bel lt0) trodAll_mk0), rfl, bel.frame _, fun h => by cases h⟩

theorem over : Rows.lawS7993AWholeRow.holds Yba.pinned (OpenSpec.ofChange Rows.lawS7993AWholeSpec) :=
  OpenClaim.holds_of_wide 3 Yba.f3 rfl rfl rfl rfl rfl rfl rfl ⟨rfl, rfl, rfl, rfl, rfl⟩ rfl rfl rfl rfl rfl (by kernel_rfl) Yba.func3 (by kernel_rfl)
    (of_decide_eq_true (by kernel_rfl)) (by unfold Func.isWrapper; first | (rw [if_pos (by decide +kernel)]; kernel_rfl) | (rw [if_neg (by decide +kernel)]; exact ⟨rfl, rfl⟩))
    (fun os started H enc _ => lifted os started H enc)

/-- THE STATEMENT -/
theorem proved : Rows.LawS7993AWholeSaid := over
#print axioms proved
end Go.Proofs.Ybulkfimy.lawS7993AWhole
