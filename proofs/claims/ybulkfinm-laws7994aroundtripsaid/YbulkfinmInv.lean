import Derived.Test.YbulkfinmGive
namespace Go.Proofs.Ybulkfinm
open Go.RowKit

/-- after k rounds: a source that has an entry holds 1 to k connections; others counts those of the source that is not loopback -/
def Inv (M : Bool → Option Int) (o : Int) (k : Nat) : Prop := (∀ a x, M a = some x → 1 ≤ x ∧ x ≤ k) ∧ o = (M false).getD 0

theorem wrap_id (x : Int) (h1 : -9223372036854775808 ≤ x) (h2 : x ≤ 9223372036854775807) : wrap64 x = x := by unfold wrap64; omega
theorem set_at (M : Bool → Option Int) (a b : Bool) (v : Option Int) : set M a v b = if b = a then v else M b := rfl

theorem Inv.start : Inv (fun _ => none) 0 0 := ⟨fun _ _ h => (by cases h), rfl⟩
theorem Inv.mono {M : Bool → Option Int} {o : Int} {k : Nat} (h : Inv M o k) : Inv M o (k + 1) := ⟨fun a x e => by have := h.1 a x e; omega, h.2⟩
theorem Inv.range {M : Bool → Option Int} {o : Int} {k : Nat} (h : Inv M o k) (a : Bool) : 0 ≤ (M a).getD 0 ∧ (M a).getD 0 ≤ k := by
  cases e : M a with
  | none => simp
  | some x => have := h.1 a x e; simp; omega
theorem Inv.take {M : Bool → Option Int} {o : Int} {k : Nat} (h : Inv M o k) (hk : k ≤ 65536) (a : Bool) : Inv (set M a (some (wrap64 ((M a).getD 0 + 1)))) (if a then o else wrap64 (o + 1)) (k + 1) := by
  have hr := h.range a
  rw [wrap_id ((M a).getD 0 + 1) (by omega) (by omega)]
  refine ⟨fun b x e => ?_, ?_⟩
  · rw [set_at] at e
    split at e
    · injection e; omega
    · have := h.1 b x e; omega
  · cases a
    · have ho := h.2
      simp only [Bool.false_eq_true, if_false, set_same, Option.getD_some]
      rw [ho, wrap_id _ (by omega) (by omega)]
    · simp only [if_true]
      rw [show set M true (some ((M true).getD 0 + 1)) false = M false from set_other M true _]; exact h.2
theorem Inv.give {M : Bool → Option Int} {o : Int} {k : Nat} (h : Inv M o k) (hk : k ≤ 65536) (a : Bool) (hg : 0 < (M a).getD 0) : Inv (gave M a) (if a then o else wrap64 (o - 1)) (k + 1) := by
  have hr := h.range a
  have e1 : wrap64 ((M a).getD 0 - 1) = (M a).getD 0 - 1 := wrap_id _ (by omega) (by omega)
  have hv : ∀ v : Option Int, v.getD 0 = (M a).getD 0 - 1 → (∀ x, v = some x → 1 ≤ x ∧ x ≤ k + 1) → Inv (set M a v) (if a then o else wrap64 (o - 1)) (k + 1) := by
    intro v hv hx
    refine ⟨fun b x e => ?_, ?_⟩
    · rw [set_at] at e
      split at e
      · have := hx x e; omega
      · have := h.1 b x e; omega
    · cases a
      · have ho := h.2
        simp only [Bool.false_eq_true, if_false, set_same]
        rw [hv, ho, e1]
      · simp only [if_true]
        rw [show set M true v false = M false from set_other M true _]; exact h.2
  unfold gave
  rw [e1]
  split
  · rename_i h0
    exact hv none (by simp; omega) (fun x e => by cases e)
  · exact hv _ rfl (fun x e => by injection e; omega)
/-- a take that is let through and given back leaves all as it was -/
theorem Inv.back {M : Bool → Option Int} {o : Int} {k : Nat} (h : Inv M o k) (hk : k ≤ 65536) (a : Bool) :
    gave (set M a (some (wrap64 ((M a).getD 0 + 1)))) a = M ∧ (if a then (if a then o else wrap64 (o + 1)) else wrap64 ((if a then o else wrap64 (o + 1)) - 1)) = o := by
  have hr := h.range a
  have e0 : wrap64 ((M a).getD 0 + 1) = (M a).getD 0 + 1 := wrap_id _ (by omega) (by omega)
  refine ⟨?_, ?_⟩
  · unfold gave
    rw [set_same, Option.getD_some, e0, wrap_id ((M a).getD 0 + 1 - 1) (by omega) (by omega), set_set, set_set]
    funext b
    cases e : M a with
    | none =>
      simp only [Option.getD_none]
      rw [if_pos (by omega), set_at]
      split
      · rename_i hb; rw [hb, e]
      · rfl
    | some x =>
      have := h.1 a x e
      simp only [Option.getD_some]
      rw [if_neg (by omega), set_at]
      split
      · rename_i hb; rw [hb, e]; congr 1; omega
      · rfl
  · cases a
    · have ho := h.2
      have hr' := h.range false
      simp only [Bool.false_eq_true, if_false]
      rw [wrap_id (o + 1) (by omega) (by omega), wrap_id _ (by omega) (by omega)]; omega
    · simp
end Go.Proofs.Ybulkfinm
