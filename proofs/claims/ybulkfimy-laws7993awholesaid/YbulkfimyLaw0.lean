import Derived.Test.YbulkfimyVecOf
namespace Go.Proofs.Ybulkfimy
open Go.RowKit

theorem copy_none (w : World) (a : Option Addr) (c : Nat) : (Builtin.copy_ #[23, 23] 3 #[.slice none 0 0, .slice a 0 c]).run Yba.prog w = .ok (.int .i64 0) w := by
  obtain ⟨i, hi, _⟩ := info_parts Yba.info28
  cases a <;> simp [Builtin.copy_, run_underlying Yba.underlying23, Builtin.lenOf, Builtin.firstCells, sizeOf, typeInfo, hi, goInt, loadCells, loadCellsFrom]

set_option maxHeartbeats 400000 in
theorem resize_zero (V : Nat) (w : World) (hc0 : w.cell? ⟨V, 0, none⟩ = some (.slice none 0 0)) :
    Calls Yba.prog 5 #[.pointer (some ⟨V, 0, none⟩), .int .i64 0] w fun e w' => e = .returned (.slice none 0 0) ∧ w' = w := by
  go_enter Yba.func5, Yba.ntmps5
  go_wp2
  go_ret
  exact ⟨rfl, rfl⟩

set_option maxHeartbeats 400000 in
theorem vectorOf_zero (a : Option Addr) (c : Nat) (w : World) :
    Calls Yba.prog 4 #[.slice a 0 c] w fun e w' => e = .returned (.agg #[.slice none 0 0, .int .i64 0]) ∧ ∃ c1 c2, w' = (w.alloc (.cells c1 30)).alloc (.cells c2 30) := by
  have hcp := copy_none
  go_enter Yba.func4, Yba.ntmps4
  go_wp2_with fail
  refine (resize_zero _ _ (by simp [go_sem])).mono ?_
  rintro e w' ⟨rfl, rfl⟩
  go_wp2_with fail
  exact bodyPost_ret (v := .agg #[.slice none 0 0, .int .i64 0]) (by simp [results, Yba.results4, go_sem]) rfl ⟨rfl, _, _, rfl⟩

set_option maxHeartbeats 400000 in
set_option maxRecDepth 100000 in
theorem law_big (a : Option Addr) (n cap : Nat) (w : World) (h : 1048576 < (n : Int)) :
    Calls Yba.prog 3 #[.slice a n cap] w fun e w' => e = .returned (.bool true) ∧ Below w.heap.size w w' := by
  go_enter Yba.func3, Yba.ntmps3
  go_wp2
  go_ret
  exact ⟨rfl, Below.refl _ _⟩

set_option maxHeartbeats 400000 in
set_option maxRecDepth 100000 in
theorem law_nil (w : World) :
    Calls Yba.prog 3 #[.slice none 0 0] w fun e w' => e = .returned (.bool true) ∧ Below w.heap.size w w' := by
  have q1 := fun (w : World) (a : Option Addr) (n c n' c' : Nat) => run_neq_slice_nil_any (P := Yba.prog) w 22 26 a n c n' c' Yba.underlying22
  have q2 := fun (w : World) (a : Option Addr) (n c n' c' : Nat) => Lib.run_eql_slice_nil (P := Yba.prog) w 23 28 a n c n' c' Yba.underlying23
  go_enter Yba.func3, Yba.ntmps3
  go_wp2
  refine wp_loop_rounds 1 ?_
  rw [rounds_succ]
  go_wp2_with fail
  refine (vectorOf_zero _ _ _).mono ?_
  rintro e w' ⟨rfl, c1, c2, rfl⟩
  go_wp2_with fail
  refine wp_loop_rounds 1 ?_
  rw [rounds_succ]
  go_wp2_with fail
  go_ret
  exact ⟨rfl, (((Below.refl _ _).alloc (Nat.le_refl _) _).alloc (by simp) _).alloc (by simp; omega) _⟩

set_option maxHeartbeats 400000 in
set_option maxRecDepth 100000 in
theorem law_empty (x : Addr) (cap : Nat) (w : World) :
    Calls Yba.prog 3 #[.slice (some x) 0 cap] w fun e w' => e = .returned (.bool true) ∧ Below w.heap.size w w' := by
  have q1 := fun (w : World) (a : Option Addr) (n c n' c' : Nat) => run_neq_slice_nil_any (P := Yba.prog) w 22 26 a n c n' c' Yba.underlying22
  have q2 := fun (w : World) (a : Option Addr) (n c n' c' : Nat) => Lib.run_eql_slice_nil (P := Yba.prog) w 23 28 a n c n' c' Yba.underlying23
  have hmk : ∀ w : World, (Instr.makeSlice 23 (.int .i64 0) (.int .i64 0)).run Yba.prog w = .ok (.slice (some ⟨w.heap.size, 0, none⟩) 0 0) (w.alloc (.cells (Z 0) 28)) := make_any 0 (by omega)
  go_enter Yba.func3, Yba.ntmps3
  go_wp2
  refine wp_loop_rounds 1 ?_
  rw [rounds_succ]
  go_wp2_with fail
  refine (vectorOf_zero _ _ _).mono ?_
  rintro e w' ⟨rfl, c1, c2, rfl⟩
  go_wp2_with fail
  refine wp_loop_rounds 1 ?_
  rw [rounds_succ]
  go_wp2_with fail
  go_ret
  exact ⟨rfl, ((((Below.refl _ _).alloc (Nat.le_refl _) _).alloc (by simp) _).alloc (by simp; omega) _).alloc (by simp; omega) _⟩
end Go.Proofs.Ybulkfimy
