import Derived.Test.YbulkfhvsLife
namespace Go.Proofs.Ybulkfhvs
open Go.RowKit

theorem ret_bool {a : Bool} (h : a = true) : Ending.returned (.bool a) = .returned (.bool true) := by rw [h]

set_option maxRecDepth 100000 in
set_option maxHeartbeats 400000 in
theorem law_none (a L : Int) (h0 : -9223372036854775808 ≤ a) (h1 : a ≤ 9223372036854775807) (hL : L ≤ 0) (w : World) :
    Calls Yba.prog 3 #[.int .i64 a, .int .i64 L] w fun e w' => e = .returned (.bool true) ∧ Grown w w' := by
  have hp : ∀ w : World, Sem.run Yba.prog (Op.equalIn 9999 40 (.pointer none) (.pointer none)) w = .ok true w := fun _ => by kernel_rfl
  go_enter Yba.func3, Yba.ntmps3
  go_wp2_with fail
  refine (add_any 0 0 a _ (by omega) (by omega) (by omega) (by omega) h0 h1).mono ?_
  rintro e' w' ⟨rfl, c1, c2, rfl⟩
  go_wp2_with fail
  refine (life_none _ _ L _ _ _ hL (by simp; omega) (by simp [go_sem])).mono ?_
  rintro e' w' ⟨rfl, c3, c4, rfl⟩
  go_wp2_with fail
  refine (zero_any _).mono ?_
  rintro e' w' ⟨rfl, c5, rfl⟩
  go_wp2_with fail
  go_ret
  exact ⟨rfl, ((((((((((Grown.refl _).alloc _ _).alloc _ _).alloc _ _).alloc _ _).alloc _ _).alloc _ _).alloc _ _).alloc _ _).alloc _ _)⟩

set_option maxHeartbeats 400000 in
theorem law_some (a L : Int) (h0 : -9223372036854775808 ≤ a) (h1 : a ≤ 9223372036854775807) (hL : 0 < L) (hL1 : L ≤ 9223372036854775807) (w : World) :
    Calls Yba.prog 3 #[.int .i64 a, .int .i64 L] w fun e w' => e = .returned (.bool true) ∧ Grown w w' := by
  by_cases g : 1000000000 ≤ a % 1000000000 + L % 1000000000
  all_goals
    go_enter Yba.func3, Yba.ntmps3
    go_wp2_with fail
    refine (add_any 0 0 a _ (by omega) (by omega) (by omega) (by omega) h0 h1).mono ?_
    rintro e' w' ⟨rfl, c1, c2, rfl⟩
    go_wp2_with fail
    refine (life_some _ _ L _ _ _ hL hL1 (by omega) (by omega) (by omega) (by omega) (by simp; omega) (by simp [go_sem])).mono ?_
    rintro e' w' ⟨rfl, c3, c4, c5, c6, rfl⟩
    go_wp2_with fail
    refine (floor_any a _ h0 h1).mono ?_
    rintro e' w' ⟨rfl, rfl⟩
    go_wp2_with fail
    refine (floor_any L _ (by omega) hL1).mono ?_
    rintro e' w' ⟨rfl, rfl⟩
    go_wp2_with fail
    refine (unix_any _ _ _ (by omega) (by omega) (by omega) (by omega)).mono ?_
    rintro e' w' ⟨rfl, c7, rfl⟩
    go_wp2_with fail
    refine (nano_any _ _ _ (by omega) (by omega)).mono ?_
    rintro e' w' ⟨rfl, c8, rfl⟩
    go_wp2_with fail
    go_ret
    exact ⟨ret_bool (beq_iff_eq.mpr (by omega)), (((((((((((((Grown.refl _).alloc _ _).alloc _ _).alloc _ _).alloc _ _).alloc _ _).alloc _ _).alloc _ _).alloc _ _).alloc _ _).alloc _ _).alloc _ _).alloc _ _).drew⟩
end Go.Proofs.Ybulkfhvs
