import Derived.Test.YbulkfhvsTime
import Derived.Deep.RegionWith
namespace Go.Proofs.Ybulkfhvs
open Go.RowKit

set_option maxHeartbeats 400000 in
theorem life_none (n e L : Int) (b : Nat) (v0 : Value) (w : World) (hL : L ≤ 0) (hb : b < w.heap.size) (hc : w.cell? ⟨b, 7, none⟩ = some (.int .i64 L)) :
    Calls Yba.prog 5 #[.pointer (some ⟨b, 0, none⟩), .agg #[v0, .int .u64 n, .int .i64 e, .pointer none]] w fun e' w' =>
      e' = .returned (.agg #[.int .u64 0, .int .i64 0, .pointer none]) ∧ ∃ c1 c2 : Array Value, w' = (w.alloc (.cells c1 54)).alloc (.cells c2 42) := by
  go_enter Yba.func5, Yba.ntmps5
  go_wp2
  exact bodyPost_ret (v := .agg #[.int .u64 0, .int .i64 0, .pointer none]) (by simp [results, Yba.results5, go_sem]) rfl ⟨rfl, _, _, rfl⟩

set_option maxHeartbeats 400000 in
theorem life_some (n e L : Int) (b : Nat) (v0 : Value) (w : World) (hL : 0 < L) (hL1 : L ≤ 9223372036854775807) (h0 : 0 ≤ n) (h1 : n < 1000000000) (he0 : -10000000000 ≤ e) (he1 : e ≤ 10000000000)
    (hb : b < w.heap.size) (hc : w.cell? ⟨b, 7, none⟩ = some (.int .i64 L)) :
    Calls Yba.prog 5 #[.pointer (some ⟨b, 0, none⟩), .agg #[v0, .int .u64 n, .int .i64 e, .pointer none]] w fun e' w' =>
      e' = .returned (.agg #[.int .u64 ((n + L) % 1000000000), .int .i64 (e + (n + L) / 1000000000), .pointer none]) ∧
      ∃ c1 c2 c3 c4 : Array Value, w' = ((((w.alloc (.cells c1 54)).alloc (.cells c2 42)).alloc (.cells c3 42)).alloc (.cells c4 42)).drew := by
  go_enter Yba.func5, Yba.ntmps5
  go_wp2
  go_region_with (go_at_call 4; refine (add_any n e L _ h0 h1 he0 he1 (by omega) (by omega)).mono ?_; rintro e' w' ⟨rfl, c1, c2, rfl⟩)
  all_goals
    go_wp2
    exact bodyPost_ret (v := .agg #[.int .u64 ((n + L) % 1000000000), .int .i64 (e + (n + L) / 1000000000), .pointer none]) (by simp [results, Yba.results5, go_sem]) rfl ⟨rfl, _, _, _, _, rfl⟩

set_option maxHeartbeats 400000 in
theorem zero_any (w : World) :
    Calls Yba.prog 6 #[.agg #[.int .u64 0, .int .i64 0, .pointer none]] w fun e' w' =>
      e' = .returned (.bool true) ∧ ∃ c1 : Array Value, w' = (w.alloc (.cells c1 42)) := by
  go_enter Yba.func6, Yba.ntmps6
  go_wp2
  go_ret
  exact ⟨rfl, _, rfl⟩

set_option maxHeartbeats 400000 in
theorem nano_any (n e : Int) (w : World) (h0 : 0 ≤ n) (h1 : n < 1000000000) :
    Calls Yba.prog 9 #[.agg #[.int .u64 n, .int .i64 e, .pointer none]] w fun e' w' =>
      e' = .returned (.int .i64 n) ∧ ∃ c1 : Array Value, w' = (w.alloc (.cells c1 42)) := by
  have e1 := and30 n h0 h1
  go_enter Yba.func9, Yba.ntmps9
  go_wp2
  go_ret
  exact ⟨rfl, _, rfl⟩

set_option maxHeartbeats 400000 in
theorem unix_any (n e : Int) (w : World) (h0 : 0 ≤ n) (h1 : n < 1000000000) (he0 : -20000000000 ≤ e) (he1 : e ≤ 20000000000) :
    Calls Yba.prog 8 #[.agg #[.int .u64 n, .int .i64 e, .pointer none]] w fun e' w' =>
      e' = .returned (.int .i64 (e - 62135596800)) ∧ ∃ c1 : Array Value, w' = (w.alloc (.cells c1 42)) := by
  have e1 := and63 n h0 h1
  go_enter Yba.func8, Yba.ntmps8
  go_wp2
  go_ret
  exact ⟨rfl, _, rfl⟩
end Go.Proofs.Ybulkfhvs
