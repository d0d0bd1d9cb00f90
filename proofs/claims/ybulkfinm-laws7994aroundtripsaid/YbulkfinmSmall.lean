import Derived.Test.YbulkfinmStage
import Derived.Test.YbulkfinmLocks
import Derived.Laws.LoneSync
namespace Go.Proofs.Ybulkfinm
open Go.RowKit

set_option maxHeartbeats 400000 in
theorem store_any (b : Nat) (x v : Int) (w : World) (hc : w.cell? ⟨b, 6, none⟩ = some (.int .i64 x)) (hf : w.frozen? ⟨b, 6, none⟩ = false) :
    Calls Yba.prog 5 #[.pointer (some ⟨b, 6, none⟩), .int .i64 v] w fun e w' => e = .returned (.tuple #[]) ∧ w' = w.setCell ⟨b, 6, none⟩ (.int .i64 v) := by
  have hs := run_call_store (P := Yba.prog) Yba.func13 (by kernel_rfl) (by kernel_rfl) (by kernel_rfl) (by kernel_rfl) (k := .i64) (y := v) hc hf
  go_enter Yba.func5, Yba.ntmps5
  go_wp2
  go_end0
  exact ⟨rfl, rfl⟩

set_option maxHeartbeats 400000 in
theorem load_any (b : Nat) (x : Int) (w : World) (hc : w.cell? ⟨b, 6, none⟩ = some (.int .i64 x)) :
    Calls Yba.prog 9 #[.pointer (some ⟨b, 6, none⟩)] w fun e w' => e = .returned (.int .i64 x) ∧ w' = w := by
  have hs := run_call_load (P := Yba.prog) Yba.func16 (by kernel_rfl) (by kernel_rfl) (by kernel_rfl) .i64 (by kernel_rfl) hc
  go_enter Yba.func9, Yba.ntmps9
  go_wp2
  go_ret
  exact ⟨rfl, rfl⟩

set_option maxHeartbeats 400000 in
theorem add_any (b : Nat) (x d : Int) (w : World) (hc : w.cell? ⟨b, 6, none⟩ = some (.int .i64 x)) (hf : w.frozen? ⟨b, 6, none⟩ = false) :
    Calls Yba.prog 18 #[.pointer (some ⟨b, 6, none⟩), .int .i64 d] w fun e w' => e = .returned (.int .i64 (wrap64 (x + d))) ∧ w' = w.setCell ⟨b, 6, none⟩ (.int .i64 (wrap64 (x + d))) := by
  have hs := run_call_add (P := Yba.prog) Yba.func25 (by kernel_rfl) (by kernel_rfl) (by kernel_rfl) .i64 (by kernel_rfl) (y := d) (s := wrap64 (x + d)) hc hf (by simp [go_sem, IntKind.wrap_i64, wrap64])
  go_enter Yba.func18, Yba.ntmps18
  go_wp2
  go_ret
  exact ⟨rfl, rfl⟩

set_option maxHeartbeats 400000 in
theorem try_any (b : Nat) (w : World) (hc : w.cell? ⟨b, 2, none⟩ = some (.int .i32 0)) (hf : w.frozen? ⟨b, 2, none⟩ = false) :
    Calls Yba.prog 10 #[.pointer (some ⟨b, 2, none⟩)] w fun e w' => e = .returned (.bool true) ∧ w' = w.setCell ⟨b, 2, none⟩ (.int .i32 1) := by
  have hd := Go.MuLone.disable Yba.muLib
  have he := Go.MuLone.enable Yba.muLib
  have ha := Go.MuLone.acquire Yba.muLib
  have hcas := run_call_cas_hit (P := Yba.prog) Yba.func23 (by kernel_rfl) (by kernel_rfl) (by kernel_rfl) .i32 (by kernel_rfl) (y := 1) hc hf
  have hc' : (w.setCell ⟨b, 2, none⟩ (.int .i32 1)).cell? ⟨b, 2, none⟩ = some (.int .i32 1) := by simp [go_sem, hc]
  have hcv := run_convert_to_unsafe (P := Yba.prog) (src := 67) (dst := 71) Yba.underlying67 Yba.underlying71 (by kernel_rfl) hc'
  go_enter Yba.func10, Yba.ntmps10
  go_wp2
  go_ret
  exact ⟨rfl, rfl⟩

set_option maxHeartbeats 400000 in
theorem src_any (k : Int) (h0 : 0 ≤ k) (h1 : k ≤ 255) (w : World) :
    Calls Yba.prog 6 #[.int .u8 k] w fun e w' => e = .returned (kb (k % 2 == 0)) ∧ ∃ c1, w' = w.alloc (.cells c1 33) := by
  by_cases h : k % 2 = 0
  · have e1 : (k % 2 == 0) = true := by simpa using h
    go_enter Yba.func6, Yba.ntmps6
    go_wp2
    exact bodyPost_ret (v := kb true) (by simp [results, Yba.results6, go_sem]) rfl ⟨by rw [e1], _, rfl⟩
  · have e1 : (k % 2 == 0) = false := by simpa using h
    go_enter Yba.func6, Yba.ntmps6
    go_wp2
    exact bodyPost_ret (v := kb false) (by simp [results, Yba.results6, go_sem]) rfl ⟨by rw [e1], _, rfl⟩

set_option maxHeartbeats 400000 in
theorem get_any (h : Bool) (n : Int) (w : World) :
    Calls Yba.prog 8 #[.bool h, .int .i64 n] w fun e w' => e = .returned (.int .i64 (if h then n else 0)) ∧ w' = w := by
  cases h
  all_goals
    go_enter Yba.func8, Yba.ntmps8
    go_wp2
    go_ret
    exact ⟨rfl, rfl⟩
end Go.Proofs.Ybulkfinm
