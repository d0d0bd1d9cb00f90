import Derived.Test.YbulkfhvsRows
import Derived.Test.YbulkfhvsPlain
import Derived.WalkKit
import Derived.WalkSpells
import Derived.WalkLawsBesides
import Derived.RowKit3
namespace Go.Proofs.Ybulkfhvs
open Go.RowKit

theorem ret_int {k : IntKind} {a b : Int} (h : a = b) : Ending.returned (.int k a) = .returned (.int k b) := by rw [h]
theorem wrap64_id (x : Int) (h1 : -9223372036854775808 ≤ x) (h2 : x ≤ 9223372036854775807) : wrap64 x = x := by
  unfold wrap64; omega

set_option maxHeartbeats 400000 in
theorem nsec_any (n : Int) (b o : Nat) (w : World) (h0 : 0 ≤ n) (h1 : n < 1000000000) (hc : w.cell? ⟨b, o, none⟩ = some (.int .u64 n)) :
    Calls Yba.prog 11 #[.pointer (some ⟨b, o, none⟩)] w fun e w' => e = .returned (.int .i32 n) ∧ w' = w := by
  have e1 := and30 n h0 h1
  go_enter Yba.func11, Yba.ntmps11
  go_wp2
  go_ret
  exact ⟨rfl, rfl⟩

set_option maxHeartbeats 400000 in
theorem floor_any (x : Int) (w : World) (h0 : -9223372036854775808 ≤ x) (h1 : x ≤ 9223372036854775807) :
    Calls Yba.prog 7 #[.int .i64 x] w fun e w' => e = .returned (.tuple #[.int .i64 (x / 1000000000), .int .i64 (x % 1000000000)]) ∧ w' = w := by
  by_cases h : x.tmod 1000000000 < 0
  · obtain ⟨e1, e2⟩ := floor_neg x h
    have E1 : Hid (wrap64 (wrap64 (x.tdiv 1000000000) - 1) = x / 1000000000) := by
      show _ = _
      rw [wrap64_id (x.tdiv 1000000000) (by omega) (by omega), wrap64_id _ (by omega) (by omega)]; exact e1
    have E2 : Hid (wrap64 (x.tmod 1000000000 + 1000000000) = x % 1000000000) := by
      show _ = _
      rw [wrap64_id _ (by omega) (by omega)]; exact e2
    clear e1 e2 h0 h1
    go_enter Yba.func7, Yba.ntmps7
    go_wp2
    go_ret2
    rw [← E1.out, ← E2.out]
    exact ⟨rfl, rfl⟩
  · obtain ⟨e1, e2⟩ := floor_pos x (by omega)
    have E1 : Hid (wrap64 (x.tdiv 1000000000) = x / 1000000000) := by
      show _ = _
      rw [wrap64_id (x.tdiv 1000000000) (by omega) (by omega)]; exact e1
    have E2 : Hid (x.tmod 1000000000 = x % 1000000000) := e2
    clear e1 e2 h0 h1
    go_enter Yba.func7, Yba.ntmps7
    go_wp2
    go_ret2
    rw [← E1.out, ← E2.out]
    exact ⟨rfl, rfl⟩

set_option maxHeartbeats 400000 in
theorem addSec_any (n e d : Int) (b : Nat) (w : World) (h0 : 0 ≤ n) (h1 : n < 1000000000) (he0 : -20000000000 ≤ e) (he1 : e ≤ 20000000000) (hd0 : -20000000000 ≤ d) (hd1 : d ≤ 20000000000)
    (hc : w.cell? ⟨b, 0, none⟩ = some (.int .u64 n)) (hc1 : w.cell? ⟨b, 1, none⟩ = some (.int .i64 e)) (hf1 : w.frozen? ⟨b, 1, none⟩ = false) :
    Calls Yba.prog 12 #[.pointer (some ⟨b, 0, none⟩), .int .i64 d] w fun e' w' => e' = .returned (.tuple #[]) ∧ w' = w.setCell ⟨b, 1, none⟩ (.int .i64 (e + d)) := by
  have e1 := and63 n h0 h1
  by_cases hd : 0 < d
  · have g1 : e < e + d := by omega
    go_enter Yba.func12, Yba.ntmps12
    go_wp2
    go_end0
    exact ⟨rfl, rfl⟩
  · have g1 : ¬ e < e + d := by omega
    go_enter Yba.func12, Yba.ntmps12
    go_wp2
    go_end0
    exact ⟨rfl, rfl⟩

set_option maxHeartbeats 1000000 in
theorem add_any (n e d : Int) (w : World) (h0 : 0 ≤ n) (h1 : n < 1000000000) (he0 : -10000000000 ≤ e) (he1 : e ≤ 10000000000) (hd0 : -9223372036854775808 ≤ d) (hd1 : d ≤ 9223372036854775807) :
    Calls Yba.prog 4 #[.agg #[.int .u64 n, .int .i64 e, .pointer none], .int .i64 d] w fun e' w' =>
      e' = .returned (.agg #[.int .u64 ((n + d) % 1000000000), .int .i64 (e + (n + d) / 1000000000), .pointer none]) ∧ ∃ c1 c2 : Array Value, w' = (w.alloc (.cells c1 42)).alloc (.cells c2 42) := by
  obtain ⟨q, r, hq, hr, hd, hr0, hr1⟩ := parts d
  have E1 : Hid ((n + d) = n + r + 1000000000 * q) := by show _ = _; omega
  have hq0 : -9300000000 ≤ q := by omega
  have hq1 : q ≤ 9300000000 := by omega
  clear hd hd0 hd1
  by_cases g1 : 1000000000 ≤ n + r
  · have e1 := and63 (n + r - 1000000000) (by omega) (by omega)
    have e2 := andNot30 n h0 h1
    have e3 := or0 (n + r - 1000000000) (by omega) (by omega)
    have E2 : Hid ((n + d) % 1000000000 = n + r - 1000000000 ∧ e + (n + d) / 1000000000 = e + (q + 1)) := by show _ ∧ _; rw [E1.out]; omega
    go_enter Yba.func4, Yba.ntmps4
    go_wp2_with fail
    refine (nsec_any n _ _ _ h0 h1 (by simp [go_sem])).mono ?_
    rintro e' w' ⟨rfl, rfl⟩
    go_wp2_with fail
    refine (addSec_any (n + r - 1000000000) e (q + 1) _ _ (by omega) (by omega) (by omega) (by omega) (by omega) (by omega) (by simp [go_sem]) (by simp [go_sem]) (by simp [go_sem])).mono ?_
    rintro e' w' ⟨rfl, rfl⟩
    go_wp2_with fail
    rw [E2.out.1, E2.out.2]
    exact bodyPost_ret (v := .agg #[.int .u64 (n + r - 1000000000), .int .i64 (e + (q + 1)), .pointer none]) (by simp [results, Yba.results4, go_sem]) rfl ⟨rfl, _, _, rfl⟩
  · by_cases g2 : n + r < 0
    · have e1 := and63 (n + r + 1000000000) (by omega) (by omega)
      have e2 := andNot30 n h0 h1
      have e3 := or0 (n + r + 1000000000) (by omega) (by omega)
      have E2 : Hid ((n + d) % 1000000000 = n + r + 1000000000 ∧ e + (n + d) / 1000000000 = e + (q - 1)) := by show _ ∧ _; rw [E1.out]; omega
      go_enter Yba.func4, Yba.ntmps4
      go_wp2_with fail
      refine (nsec_any n _ _ _ h0 h1 (by simp [go_sem])).mono ?_
      rintro e' w' ⟨rfl, rfl⟩
      go_wp2_with fail
      refine (addSec_any (n + r + 1000000000) e (q - 1) _ _ (by omega) (by omega) (by omega) (by omega) (by omega) (by omega) (by simp [go_sem]) (by simp [go_sem]) (by simp [go_sem])).mono ?_
      rintro e' w' ⟨rfl, rfl⟩
      go_wp2_with fail
      rw [E2.out.1, E2.out.2]
      exact bodyPost_ret (v := .agg #[.int .u64 (n + r + 1000000000), .int .i64 (e + (q - 1)), .pointer none]) (by simp [results, Yba.results4, go_sem]) rfl ⟨rfl, _, _, rfl⟩
    · have e1 := and63 (n + r) (by omega) (by omega)
      have e2 := andNot30 n h0 h1
      have e3 := or0 (n + r) (by omega) (by omega)
      have E2 : Hid ((n + d) % 1000000000 = n + r ∧ e + (n + d) / 1000000000 = e + (q)) := by show _ ∧ _; rw [E1.out]; omega
      go_enter Yba.func4, Yba.ntmps4
      go_wp2_with fail
      refine (nsec_any n _ _ _ h0 h1 (by simp [go_sem])).mono ?_
      rintro e' w' ⟨rfl, rfl⟩
      go_wp2_with fail
      refine (addSec_any (n + r) e (q) _ _ (by omega) (by omega) (by omega) (by omega) (by omega) (by omega) (by simp [go_sem]) (by simp [go_sem]) (by simp [go_sem])).mono ?_
      rintro e' w' ⟨rfl, rfl⟩
      go_wp2_with fail
      rw [E2.out.1, E2.out.2]
      exact bodyPost_ret (v := .agg #[.int .u64 (n + r), .int .i64 (e + (q)), .pointer none]) (by simp [results, Yba.results4, go_sem]) rfl ⟨rfl, _, _, rfl⟩
end Go.Proofs.Ybulkfhvs
