import Derived.Test.YbulkfimyRows
import Derived.WalkKit
import Derived.WalkSpells
import Derived.WalkLawsBesides
import Derived.Deep.RegionWith
namespace Go.Proofs.Ybulkfimy
open Go.RowKit

theorem Yba.info28 : (Yba.prog.info? 28).map (fun i => (i.zero, i.size, i.bytes)) = some (some (.agg #[.string ⟨#[]⟩, .int .u64 0]), 2, 24) := by kernel_rfl

/-- the cells of n zero entries -/
def Z (n : Nat) : Array Value := madeCells #[.string ⟨#[]⟩, .int .u64 0] (n * 2)

theorem Z_size (n : Nat) : (Z n).size = n * 2 := by simp [Z, madeCells]
theorem Z_even (n i : Nat) (h : i < n) : (Z n)[i * 2]? = some (.string ⟨#[]⟩) := by
  have h1 : i * 2 < n * 2 := by omega
  simp [Z, madeCells, h1]
theorem Z_odd (n i : Nat) (h : i < n) : (Z n)[i * 2 + 1]? = some (.int .u64 0) := by
  have h1 : i * 2 + 1 < n * 2 := by omega
  have h2 : (i * 2 + 1) % 2 = 1 := by omega
  simp [Z, madeCells, h1, h2]
theorem ret_slice {a : Option Addr} {n m c : Nat} (h : n = m) : Ending.returned (.slice a n c) = .returned (.slice a m c) := by rw [h]

theorem make_any (n : Nat) (h : n ≤ 2000000) (w : World) :
    (Instr.makeSlice 23 (.int .i64 (n : Int)) (.int .i64 (n : Int))).run Yba.prog w = .ok (.slice (some ⟨w.heap.size, 0, none⟩) n n) (w.alloc (.cells (Z n) 28)) := by
  obtain ⟨i, hi, hz, hs, hb⟩ := info_parts Yba.info28
  have := run_make (P := Yba.prog) w 23 28 i _ Yba.underlying23 hi hz .i64 .i64 n n (by omega) (Int.le_refl _) (by rw [hb]; omega) (by omega)
  rw [hs] at this
  exact this

set_option maxHeartbeats 400000 in
theorem entries_nil (w : World) :
    Calls Yba.prog 6 #[.agg #[.slice none 0 0, .int .i64 0]] w fun e w' => e = .returned (.slice none 0 0) ∧ ∃ c1, w' = w.alloc (.cells c1 30) := by
  have q := fun (w : World) (a : Option Addr) (n c n' c' : Nat) => Lib.run_eql_slice_nil (P := Yba.prog) w 23 28 a n c n' c' Yba.underlying23
  go_enter Yba.func6, Yba.ntmps6
  go_wp2
  go_ret
  exact ⟨rfl, _, rfl⟩

set_option maxHeartbeats 400000 in
theorem resize_any (n V : Nat) (w : World) (h0 : 1 ≤ n) (h1 : n ≤ 1048576) (hV : V < w.heap.size) (hc0 : w.cell? ⟨V, 0, none⟩ = some (.slice none 0 0)) (hc1 : w.cell? ⟨V, 1, none⟩ = some (.int .i64 0)) (hf : w.frozen? ⟨V, 0, none⟩ = false) :
    Calls Yba.prog 5 #[.pointer (some ⟨V, 0, none⟩), .int .i64 n] w fun e w' => e = .returned (.slice (some ⟨w.heap.size, 2, none⟩) n n) ∧
      ∃ c1, w' = (((w.setCell ⟨V, 0, none⟩ (.slice (some ⟨w.heap.size, 0, none⟩) (n + 1) (n + 1))).alloc (.cells ((Z (n + 1)).setIfInBounds 1 (.int .u64 n)) 28)).alloc (.cells c1 30)).drew := by
  have hmk := make_any (n + 1) (by omega)
  have hz1 : (Z (n + 1))[1]? = some (.int .u64 0) := Z_odd (n + 1) 0 (by omega)
  rw [show ((n + 1 : Nat) : Int) = 1 + (n : Int) from by omega] at hmk
  have hcn := fun (w : World) (a : Addr) (l c : Nat) => run_copy_nil Yba.prog w 23 23 3 28 a l c Yba.underlying23 (by kernel_rfl)
  go_enter Yba.func5, Yba.ntmps5
  go_wp2
  go_region_with (go_at_call 6; refine (entries_nil _).mono ?_; rintro e w' ⟨rfl, c1, rfl⟩)
  all_goals
    go_wp2
    go_ret
    exact ⟨ret_slice (by omega), _, rfl⟩

/-- 'copy(dst, src)' of elements of TWO cells each. -/
theorem run_copy_pairs {P : Program} (w : World) (dT sT ty elem : TypeId) (g o dLen dCap : Nat) (a : Addr) (sLen sCap : Nat) (cur : Array Value) (t : TypeId) (cs : List Value)
    (hu : P.underlying dT = some (.slice elem)) (hs : (P.info? elem).map (·.size) = some 2)
    (hg : w.heap[g]? = some (.cells cur t (0, 0))) (hn : cs.length = Nat.min sLen dLen * 2)
    (hsrc : ∀ j v, cs[j]? = some v → w.cell? (a.add j) = some v) (hfit : o + cs.length ≤ cur.size) (h1 : ∀ v ∈ cs, v.oneCell' = true) :
    (Builtin.copy_ #[dT, sT] ty #[.slice (some ⟨g, o, none⟩) dLen dCap, .slice (some a) sLen sCap]).run P w =
      .ok (goInt (Nat.min sLen dLen)) (w.setRow g (cur.toList.take o ++ cs ++ cur.toList.drop (o + cs.length)).toArray) := by
  have hl := run_loadCells_list (P := P) w a cs hsrc
  have hst := run_storeCells_at P g o t cs 0 cur w hg (by simpa using hfit) h1
  cases hq : P.info? elem with
  | none => simp [hq] at hs
  | some i =>
    have hi : i.size = 2 := by simpa [hq] using hs
    simp [Builtin.copy_, run_underlying hu, Builtin.lenOf, Builtin.firstCells, sizeOf, typeInfo, hq, hi, ← hn, hl, hst]

theorem wpList_copy_pairs {P : Program} {w : World} {ops : Array Oper} {rest : List Oper} {o : Oper} {a : Act} {Q : Exit → Act → World → Prop} (hgd : o.guard = none) (d s : Operand) (dT sT : TypeId)
    (ho : o.op = .call { callee := .builtin .copy, args := #[d, s], argTypes := #[dT, sT] }) (elem : TypeId) (hu : P.underlying dT = some (.slice elem)) (hsz : (P.info? elem).map (·.size) = some 2)
    (g off dLen dCap : Nat) (ad : Addr) (sLen sCap : Nat) (hd : a.eval d = .slice (some ⟨g, off, none⟩) dLen dCap) (hs : a.eval s = .slice (some ad) sLen sCap)
    (cur : Array Value) (t : TypeId) (hg : w.heap[g]? = some (.cells cur t (0, 0))) (cs : List Value) (hn : cs.length = Nat.min sLen dLen * 2)
    (hsrc : ∀ j v, cs[j]? = some v → w.cell? (ad.add j) = some v) (hfit : off + cs.length ≤ cur.size) (h1 : ∀ v ∈ cs, v.oneCell' = true)
    (h : ∀ w', Hid (w' = w.setRow g (cur.toList.take off ++ cs ++ cur.toList.drop (off + cs.length)).toArray) → wpList P ops Q rest (a.put o.dst (goInt (Nat.min sLen dLen))) w') : wpList P ops Q (o :: rest) a w := by
  refine wpList_plain hgd fun K hK => ?_
  have hrun := run_copy_pairs (P := P) w dT sT o.type elem g off dLen dCap ad sLen sCap cur t cs hu hsz hg hn hsrc hfit h1
  unfold Oper.wp
  simp only [execOp, ho, resolve, invoke, builtin]
  simp [hd, hs, hrun, Result.andThen]
  exact hK _ _ (h _ (show _ = _ by simp))
end Go.Proofs.Ybulkfimy
