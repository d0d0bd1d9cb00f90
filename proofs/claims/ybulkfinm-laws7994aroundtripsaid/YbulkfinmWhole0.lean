import Derived.Test.YbulkfinmGive
import Derived.Test.YbulkfinmSmall
namespace Go.Proofs.Ybulkfinm
open Go.RowKit

theorem mapAt_made (w : World) (b : Nat) (es : Array MapEntry) (c : Nat) (h : b = w.heap.size) : mapAt (w.alloc (.map es c)) b = some (es, c) := by
  subst h; exact mapAt_new w es c

attribute [local go_sem] mapAt_drew mapAt_drewN mapAt_setCell mapAt_alloc mapAt_made mapAt_put cell?_put frozen?_put size_putMap putMap_drew putMap_putMap

/-- a bound just laid behind X, the last block of which is its map -/
theorem stage_new (X : World) (b bm : Nat) (es : Array MapEntry) (c : Nat) (lim sh o r : Int) (hb : b = X.heap.size) (hbm : b = bm + 1) (hm : mapAt X bm = some (es, c)) :
    Stage (X.alloc (.cells #[.int .i64 lim, .int .i64 sh, .int .i32 0, .int .u32 0, .map (some bm), .int .i64 o, .int .i64 r] 48)) (X.alloc (.cells #[.int .i64 lim, .int .i64 sh, .int .i32 0, .int .u32 0, .map (some bm), .int .i64 o, .int .i64 r] 48)) b bm lim sh 0 o r es c := by
  subst hb
  refine ⟨Nat.le_refl _, by simp, by simp; omega, by omega, by simp [go_sem], by simp [go_sem], by simp [go_sem], by simp [go_sem], by simp [go_sem], by simp [go_sem], fun i => by simp [go_sem], ?_, fun _ _ _ _ _ => rfl, fun _ _ _ _ a => a⟩
  rw [mapAt_alloc _ _ _ (by omega)]; exact hm

theorem cell_old {X : World} (B C D : Obj) {k i : Nat} {v : Value} (h : X.cell? ⟨k, i, none⟩ = some v) : (((X.alloc B).alloc C).alloc D).cell? ⟨k, i, none⟩ = some v := by
  have hb : Below X.heap.size X (((X.alloc B).alloc C).alloc D) := (((Below.refl _ _).alloc (Nat.le_refl _) _).alloc (by simp) _).alloc (by simp; omega) _
  exact cell_later hb h
theorem cell_last {X : World} (B C : Obj) (a : Bool) (n : Nat) (hn : n = X.heap.size + 1 + 1) :
    (((X.alloc B).alloc C).alloc (.cells #[.bool a, .int .u64 0, .int .u64 0, .pointer none, .int .u8 0] 33)).cell? ⟨n, 0, none⟩ = some (.bool a) := by
  subst hn
  simp [go_sem]
theorem size_old (X : World) (B C D : Obj) : (((X.alloc B).alloc C).alloc D).heap.size = X.heap.size + 3 := by simp

/-- the two sources laid, and an empty map behind them -/
def made (w : World) : World := ((w.alloc (.cells #[.bool true, .int .u64 0, .int .u64 0, .pointer none, .int .u8 0] 33)).alloc (.cells #[.bool false, .int .u64 0, .int .u64 0, .pointer none, .int .u8 0] 33)).alloc (.map #[] 0)
/-- a source's five cells -/
def Src (X : World) (n : Nat) (a : Bool) : Prop := X.cell? ⟨n, 0, none⟩ = some (.bool a) ∧ X.cell? ⟨n, 1, none⟩ = some (.int .u64 0) ∧ X.cell? ⟨n, 2, none⟩ = some (.int .u64 0) ∧ X.cell? ⟨n, 3, none⟩ = some (.pointer none) ∧ X.cell? ⟨n, 4, none⟩ = some (.int .u8 0)
theorem made_size (w : World) : (made w).heap.size = w.heap.size + 3 := by simp [made]
theorem made_src (w : World) : Src (made w) w.heap.size true ∧ Src (made w) (w.heap.size + 1) false := by
  refine ⟨⟨?_, ?_, ?_, ?_, ?_⟩, ⟨?_, ?_, ?_, ?_, ?_⟩⟩ <;> simp [made, go_sem]
theorem made_below (w : World) : Below w.heap.size w (made w) := (((Below.refl _ _).alloc (Nat.le_refl _) _).alloc (by simp) _).alloc (by simp; omega) _
theorem put_src {w : World} {n : Nat} {a : Bool} (h : Src w n a) (bm : Nat) (es : Array MapEntry) (c : Nat) (hne : ¬ n = bm) : Src (putMap w bm es c) n a := by
  obtain ⟨h0, h1, h2, h3, h4⟩ := h
  refine ⟨?_, ?_, ?_, ?_, ?_⟩ <;> rw [cell?_put _ _ _ _ _ _ hne] <;> assumption
theorem old_src {X : World} {n : Nat} {a : Bool} (h : Src X n a) (B C D : Obj) : Src (((X.alloc B).alloc C).alloc D) n a := by
  obtain ⟨h0, h1, h2, h3, h4⟩ := h
  exact ⟨cell_old _ _ _ h0, cell_old _ _ _ h1, cell_old _ _ _ h2, cell_old _ _ _ h3, cell_old _ _ _ h4⟩
theorem old_below {w X : World} (h : Below w.heap.size w X) (B C D : Obj) : Below w.heap.size w (((X.alloc B).alloc C).alloc D) := by
  have := h.size
  exact ((h.alloc this _).alloc (by simp; omega) _).alloc (by simp; omega) _
theorem Stage.src {w0 w : World} {b bm : Nat} {lim sh mu o r : Int} {es : Array MapEntry} {c n : Nat} {a : Bool} (h : Stage w0 w b bm lim sh mu o r es c) (s : Src w0 n a) (hn : n < w0.heap.size) (h1 : ¬ n = b) (h2 : ¬ n = bm) : Src w n a := by
  obtain ⟨s0, s1, s2, s3, s4⟩ := s
  exact ⟨(h.keep _ _ hn h1 h2).trans s0, (h.keep _ _ hn h1 h2).trans s1, (h.keep _ _ hn h1 h2).trans s2, (h.keep _ _ hn h1 h2).trans s3, (h.keep _ _ hn h1 h2).trans s4⟩

end Go.Proofs.Ybulkfinm
