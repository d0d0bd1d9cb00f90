import Derived.Test.YbulkfinmMap
namespace Go.Proofs.Ybulkfinm
open Go.RowKit

/-- a bound at block b, its map at block bm, in the world w that has come of w0: its cells, and that all else that lay in w0 lies as it did -/
structure Stage (w0 w : World) (b bm : Nat) (lim sh mu o r : Int) (es : Array MapEntry) (c : Nat) : Prop where
  size : w0.heap.size ≤ w.heap.size
  hb : b < w0.heap.size
  hbm : bm < w0.heap.size
  ne : ¬ b = bm
  c0 : w.cell? ⟨b, 0, none⟩ = some (.int .i64 lim)
  c1 : w.cell? ⟨b, 1, none⟩ = some (.int .i64 sh)
  c2 : w.cell? ⟨b, 2, none⟩ = some (.int .i32 mu)
  c4 : w.cell? ⟨b, 4, none⟩ = some (.map (some bm))
  c5 : w.cell? ⟨b, 5, none⟩ = some (.int .i64 o)
  c6 : w.cell? ⟨b, 6, none⟩ = some (.int .i64 r)
  soft : ∀ i, w.frozen? ⟨b, i, none⟩ = false
  map : mapAt w bm = some (es, c)
  keep : ∀ k i, k < w0.heap.size → ¬ k = b → ¬ k = bm → w.cell? ⟨k, i, none⟩ = w0.cell? ⟨k, i, none⟩
  below : ∀ B v, B ≤ b → B ≤ bm → Below B v w0 → Below B v w

section
variable {w0 w : World} {b bm : Nat} {lim sh mu o r : Int} {es : Array MapEntry} {c : Nat}

theorem cell_at {i : Nat} {v : Value} (h : w.cell? ⟨b, i, none⟩ = some v) (j : Nat) (u v' : Value) (h' : j = i ∧ v' = u ∨ j ≠ i ∧ v' = v) : (w.setCell ⟨b, j, none⟩ u).cell? ⟨b, i, none⟩ = some v' := by
  rcases h' with ⟨rfl, rfl⟩ | ⟨hne, rfl⟩
  · exact World.cell?_setCell_same _ _ _ h
  · rw [World.cell?_setCell_other _ _ _ _ (fun e => by injection e; omega)]; exact h
theorem cell_else (k i j : Nat) (u : Value) (h : ¬ k = b) : (w.setCell ⟨b, j, none⟩ u).cell? ⟨k, i, none⟩ = w.cell? ⟨k, i, none⟩ :=
  World.cell?_setCell_other _ _ _ _ (fun e => by injection e; omega)

theorem Stage.lock (h : Stage w0 w b bm lim sh mu o r es c) (v : Int) : Stage w0 (w.setCell ⟨b, 2, none⟩ (.int .i32 v)) b bm lim sh v o r es c :=
  ⟨by simpa using h.size, h.hb, h.hbm, h.ne, cell_at h.c0 _ _ _ (by simp), cell_at h.c1 _ _ _ (by simp), cell_at h.c2 _ _ _ (by simp), cell_at h.c4 _ _ _ (by simp), cell_at h.c5 _ _ _ (by simp), cell_at h.c6 _ _ _ (by simp),
    fun i => by rw [World.frozen?_setCell]; exact h.soft i, by rw [mapAt_setCell]; exact h.map, fun k i a1 a2 a3 => by rw [cell_else k i 2 _ a2]; exact h.keep k i a1 a2 a3, fun B v a1 a2 a3 => (h.below B v a1 a2 a3).setCell a1 _⟩
theorem Stage.others (h : Stage w0 w b bm lim sh mu o r es c) (v : Int) : Stage w0 (w.setCell ⟨b, 5, none⟩ (.int .i64 v)) b bm lim sh mu v r es c :=
  ⟨by simpa using h.size, h.hb, h.hbm, h.ne, cell_at h.c0 _ _ _ (by simp), cell_at h.c1 _ _ _ (by simp), cell_at h.c2 _ _ _ (by simp), cell_at h.c4 _ _ _ (by simp), cell_at h.c5 _ _ _ (by simp), cell_at h.c6 _ _ _ (by simp),
    fun i => by rw [World.frozen?_setCell]; exact h.soft i, by rw [mapAt_setCell]; exact h.map, fun k i a1 a2 a3 => by rw [cell_else k i 5 _ a2]; exact h.keep k i a1 a2 a3, fun B v a1 a2 a3 => (h.below B v a1 a2 a3).setCell a1 _⟩
theorem Stage.refused (h : Stage w0 w b bm lim sh mu o r es c) (v : Int) : Stage w0 (w.setCell ⟨b, 6, none⟩ (.int .i64 v)) b bm lim sh mu o v es c :=
  ⟨by simpa using h.size, h.hb, h.hbm, h.ne, cell_at h.c0 _ _ _ (by simp), cell_at h.c1 _ _ _ (by simp), cell_at h.c2 _ _ _ (by simp), cell_at h.c4 _ _ _ (by simp), cell_at h.c5 _ _ _ (by simp), cell_at h.c6 _ _ _ (by simp),
    fun i => by rw [World.frozen?_setCell]; exact h.soft i, by rw [mapAt_setCell]; exact h.map, fun k i a1 a2 a3 => by rw [cell_else k i 6 _ a2]; exact h.keep k i a1 a2 a3, fun B v a1 a2 a3 => (h.below B v a1 a2 a3).setCell a1 _⟩
theorem Stage.drew (h : Stage w0 w b bm lim sh mu o r es c) : Stage w0 w.drew b bm lim sh mu o r es c :=
  ⟨h.size, h.hb, h.hbm, h.ne, h.c0, h.c1, h.c2, h.c4, h.c5, h.c6, h.soft, h.map, h.keep, fun B v a1 a2 a3 => (h.below B v a1 a2 a3).drew⟩
theorem Stage.drewN (h : Stage w0 w b bm lim sh mu o r es c) (n : Nat) : Stage w0 (w.drewN n) b bm lim sh mu o r es c :=
  ⟨h.size, h.hb, h.hbm, h.ne, h.c0, h.c1, h.c2, h.c4, h.c5, h.c6, h.soft, h.map, h.keep, fun B v a1 a2 a3 => below_drewN (h.below B v a1 a2 a3) n⟩
theorem Stage.alloc (h : Stage w0 w b bm lim sh mu o r es c) (x : Obj) : Stage w0 (w.alloc x) b bm lim sh mu o r es c := by
  have hb : Below w.heap.size w (w.alloc x) := (Below.refl _ _).alloc (Nat.le_refl _) _
  have e1 := h.size
  have e2 := h.hb
  have e3 := h.hbm
  exact ⟨by simp; omega, h.hb, h.hbm, h.ne, cell_later hb h.c0, cell_later hb h.c1, cell_later hb h.c2, cell_later hb h.c4, cell_later hb h.c5, cell_later hb h.c6,
    fun i => by rw [hb.frozen (p := ⟨b, i, none⟩) (by show b < _; omega)]; exact h.soft i, by rw [mapAt_alloc w x bm (by omega)]; exact h.map,
    fun k i a1 a2 a3 => by rw [hb.cell (p := ⟨k, i, none⟩) (by show k < _; omega)]; exact h.keep k i a1 a2 a3, fun B v a1 a2 a3 => (h.below B v a1 a2 a3).alloc (by omega) x⟩
theorem Stage.put (h : Stage w0 w b bm lim sh mu o r es c) (es' : Array MapEntry) (c' : Nat) : Stage w0 (putMap w bm es' c') b bm lim sh mu o r es' c' :=
  have hs : (mapAt w bm).isSome = true := by rw [h.map]; rfl
  ⟨by rw [size_putMap]; exact h.size, h.hb, h.hbm, h.ne, by rw [cell?_putMap _ _ _ _ _ hs]; exact h.c0, by rw [cell?_putMap _ _ _ _ _ hs]; exact h.c1, by rw [cell?_putMap _ _ _ _ _ hs]; exact h.c2, by rw [cell?_putMap _ _ _ _ _ hs]; exact h.c4,
    by rw [cell?_putMap _ _ _ _ _ hs]; exact h.c5, by rw [cell?_putMap _ _ _ _ _ hs]; exact h.c6, fun i => by rw [frozen?_putMap _ _ _ _ _ hs]; exact h.soft i, mapAt_putMap _ _ _ _ hs,
    fun k i a1 a2 a3 => by rw [cell?_putMap _ _ _ _ _ hs]; exact h.keep k i a1 a2 a3, fun B v a1 a2 a3 => below_putMap (h.below B v a1 a2 a3) a2 _ _⟩
/-- a call made at w, from w on -/
theorem Stage.start (h : Stage w0 w b bm lim sh mu o r es c) : Stage w w b bm lim sh mu o r es c :=
  ⟨Nat.le_refl _, Nat.lt_of_lt_of_le h.hb h.size, Nat.lt_of_lt_of_le h.hbm h.size, h.ne, h.c0, h.c1, h.c2, h.c4, h.c5, h.c6, h.soft, h.map, fun _ _ _ _ _ => rfl, fun _ _ _ _ a => a⟩
theorem Stage.trans {w1 : World} {mu' o' r' : Int} {es' : Array MapEntry} {c' : Nat} (h : Stage w0 w b bm lim sh mu o r es c) (k : Stage w w1 b bm lim sh mu' o' r' es' c') : Stage w0 w1 b bm lim sh mu' o' r' es' c' :=
  ⟨Nat.le_trans h.size k.size, h.hb, h.hbm, h.ne, k.c0, k.c1, k.c2, k.c4, k.c5, k.c6, k.soft, k.map, fun j i a1 a2 a3 => (k.keep j i (Nat.lt_of_lt_of_le a1 h.size) a2 a3).trans (h.keep j i a1 a2 a3), fun B v a1 a2 a3 => k.below B v a1 a2 (h.below B v a1 a2 a3)⟩
end
end Go.Proofs.Ybulkfinm
