import Derived.Test.YbulkfimyVec
import Derived.Laws.CopyOwn
namespace Go.Proofs.Ybulkfimy
open Go.RowKit

/-- the cells of n entries, one behind the other -/
def rowOf (n : Nat) (S : Nat → ByteArray) (C : Nat → Int) : List Value := (List.range (n * 2)).map fun j => if j % 2 = 0 then .string (S (j / 2)) else .int .u64 (C (j / 2))
theorem rowOf_length (n : Nat) (S : Nat → ByteArray) (C : Nat → Int) : (rowOf n S C).length = n * 2 := by simp [rowOf]
theorem rowOf_one (n : Nat) (S : Nat → ByteArray) (C : Nat → Int) : ∀ v ∈ rowOf n S C, v.oneCell' = true := by
  intro v hv
  simp only [rowOf, List.mem_map] at hv
  obtain ⟨j, _, rfl⟩ := hv
  split <;> rfl
theorem rowOf_src {n : Nat} {S : Nat → ByteArray} {C : Nat → Int} {w : World} {N : Nat}
    (h : ∀ i, i < n → w.cell? ⟨N, i * 2, none⟩ = some (.string (S i)) ∧ w.cell? ⟨N, i * 2 + 1, none⟩ = some (.int .u64 (C i))) :
    ∀ j v, (rowOf n S C)[j]? = some v → w.cell? ((⟨N, 0, none⟩ : Addr).add j) = some v := by
  intro j v hv
  have hj : j < n * 2 := by
    have := (List.getElem?_eq_some_iff.1 hv).1
    rwa [rowOf_length] at this
  simp only [rowOf, List.getElem?_map, List.getElem?_range hj, Option.map_some, Option.some.injEq] at hv
  rw [WideShapes.add_plain, Nat.zero_add]
  subst hv
  by_cases hm : j % 2 = 0
  · rw [if_pos hm, ← (h (j / 2) (by omega)).1]; congr 2; omega
  · rw [if_neg hm, ← (h (j / 2) (by omega)).2]; congr 2; omega

theorem row_facts {w w2 : World} {g : Nat} {cur : Array Value} {t : TypeId} {L : List Value} (hg : w.heap[g]? = some (.cells cur t (0, 0))) (H : w2 = w.setRow g L.toArray) :
    w2.heap.size = w.heap.size ∧ (∀ j, w2.cell? ⟨g, j, none⟩ = L[j]?) ∧ (∀ o, w2.frozen? ⟨g, o, none⟩ = false) ∧
    (∀ k o, k ≠ g → w2.cell? ⟨k, o, none⟩ = w.cell? ⟨k, o, none⟩) ∧ (∀ k o, k ≠ g → w2.frozen? ⟨k, o, none⟩ = w.frozen? ⟨k, o, none⟩) ∧ Below g w w2 := by
  subst H
  refine ⟨by simp [World.setRow], fun j => ?_, fun o => ?_, fun k o hk => ?_, fun k o hk => ?_, ?_⟩
  · rw [cell_setRow_same w g j _ _ _ _ hg]; simp
  · have := setRow_heap w g _ L.toArray t _ hg
    simp [World.frozen?, this]
  · exact World.cell?_of_block (setRow_other w g k _ hk)
  · exact World.frozen?_of_block (setRow_other w g k _ hk)
  · exact below_setRow (Below.refl _ _) (Nat.le_refl _) _

/-- the cells of the room: the head, then the entries -/
theorem room_cells (n : Nat) (S : Nat → ByteArray) (C : Nat → Int) (L : List Value)
    (hL : L = ((Z (n + 1)).setIfInBounds 1 (.int .u64 n)).toList.take 2 ++ rowOf n S C ++ ((Z (n + 1)).setIfInBounds 1 (.int .u64 n)).toList.drop (2 + (rowOf n S C).length)) :
    L[0]? = some (.string ⟨#[]⟩) ∧ L[1]? = some (.int .u64 n) ∧ ∀ i, i < n → L[i * 2 + 2]? = some (.string (S i)) ∧ L[i * 2 + 3]? = some (.int .u64 (C i)) := by
  have hs : (Z (n + 1)).size = (n + 1) * 2 := Z_size _
  have hl : (((Z (n + 1)).setIfInBounds 1 (.int .u64 n)).toList.take 2).length = 2 := by simp [hs]; omega
  have z0 := Z_even (n + 1) 0 (by omega)
  subst hL
  refine ⟨?_, ?_, fun i hi => ⟨?_, ?_⟩⟩
  · rw [List.append_assoc, List.getElem?_append_left (by omega), List.getElem?_take]
    simpa using z0
  · rw [List.append_assoc, List.getElem?_append_left (by omega), List.getElem?_take]
    have h1 : 1 < (Z (n + 1)).toList.length := by simp [hs]; omega
    simp [List.getElem?_set_self h1]
  · rw [List.append_assoc, List.getElem?_append_right (by omega), hl, List.getElem?_append_left (by rw [rowOf_length]; omega)]
    have h1 : i * 2 + 2 - 2 < n * 2 := by omega
    simp only [rowOf, List.getElem?_map, List.getElem?_range h1, Option.map_some]
    rw [if_pos (by omega)]; congr 3; omega
  · rw [List.append_assoc, List.getElem?_append_right (by omega), hl, List.getElem?_append_left (by rw [rowOf_length]; omega)]
    have h1 : i * 2 + 3 - 2 < n * 2 := by omega
    simp only [rowOf, List.getElem?_map, List.getElem?_range h1, Option.map_some]
    rw [if_neg (by omega)]; congr 3; omega

/-- what vectorOf leaves: a room of its own at block M -/
def Room (w w' : World) (M n : Nat) (S : Nat → ByteArray) (C : Nat → Int) : Prop :=
  w.heap.size ≤ M ∧ M < w'.heap.size ∧ Below w.heap.size w w' ∧ w'.cell? ⟨M, 0, none⟩ = some (.string ⟨#[]⟩) ∧ w'.cell? ⟨M, 1, none⟩ = some (.int .u64 n) ∧
  (∀ i, i < n → w'.cell? ⟨M, i * 2 + 2, none⟩ = some (.string (S i)) ∧ w'.cell? ⟨M, i * 2 + 3, none⟩ = some (.int .u64 (C i))) ∧ ∀ o, w'.frozen? ⟨M, o, none⟩ = false

theorem cell_other {w : World} {p : Addr} {v : Value} {k o : Nat} (h : p.block ≠ k) : (w.setCell p v).cell? ⟨k, o, none⟩ = w.cell? ⟨k, o, none⟩ :=
  World.cell?_setCell_other _ _ _ _ (fun e => h (by rw [e]))
theorem Room.setCell {w w' : World} {M n : Nat} {S : Nat → ByteArray} {C : Nat → Int} (h : Room w w' M n S C) {p : Addr} (hp : w.heap.size ≤ p.block) (hne : p.block ≠ M) (v : Value) : Room w (w'.setCell p v) M n S C := by
  obtain ⟨a, b, c, d, e, f, g⟩ := h
  refine ⟨a, by simpa using b, c.setCell hp v, ?_, ?_, fun i hi => ⟨?_, ?_⟩, fun o => ?_⟩
  · rw [cell_other hne]; exact d
  · rw [cell_other hne]; exact e
  · rw [cell_other hne]; exact (f i hi).1
  · rw [cell_other hne]; exact (f i hi).2
  · rw [World.frozen?_setCell]; exact g o

/-- the world at vectorOf's copy -/
theorem copy_step (n c N : Nat) (S : Nat → ByteArray) (C : Nat → Int) (w : World) (c1 : Array Value)
    (hc : ∀ i, i < n → w.cell? ⟨N, i * 2, none⟩ = some (.string (S i)) ∧ w.cell? ⟨N, i * 2 + 1, none⟩ = some (.int .u64 (C i))) :
    ∃ w2, Sem.run Yba.prog (Builtin.copy_ #[23, 23] 3 #[.slice (some ⟨w.heap.size + 1 + 1, 2, none⟩) n n, .slice (some ⟨N, 0, none⟩) n c])
        ((((w.alloc (.cells #[.slice none 0 0, .int .i64 0] 30)).alloc (.cells #[.slice (some ⟨w.heap.size + 1 + 1, 0, none⟩) (n + 1) (n + 1), .int .i64 0] 30)).alloc
          (.cells ((Z (n + 1)).setIfInBounds 1 (.int .u64 n)) 28)).alloc (.cells c1 30)).drew = .ok (.int .i64 n) w2 ∧
      Hid (Room w w2 (w.heap.size + 2) n S C) ∧ w2.heap.size = w.heap.size + 4 ∧ w2.cell? ⟨w.heap.size, 0, none⟩ = some (.slice none 0 0) ∧ w2.cell? ⟨w.heap.size, 1, none⟩ = some (.int .i64 0) ∧
      w2.frozen? ⟨w.heap.size, 0, none⟩ = false ∧ w2.frozen? ⟨w.heap.size, 1, none⟩ = false ∧
      w2.cell? ⟨w.heap.size + 1, 0, none⟩ = some (.slice (some ⟨w.heap.size + 1 + 1, 0, none⟩) (n + 1) (n + 1)) ∧ w2.cell? ⟨w.heap.size + 1, 1, none⟩ = some (.int .i64 0) := by
  let A : World := (w.alloc (.cells #[.slice none 0 0, .int .i64 0] 30)).alloc (.cells #[.slice (some ⟨w.heap.size + 1 + 1, 0, none⟩) (n + 1) (n + 1), .int .i64 0] 30)
  let W : World := ((A.alloc (.cells ((Z (n + 1)).setIfInBounds 1 (.int .u64 n)) 28)).alloc (.cells c1 30)).drew
  have hA : A.heap.size = w.heap.size + 1 + 1 := by simp [A]
  have hb : Below w.heap.size w W := ((((Below.refl _ _).alloc (Nat.le_refl _) _).alloc (by simp) _ |>.alloc (by simp; omega) _).alloc (by simp; omega) _).drew
  have hg : W.heap[w.heap.size + 1 + 1]? = some (.cells ((Z (n + 1)).setIfInBounds 1 (.int .u64 n)) 28 (0, 0)) := by
    show ((A.heap.push _).push _)[_]? = _
    rw [← hA, Array.getElem?_push, if_neg (by simp), Array.getElem?_push, if_pos rfl]
  have hsz : W.heap.size = w.heap.size + 4 := by show ((A.heap.push _).push _).size = _; simp [hA]
  have hfit : 2 + (rowOf n S C).length ≤ ((Z (n + 1)).setIfInBounds 1 (.int .u64 n)).size := by rw [rowOf_length]; simp [Z_size]; omega
  have hrun := run_copy_pairs (P := Yba.prog) W 23 23 3 28 (w.heap.size + 1 + 1) 2 n n ⟨N, 0, none⟩ n c _ 28 (rowOf n S C) Yba.underlying23 (by kernel_rfl) hg
    (by rw [rowOf_length]; congr 1; exact (Nat.min_self n).symm) (rowOf_src fun i hi => ⟨cell_later hb (hc i hi).1, cell_later hb (hc i hi).2⟩) hfit (rowOf_one _ _ _)
  obtain ⟨L, hL⟩ : ∃ L, L = ((Z (n + 1)).setIfInBounds 1 (.int .u64 n)).toList.take 2 ++ rowOf n S C ++ ((Z (n + 1)).setIfInBounds 1 (.int .u64 n)).toList.drop (2 + (rowOf n S C).length) := ⟨_, rfl⟩
  rw [← hL] at hrun
  obtain ⟨r0, r1, r2⟩ := room_cells n S C L hL
  obtain ⟨w2, hw2⟩ : ∃ w2, w2 = W.setRow (w.heap.size + 1 + 1) L.toArray := ⟨_, rfl⟩
  obtain ⟨f1, f2, f3, f4, f5, f6⟩ := row_facts hg hw2
  have e1 : Nat.min n n = n := Nat.min_self n
  rw [← hw2, e1] at hrun
  refine ⟨w2, hrun, ⟨by omega, by omega, hb.trans (f6.mono (by omega)), by rw [← r0]; exact f2 0, by rw [← r1]; exact f2 1, fun i hi => ⟨by rw [← (r2 i hi).1]; exact f2 _, by rw [← (r2 i hi).2]; exact f2 _⟩, f3⟩, by omega, ?_, ?_, ?_, ?_, ?_, ?_⟩
  · rw [f4 _ _ (by omega)]; simp [W, A, go_sem]
  · rw [f4 _ _ (by omega)]; simp [W, A, go_sem]
  · rw [f5 _ _ (by omega)]; simp [W, A, go_sem]
  · rw [f5 _ _ (by omega)]; simp [W, A, go_sem]
  · rw [f4 _ _ (by omega)]; simp [W, A, go_sem]
  · rw [f4 _ _ (by omega)]; simp [W, A, go_sem]

set_option maxHeartbeats 400000 in
theorem vectorOf_any (n c N : Nat) (S : Nat → ByteArray) (C : Nat → Int) (w : World) (h0 : 1 ≤ n) (h1 : n ≤ 1048576)
    (hc : ∀ i, i < n → w.cell? ⟨N, i * 2, none⟩ = some (.string (S i)) ∧ w.cell? ⟨N, i * 2 + 1, none⟩ = some (.int .u64 (C i))) :
    Calls Yba.prog 4 #[.slice (some ⟨N, 0, none⟩) n c] w fun e w' => ∃ M, e = .returned (.agg #[.slice (some ⟨M, 0, none⟩) (n + 1) (n + 1), .int .i64 0]) ∧ Room w w' M n S C := by
  have HC := fun c1 => copy_step n c N S C w c1 hc
  have HH : Hid _ := HC
  clear HC hc
  go_enter Yba.func4, Yba.ntmps4
  go_wp2_with fail
  refine (resize_any n _ _ h0 h1 (by simp) (by simp [go_sem]) (by simp [go_sem]) (by simp [go_sem])).mono ?_
  rintro e w' ⟨rfl, c1, rfl⟩
  obtain ⟨w2, hrun, HR, g1, g2, g3, g4, g5, g6, g7⟩ := HH.out c1
  go_wp2_with fail
  exact bodyPost_ret (v := .agg #[.slice (some ⟨w.heap.size + 2, 0, none⟩) (n + 1) (n + 1), .int .i64 0]) (by simp [results, Yba.results4, go_sem, g2, g3]) rfl
    ⟨_, rfl, (HR.out.setCell (Nat.le_refl _) (by simp) _).setCell (Nat.le_refl _) (by simp) _⟩
end Go.Proofs.Ybulkfimy
