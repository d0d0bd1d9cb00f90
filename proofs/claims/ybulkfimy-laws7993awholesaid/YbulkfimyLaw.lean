import Derived.Test.YbulkfimyVecOf
import Derived.BigQuiet
import Derived.BigRegion
import Derived.Deep.QuietTactic
namespace Go.Proofs.Ybulkfimy
open Go.RowKit

/-- the first k of n entries are laid in block N -/
structure Fill (w wr : World) (n k : Nat) (S : Nat → ByteArray) (C : Nat → Int) : Prop where
  size : wr.heap.size = w.heap.size + 1
  below : Below w.heap.size w wr
  done : ∀ j, j < k → wr.cell? ⟨w.heap.size, j * 2, none⟩ = some (.string (S j)) ∧ wr.cell? ⟨w.heap.size, j * 2 + 1, none⟩ = some (.int .u64 (C j))
  there : ∀ j, j < n → ∃ v0 v1, wr.cell? ⟨w.heap.size, j * 2, none⟩ = some v0 ∧ wr.cell? ⟨w.heap.size, j * 2 + 1, none⟩ = some v1
  soft : ∀ o, wr.frozen? ⟨w.heap.size, o, none⟩ = false

theorem fill_start (w : World) (n : Nat) (S : Nat → ByteArray) (C : Nat → Int) : Fill w (w.alloc (.cells (Z n) 28)) n 0 S C := by
  refine ⟨by simp, (Below.refl _ _).alloc (Nat.le_refl _) _, fun j hj => by omega, fun j hj => ⟨.string ⟨#[]⟩, .int .u64 0, ?_, ?_⟩, fun o => by simp [go_sem]⟩
  · have := Z_even n j hj; simpa [go_sem] using this
  · have := Z_odd n j hj; simpa [go_sem] using this

theorem fill_step {w wr : World} {n k : Nat} {S : Nat → ByteArray} {C : Nat → Int} (h : Fill w wr n k S C) (hk : k < n) :
    Fill w ((wr.setCell ⟨w.heap.size, k * 2, none⟩ (.string (S k))).setCell ⟨w.heap.size, k * 2 + 1, none⟩ (.int .u64 (C k))).drew n (k + 1) S C := by
  obtain ⟨v0, v1, e0, e1⟩ := h.there k hk
  have c0 : ∀ o, o ≠ k * 2 → o ≠ k * 2 + 1 → ((wr.setCell ⟨w.heap.size, k * 2, none⟩ (.string (S k))).setCell ⟨w.heap.size, k * 2 + 1, none⟩ (.int .u64 (C k))).drew.cell? ⟨w.heap.size, o, none⟩ = wr.cell? ⟨w.heap.size, o, none⟩ := by
    intro o ho ho'
    show ((wr.setCell ⟨w.heap.size, k * 2, none⟩ (.string (S k))).setCell ⟨w.heap.size, k * 2 + 1, none⟩ (.int .u64 (C k))).cell? ⟨w.heap.size, o, none⟩ = _
    rw [World.cell?_setCell_other _ _ _ _ (fun e => by injection e; omega), World.cell?_setCell_other _ _ _ _ (fun e => by injection e; omega)]
  have c1 : ((wr.setCell ⟨w.heap.size, k * 2, none⟩ (.string (S k))).setCell ⟨w.heap.size, k * 2 + 1, none⟩ (.int .u64 (C k))).drew.cell? ⟨w.heap.size, k * 2, none⟩ = some (.string (S k)) := by
    show ((wr.setCell ⟨w.heap.size, k * 2, none⟩ (.string (S k))).setCell ⟨w.heap.size, k * 2 + 1, none⟩ (.int .u64 (C k))).cell? _ = _
    rw [World.cell?_setCell_other _ _ _ _ (fun e => by simp at e), World.cell?_setCell_same _ _ _ e0]
  have c2 : ((wr.setCell ⟨w.heap.size, k * 2, none⟩ (.string (S k))).setCell ⟨w.heap.size, k * 2 + 1, none⟩ (.int .u64 (C k))).drew.cell? ⟨w.heap.size, k * 2 + 1, none⟩ = some (.int .u64 (C k)) := by
    show ((wr.setCell ⟨w.heap.size, k * 2, none⟩ (.string (S k))).setCell ⟨w.heap.size, k * 2 + 1, none⟩ (.int .u64 (C k))).cell? _ = _
    refine World.cell?_setCell_same (u := v1) _ _ _ ?_
    rw [World.cell?_setCell_other _ _ _ _ (fun e => by simp at e)]; exact e1
  refine ⟨by simpa using h.size, ((h.below.setCell (Nat.le_refl _) _).setCell (Nat.le_refl _) _).drew, fun j hj => ?_, fun j hj => ?_, fun o => ?_⟩
  · by_cases e : j = k
    · subst e; exact ⟨c1, c2⟩
    · rw [c0 _ (by omega) (by omega), c0 _ (by omega) (by omega)]; exact h.done j (by omega)
  · by_cases e : j = k
    · subst e; exact ⟨_, _, c1, c2⟩
    · rw [c0 _ (by omega) (by omega), c0 _ (by omega) (by omega)]; exact h.there j hj
  · have := h.soft o
    show ((wr.setCell ⟨w.heap.size, k * 2, none⟩ (.string (S k))).setCell ⟨w.heap.size, k * 2 + 1, none⟩ (.int .u64 (C k))).frozen? _ = _
    rw [World.frozen?_setCell, World.frozen?_setCell]; exact this

/-- the world behind vectorOf, v laid in block V -/
structure St (w wr : World) (M V n : Nat) (S : Nat → ByteArray) (C : Nat → Int) : Prop where
  below : Below w.heap.size w wr
  ent : ∀ i, i < n → wr.cell? ⟨w.heap.size, i * 2, none⟩ = some (.string (S i)) ∧ wr.cell? ⟨w.heap.size, i * 2 + 1, none⟩ = some (.int .u64 (C i))
  v0 : wr.cell? ⟨V, 0, none⟩ = some (.slice (some ⟨M, 0, none⟩) (n + 1) (n + 1))
  v1 : wr.cell? ⟨V, 1, none⟩ = some (.int .i64 0)
  r0 : wr.cell? ⟨M, 0, none⟩ = some (.string ⟨#[]⟩)
  r1 : wr.cell? ⟨M, 1, none⟩ = some (.int .u64 n)
  room : ∀ i, i < n → wr.cell? ⟨M, i * 2 + 2, none⟩ = some (.string (S i)) ∧ wr.cell? ⟨M, i * 2 + 3, none⟩ = some (.int .u64 (C i))
  soft : ∀ o, wr.frozen? ⟨M, o, none⟩ = false
  nM : w.heap.size < M
  MV : M < V

theorem St.start {w wr w5 : World} {M n : Nat} {S : Nat → ByteArray} {C : Nat → Int} (h : Fill w wr n n S C) (r : Room wr w5 M n S C) :
    St w (w5.alloc (.cells #[.slice (some ⟨M, 0, none⟩) (n + 1) (n + 1), .int .i64 0] 30)) M w5.heap.size n S C := by
  obtain ⟨a, b, c, d, e, f, g⟩ := r
  have hs := h.size
  have hb : Below w5.heap.size w5 (w5.alloc (.cells #[.slice (some ⟨M, 0, none⟩) (n + 1) (n + 1), .int .i64 0] 30)) := (Below.refl _ _).alloc (Nat.le_refl _) _
  have hc := fun i hi => h.done i hi
  refine ⟨(h.below.trans (c.mono (by omega))).trans (hb.mono ?_), fun i hi => ⟨?_, ?_⟩, by simp [go_sem], by simp [go_sem], cell_later hb d, cell_later hb e, fun i hi => ⟨cell_later hb (f i hi).1, cell_later hb (f i hi).2⟩, fun o => ?_, by omega, b⟩
  · have := c.size; omega
  · exact cell_later hb (cell_later c (hc i hi).1)
  · exact cell_later hb (cell_later c (hc i hi).2)
  · rw [hb.frozen (p := ⟨M, o, none⟩) b]; exact g o
theorem St.drewN {w wr : World} {M V n : Nat} {S : Nat → ByteArray} {C : Nat → Int} (h : St w wr M V n S C) (m : Nat) : St w (wr.drewN m) M V n S C :=
  ⟨below_drewN h.below m, h.ent, h.v0, h.v1, h.r0, h.r1, h.room, h.soft, h.nM, h.MV⟩

/-- the same, the room's entries overwritten by whatever -/
structure St4 (w wr : World) (M V n : Nat) (S : Nat → ByteArray) (C : Nat → Int) : Prop where
  below : Below w.heap.size w wr
  ent : ∀ i, i < n → wr.cell? ⟨w.heap.size, i * 2, none⟩ = some (.string (S i)) ∧ wr.cell? ⟨w.heap.size, i * 2 + 1, none⟩ = some (.int .u64 (C i))
  v0 : wr.cell? ⟨V, 0, none⟩ = some (.slice (some ⟨M, 0, none⟩) (n + 1) (n + 1))
  room : ∀ i, 1 ≤ i → i ≤ n → ∃ s c, wr.cell? ⟨M, i * 2, none⟩ = some (.string s) ∧ wr.cell? ⟨M, i * 2 + 1, none⟩ = some (.int .u64 c)
  soft : ∀ o, wr.frozen? ⟨M, o, none⟩ = false
  nM : w.heap.size < M
  MV : M < V

theorem St.four {w wr : World} {M V n : Nat} {S : Nat → ByteArray} {C : Nat → Int} (h : St w wr M V n S C) : St4 w wr M V n S C :=
  ⟨h.below, h.ent, h.v0, fun i h1 h2 => by
    obtain ⟨a, b⟩ := h.room (i - 1) (by omega)
    rw [show (i - 1) * 2 + 2 = i * 2 by omega] at a
    rw [show (i - 1) * 2 + 3 = i * 2 + 1 by omega] at b
    exact ⟨_, _, a, b⟩, h.soft, h.nM, h.MV⟩
theorem St4.drewN {w wr : World} {M V n : Nat} {S : Nat → ByteArray} {C : Nat → Int} (h : St4 w wr M V n S C) (m : Nat) : St4 w (wr.drewN m) M V n S C :=
  ⟨below_drewN h.below m, h.ent, h.v0, h.room, h.soft, h.nM, h.MV⟩
theorem St4.drew {w wr : World} {M V n : Nat} {S : Nat → ByteArray} {C : Nat → Int} (h : St4 w wr M V n S C) : St4 w wr.drew M V n S C :=
  ⟨h.below.drew, h.ent, h.v0, h.room, h.soft, h.nM, h.MV⟩
theorem St4.string {w wr : World} {M V n : Nat} {S : Nat → ByteArray} {C : Nat → Int} (h : St4 w wr M V n S C) (i : Nat) (h1 : 1 ≤ i) (h2 : i ≤ n) (s : ByteArray) :
    St4 w (wr.setCell ⟨M, i * 2, none⟩ (.string s)) M V n S C := by
  have hn := h.nM
  have hv := h.MV
  obtain ⟨s0, c0, e0, e1⟩ := h.room i h1 h2
  refine ⟨h.below.setCell (Nat.le_of_lt hn) _, fun j hj => ?_, ?_, fun j j1 j2 => ?_, fun o => ?_, hn, hv⟩
  · rw [cell_other (by show M ≠ _; omega), cell_other (by show M ≠ _; omega)]; exact h.ent j hj
  · rw [cell_other (by show M ≠ _; omega)]; exact h.v0
  · by_cases e : j = i
    · subst e
      exact ⟨s, c0, World.cell?_setCell_same _ _ _ e0, by rw [World.cell?_setCell_other _ _ _ _ (fun e => by injection e; omega)]; exact e1⟩
    · rw [World.cell?_setCell_other _ _ _ _ (fun e => by injection e; omega), World.cell?_setCell_other _ _ _ _ (fun e => by injection e; omega)]; exact h.room j j1 j2
  · rw [World.frozen?_setCell]; exact h.soft o
theorem St4.count {w wr : World} {M V n : Nat} {S : Nat → ByteArray} {C : Nat → Int} (h : St4 w wr M V n S C) (i : Nat) (h1 : 1 ≤ i) (h2 : i ≤ n) (c : Int) :
    St4 w (wr.setCell ⟨M, i * 2 + 1, none⟩ (.int .u64 c)) M V n S C := by
  have hn := h.nM
  have hv := h.MV
  obtain ⟨s0, c0, e0, e1⟩ := h.room i h1 h2
  refine ⟨h.below.setCell (Nat.le_of_lt hn) _, fun j hj => ?_, ?_, fun j j1 j2 => ?_, fun o => ?_, hn, hv⟩
  · rw [cell_other (by show M ≠ _; omega), cell_other (by show M ≠ _; omega)]; exact h.ent j hj
  · rw [cell_other (by show M ≠ _; omega)]; exact h.v0
  · by_cases e : j = i
    · subst e
      exact ⟨s0, c, by rw [World.cell?_setCell_other _ _ _ _ (fun e => by injection e; omega)]; exact e0, World.cell?_setCell_same _ _ _ e1⟩
    · rw [World.cell?_setCell_other _ _ _ _ (fun e => by injection e; omega), World.cell?_setCell_other _ _ _ _ (fun e => by injection e; omega)]; exact h.room j j1 j2
  · rw [World.frozen?_setCell]; exact h.soft o

set_option maxHeartbeats 400000 in
set_option maxRecDepth 100000 in
theorem law_some (n cap b off : Nat) (S : Nat → ByteArray) (C : Nat → Int) (w : World) (h0 : 1 ≤ n) (h1 : n ≤ 1048576)
    (hc : ∀ i, i < n → w.cell? ⟨b, off + i * 2, none⟩ = some (.string (S i)) ∧ w.cell? ⟨b, off + i * 2 + 1, none⟩ = some (.int .u64 (C i))) :
    Calls Yba.prog 3 #[.slice (some ⟨b, off, none⟩) n cap] w fun e w' => e = .returned (.bool true) ∧ Below w.heap.size w w' := by
  have HC : Hid (∀ i, i < n → w.cell? ⟨b, off + i * 2, none⟩ = some (.string (S i)) ∧ w.cell? ⟨b, off + i * 2 + 1, none⟩ = some (.int .u64 (C i))) := hc
  clear hc
  have hmk := make_any n (by omega)
  have q1 := fun (w : World) (a : Option Addr) (n c n' c' : Nat) => run_neq_slice_nil_any (P := Yba.prog) w 22 26 a n c n' c' Yba.underlying22
  have q2 := fun (w : World) (a : Option Addr) (n c n' c' : Nat) => Lib.run_eql_slice_nil (P := Yba.prog) w 23 28 a n c n' c' Yba.underlying23
  go_enter Yba.func3, Yba.ntmps3
  go_wp2
  go_loopw [21] (fun i wr => ∃ k : Nat, k ≤ n ∧ i = .int .i64 k ∧ Hid (Fill w wr n k S C)) (fun i _ => n - (intOf i).toNat)
  case atStart => exact ⟨0, Nat.zero_le _, rfl, fill_start w n S C⟩
  case round =>
    obtain ⟨k, hk, rfl, HF⟩ := hrel
    by_cases hlt : k < n
    · have hin := HC.out k hlt
      have hx0 := cell_later HF.out.below hin.1
      have hx1 := cell_later HF.out.below hin.2
      obtain ⟨v0, v1, hy0, hy1⟩ := HF.out.there k hlt
      have hf0 := HF.out.soft (k * 2)
      have hf1 := HF.out.soft (k * 2 + 1)
      clear hin
      go_wp2
      go_region
      go_wp2
      go_roundw
      case rel => exact ⟨k + 1, by omega, by go_num, fill_step HF.out hlt⟩
      case measure => simp [intOf]; omega
    · obtain rfl : k = n := by omega
      go_wp2_with fail
      refine (vectorOf_any k k w.heap.size S C wr h0 h1 HF.out.done).mono ?_
      rintro e w5 ⟨M, rfl, HR⟩
      have HS : Hid _ := St.start HF.out HR
      clear HF HR
      go_wp2_with fail
      go_loopw [7] (fun i wr => ∃ j : Nat, j ≤ k ∧ i = .int .i64 j ∧ Hid (St w wr M w5.heap.size k S C)) (fun i _ => k - (intOf i).toNat)
      case atStart => exact ⟨0, Nat.zero_le _, rfl, HS⟩
      case round =>
        obtain ⟨j, hj, rfl, HT⟩ := hrel
        clear HS
        by_cases hjk : j < k
        · have hx0 := cell_later HT.out.below (HC.out j hjk).1
          have hx1 := cell_later HT.out.below (HC.out j hjk).2
          have hy0 := (HT.out.ent j hjk).1
          have hy1 := (HT.out.ent j hjk).2
          go_wp2_with fail
          go_quiet (fail)
          go_wp2_with fail
          exact ⟨⟨j + 1, by omega, by go_num, HT.out.drewN nq⟩, by simp [intOf]; omega⟩
        · have hv0 := HT.out.v0
          have hr0 := HT.out.r0
          have hr1 := HT.out.r1
          have hk0 : ((k : Int) == 0) = false := by simp; omega
          go_wp2_with fail
          clear hv0 hr0 hr1
          go_loopw [8] (fun i wr => ∃ j : Nat, j ≤ k ∧ i = .int .i64 j ∧ Hid (St w wr M w5.heap.size k S C)) (fun i _ => k - (intOf i).toNat)
          case atStart => exact ⟨0, Nat.zero_le _, rfl, HT⟩
          case round =>
            clear HT
            obtain ⟨j, hj, rfl, HT⟩ := hrel
            by_cases hjk : j < k
            · have hx0 := cell_later HT.out.below (HC.out j hjk).1
              have hx1 := cell_later HT.out.below (HC.out j hjk).2
              have hy0 : wr.cell? ⟨M, (1 + j) * 2, none⟩ = some (.string (S j)) := by rw [show (1 + j) * 2 = j * 2 + 2 by omega]; exact (HT.out.room j hjk).1
              have hy1 : wr.cell? ⟨M, (1 + j) * 2 + 1, none⟩ = some (.int .u64 (C j)) := by rw [show (1 + j) * 2 + 1 = j * 2 + 3 by omega]; exact (HT.out.room j hjk).2
              have hv0 := HT.out.v0
              have hb0 : (0 : Int) ≤ 1 + (j : Int) := by omega
              have hb1 : 1 + (j : Int) < (k : Int) + 1 := by omega
              have ht : (1 + (j : Int)).toNat = 1 + j := by omega
              go_wp2_with fail
              go_quiet (fail)
              go_wp2_with fail
              exact ⟨⟨j + 1, by omega, by go_num, HT.out.drewN nq⟩, by simp [intOf]; omega⟩
            · go_wp2_with fail
              go_loopw [9] (fun i wr => ∃ j : Nat, 1 ≤ j ∧ j ≤ k + 1 ∧ i = .int .i64 j ∧ Hid (St4 w wr M w5.heap.size k S C)) (fun i _ => k + 1 - (intOf i).toNat)
              case atStart => exact ⟨1, Nat.le_refl _, by omega, rfl, HT.out.four⟩
              case round =>
                clear HT
                obtain ⟨j, hj1, hj2, rfl, HT⟩ := hrel
                by_cases hjk : j ≤ k
                · obtain ⟨s, c, hy0, hy1⟩ := HT.out.room j hj1 hjk
                  have hv0 := HT.out.v0
                  have hf0 := HT.out.soft (j * 2)
                  have hf1 := HT.out.soft (j * 2 + 1)
                  have hb1 : (j : Int) < (k : Int) + 1 := by omega
                  have hMV : ¬ M = w5.heap.size := by have := HT.out.MV; omega
                  go_wp2_with fail
                  go_region
                  go_wp2_with fail
                  exact ⟨⟨j + 1, by omega, by omega, by go_num, ((HT.out.count j hj1 hjk _).string j hj1 hjk _).drew⟩, by simp [intOf]; omega⟩
                · go_wp2_with fail
                  go_loopw [10] (fun i wr => ∃ j : Nat, j ≤ k ∧ i = .int .i64 j ∧ Hid (St4 w wr M w5.heap.size k S C)) (fun i _ => k - (intOf i).toNat)
                  case atStart => exact ⟨0, Nat.zero_le _, rfl, HT⟩
                  case round =>
                    clear HT
                    obtain ⟨j, hj, rfl, HT⟩ := hrel
                    by_cases hjk : j < k
                    · have hx0 := cell_later HT.out.below (HC.out j hjk).1
                      have hx1 := cell_later HT.out.below (HC.out j hjk).2
                      have hy0 := (HT.out.ent j hjk).1
                      have hy1 := (HT.out.ent j hjk).2
                      go_wp2_with fail
                      go_quiet (fail)
                      go_wp2_with fail
                      exact ⟨⟨j + 1, by omega, by go_num, HT.out.drewN nq⟩, by simp [intOf]; omega⟩
                    · go_wp2_with fail
                      go_ret
                      exact ⟨rfl, HT.out.below⟩
end Go.Proofs.Ybulkfimy
