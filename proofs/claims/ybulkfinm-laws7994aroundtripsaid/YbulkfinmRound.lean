import Derived.Test.YbulkfinmTake
import Derived.Test.YbulkfinmInv
import Derived.Test.YbulkfinmWhole0
namespace Go.Proofs.Ybulkfinm
open Go.RowKit

attribute [local go_sem] mapAt_drew mapAt_drewN mapAt_setCell mapAt_alloc mapAt_made mapAt_put cell?_put frozen?_put size_putMap putMap_drew putMap_putMap

theorem new_any (lim sh : Int) (w : World) :
    Calls Yba.prog 11 #[.int .i64 lim, .int .i64 sh] w fun e w' => ∃ b bm, e = .returned (.pointer (some ⟨b, 0, none⟩)) ∧ w.heap.size ≤ b ∧ w.heap.size ≤ bm ∧ Stage w' w' b bm lim sh 0 0 0 #[] 0 ∧ Below w.heap.size w w' := by
  have hmm := @run_makeMap Yba.prog
  go_enter Yba.func11, Yba.ntmps11
  go_wp2
  go_ret
  refine ⟨w.heap.size + 1, w.heap.size, rfl, by omega, by omega, stage_new (w.alloc (.map #[] 0)) (w.heap.size + 1) w.heap.size #[] 0 lim sh 0 0 (by simp) rfl (by simp [go_sem]), ?_⟩
  exact ((Below.refl _ _).alloc (Nat.le_refl _) _).alloc (by simp) _

theorem take_round (a : Bool) (b bm : Nat) (lim sh o r : Int) (es : Array MapEntry) (c : Nat) (M : Bool → Option Int) (k : Nat) (hE : Ents es c M) (hI : Inv M o k) (hk : k ≤ 65536) (w : World) (hS : Stage w w b bm lim sh 0 o r es c) :
    Calls Yba.prog 12 #[.pointer (some ⟨b, 0, none⟩), kb a] w fun e w' => ∃ t o' r' M' es' c', e = .returned (.bool t) ∧ Stage w w' b bm lim sh 0 o' r' es' c' ∧ Ents es' c' M' ∧ Inv M' o' (k + 1) := by
  cases hf : fullB M a lim sh o
  · refine (take_ok a b bm lim sh o r es c M hE w hS hf).mono ?_
    rintro e w' ⟨rfl, es', c', h1, h2⟩
    exact ⟨true, _, _, _, _, _, rfl, h1, h2, hI.take hk a⟩
  · refine (take_no a b bm lim sh o r es c M hE w hS hf).mono ?_
    rintro e w' ⟨rfl, es', c', h1, h2⟩
    exact ⟨false, _, _, _, _, _, rfl, h1, h2, hI.mono⟩

theorem give_round (a : Bool) (b bm : Nat) (lim sh o r : Int) (es : Array MapEntry) (c : Nat) (M : Bool → Option Int) (k : Nat) (hE : Ents es c M) (hI : Inv M o k) (hk : k ≤ 65536) (hg : 0 < (M a).getD 0) (w : World) (hS : Stage w w b bm lim sh 0 o r es c) :
    Calls Yba.prog 7 #[.pointer (some ⟨b, 0, none⟩), kb a] w fun e w' => ∃ o' M' es' c', e = .returned (.tuple #[]) ∧ Stage w w' b bm lim sh 0 o' r es' c' ∧ Ents es' c' M' ∧ Inv M' o' (k + 1) := by
  refine (give_any a b bm lim sh o r es c M hE w hS).mono ?_
  rintro e w' ⟨rfl, es', c', h1, h2⟩
  exact ⟨_, _, _, _, rfl, h1, h2, hI.give hk a hg⟩

theorem src_new (X : World) (B : Obj) (a : Bool) (n : Nat) (hn : n = X.heap.size + 1) : Src ((X.alloc B).alloc (.cells #[.bool a, .int .u64 0, .int .u64 0, .pointer none, .int .u8 0] 33)) n a := by
  subst hn
  refine ⟨?_, ?_, ?_, ?_, ?_⟩ <;> simp [go_sem]

set_option maxRecDepth 100000 in
set_option maxHeartbeats 400000 in
theorem round_big (lim sh : Int) (ad : Option Addr) (n cap : Nat) (s : Int) (w : World) (h : 65536 < (n : Int)) :
    Calls Yba.prog 4 #[.int .i64 lim, .int .i64 sh, .slice ad n cap, .int .u8 s] w fun e w' => e = .returned (.bool true) ∧ Below w.heap.size w w' := by
  go_enter Yba.func4, Yba.ntmps4
  go_wp2
  go_ret
  exact ⟨rfl, Below.refl _ _⟩

/-- the state between two rounds -/
def At (w1 wr : World) (b bm : Nat) (lim sh : Int) (k : Nat) : Prop := ∃ o r es c M, Stage w1 wr b bm lim sh 0 o r es c ∧ Ents es c M ∧ Inv M o k

set_option maxRecDepth 100000 in
set_option maxHeartbeats 2000000 in
theorem round_trip (lim sh : Int) (ad : Option Addr) (n cap bo oo : Nat) (had : 0 < n → ad = some ⟨bo, oo, none⟩) (X : Nat → Int) (s : Int) (hs0 : 0 ≤ s) (hs1 : s ≤ 255) (hn : n ≤ 65536) (w : World)
    (hX : ∀ i, i < n → w.cell? ⟨bo, oo + i, none⟩ = some (.int .u8 (X i)) ∧ 0 ≤ X i ∧ X i ≤ 255) :
    Calls Yba.prog 4 #[.int .i64 lim, .int .i64 sh, .slice ad n cap, .int .u8 s] w fun e w' => e = .returned (.bool true) ∧ Below w.heap.size w w' := by
  have HX : Hid (∀ i, i < n → w.cell? ⟨bo, oo + i, none⟩ = some (.int .u8 (X i)) ∧ 0 ≤ X i ∧ X i ≤ 255) := hX
  have HAD : Hid (0 < n → ad = some ⟨bo, oo, none⟩) := had
  clear hX had
  go_enter Yba.func4, Yba.ntmps4
  go_wp2_with fail
  refine (new_any lim sh _).mono ?_
  rintro e w1 ⟨b, bm, rfl, hb, hbm, hS, hB⟩
  have HS : Hid _ := hS
  have HB : Hid (Below w.heap.size w w1) := (((Below.refl _ _).alloc (Nat.le_refl _) _).alloc (by simp) _).trans (hB.mono (by simp; omega))
  have HQ0 : Hid (Src w1 w.heap.size true) := ⟨cell_later hB (by simp [go_sem]), cell_later hB (by simp [go_sem]), cell_later hB (by simp [go_sem]), cell_later hB (by simp [go_sem]), cell_later hB (by simp [go_sem])⟩
  have HQ1 : Hid (Src w1 (w.heap.size + 1) false) := ⟨cell_later hB (by simp [go_sem]), cell_later hB (by simp [go_sem]), cell_later hB (by simp [go_sem]), cell_later hB (by simp [go_sem]), cell_later hB (by simp [go_sem])⟩
  have hw1 : w.heap.size + 2 ≤ w1.heap.size := by have := hB.size; simpa using this
  simp at hb hbm
  clear hS hB
  go_wp2_with fail
  go_loopw [12] (fun i wr => ∃ k : Nat, k ≤ n ∧ i = .int .i64 k ∧ Hid (At w1 wr b bm lim sh k)) (fun i _ => n - (intOf i).toNat)
  case atStart => exact ⟨0, Nat.zero_le _, rfl, _, _, _, _, _, HS.out, .inl ⟨rfl, fun _ => rfl⟩, Inv.start⟩
  case round =>
    obtain ⟨k, hk, rfl, HA⟩ := hrel
    obtain ⟨o, r, es, c, M, hS, hE, hI⟩ := HA.out
    clear HA HS
    have HS2 : Hid (Stage w1 wr b bm lim sh 0 o r es c) := hS
    have HE : Hid (Ents es c M) := hE
    have HI : Hid (Inv M o k) := hI
    have hsz := hS.size
    have hb1 : b < wr.heap.size := Nat.lt_of_lt_of_le hS.hb hS.size
    have hb2 : b < wr.heap.size + 1 := by omega
    have hbm1 : bm < wr.heap.size := Nat.lt_of_lt_of_le hS.hbm hS.size
    have hbm2 : bm < wr.heap.size + 1 := by omega
    by_cases hlt : k < n
    · have had := HAD.out (by omega)
      clear HAD
      subst had
      obtain ⟨x, hx, x0, x1⟩ : ∃ x, wr.cell? ⟨bo, oo + k, none⟩ = some (.int .u8 x) ∧ 0 ≤ x ∧ x ≤ 255 :=
        ⟨X k, cell_later (hS.below _ _ (by omega) (by omega) HB.out) (HX.out k hlt).1, (HX.out k hlt).2⟩
      by_cases ht : x / 2 % 2 = 0
      · have ht' : (x / 2 % 2 == 0) = true := by simpa using ht
        clear ht hS hE hI
        go_wp2_with fail
        refine (src_any x x0 x1 _).mono ?_
        rintro e w2 ⟨rfl, d1, rfl⟩
        obtain ⟨a, ha⟩ : ∃ a, (x % 2 == 0) = a := ⟨_, rfl⟩
        rw [ha]
        clear ha
        go_wp2_with fail
        refine (take_round a b bm lim sh o r es c M k HE.out HI.out (by omega) _ (((HS2.out.alloc _).alloc _).start)).mono ?_
        rintro e w2 ⟨t, o2, r2, M2, es2, c2, rfl, hT, hE2, hI2⟩
        have hU := ((HS2.out.alloc _).alloc _).trans hT
        have HU : Hid (Stage w1 w2 b bm lim sh 0 o2 r2 es2 c2) := hU
        have HE2 : Hid (Ents es2 c2 M2) := hE2
        have HI2 : Hid (Inv M2 o2 (k + 1)) := hI2
        have c4 := hU.c4
        have c5 := hU.c5
        have hm := hU.map
        obtain ⟨q0, q1, q2, q3, q4⟩ := hU.src HQ1.out (by omega) (by omega) (by omega)
        have hl := fun W => run_look hE2 false false bm W
        rw [← hI2.2] at hl
        simp only [Bool.false_eq_true, if_false] at hl
        clear hT hU hE2 hI2 HS2 HE HI
        go_wp2_with fail
        go_quiet (fail)
        go_wp2_with fail
        exact ⟨⟨k + 1, by omega, by go_num, _, _, _, _, _, HU.out.drewN _, HE2.out, HI2.out⟩, by simp [intOf]; omega⟩
      · have ht' : (x / 2 % 2 == 0) = false := by simpa using ht
        have c4 := hS.c4
        have c5 := hS.c5
        have hm := hS.map
        clear ht hS hE hI
        go_wp2_with fail
        refine (src_any x x0 x1 _).mono ?_
        rintro e w2 ⟨rfl, d1, rfl⟩
        obtain ⟨a, ha⟩ : ∃ a, (x % 2 == 0) = a := ⟨_, rfl⟩
        rw [ha]
        clear ha
        have hl := fun W => run_look HE.out a false bm W
        obtain ⟨g, hgv⟩ : ∃ g, (M a).getD 0 = g := ⟨_, rfl⟩
        rw [hgv] at hl
        simp only [Bool.false_eq_true, if_false] at hl
        by_cases hg : 0 < g
        · have HG : Hid (0 < (M a).getD 0) := by show _ < _; rw [hgv]; exact hg
          clear hgv
          go_wp2_with fail
          go_quiet (fail)
          go_wp2_with fail
          refine (give_round a b bm lim sh o r es c M k HE.out HI.out (by omega) HG.out _ ((((HS2.out.alloc _).alloc _).drewN _).start)).mono ?_
          rintro e w2 ⟨o2, M2, es2, c2, rfl, hT, hE2, hI2⟩
          have hU := (((HS2.out.alloc _).alloc _).drewN _).trans hT
          have HU : Hid (Stage w1 w2 b bm lim sh 0 o2 r es2 c2) := hU
          have HE2 : Hid (Ents es2 c2 M2) := hE2
          have HI2 : Hid (Inv M2 o2 (k + 1)) := hI2
          clear c4 c5 hm hl
          have c4 := hU.c4
          have c5 := hU.c5
          have hm := hU.map
          obtain ⟨q0, q1, q2, q3, q4⟩ := hU.src HQ1.out (by omega) (by omega) (by omega)
          have hl := fun W => run_look hE2 false false bm W
          rw [← hI2.2] at hl
          simp only [Bool.false_eq_true, if_false] at hl
          clear hT hU hE2 hI2 HS2 HE HI HG hx
          go_wp2_with fail
          go_quiet (fail)
          go_wp2_with fail
          exact ⟨⟨k + 1, by omega, by go_num, _, _, _, _, _, HU.out.drewN _, HE2.out, HI2.out⟩, by simp [intOf]; omega⟩
        · obtain ⟨q0, q1, q2, q3, q4⟩ := HS2.out.src HQ1.out (by omega) (by omega) (by omega)
          have hlo := fun W => run_look HE.out false false bm W
          rw [← HI.out.2] at hlo
          simp only [Bool.false_eq_true, if_false] at hlo
          have hq1 : w.heap.size + 1 < wr.heap.size := by omega
          have hq2 : w.heap.size + 1 < wr.heap.size + 1 := by omega
          clear hgv
          go_wp2_with fail
          go_quiet (fail)
          go_wp2_with fail
          go_quiet (fail)
          go_wp2_with fail
          exact ⟨⟨k + 1, by omega, by go_num, _, _, _, _, _, ((HS2.out.alloc _).alloc _).drewN _, HE.out, HI.out.mono⟩, by simp [intOf]; omega⟩
    · have c4 := hS.c4
      have c5 := hS.c5
      have c6 := hS.c6
      have hm := hS.map
      obtain ⟨p0, p1, p2, p3, p4⟩ := hS.src HQ0.out (by omega) (by omega) (by omega)
      obtain ⟨q0, q1, q2, q3, q4⟩ := hS.src HQ1.out (by omega) (by omega) (by omega)
      have hlT := fun W => run_look hE true true bm W
      have hlF := fun W => run_look hE false true bm W
      simp only [if_true] at hlT hlF
      clear hS hE hI
      go_wp2_with fail
      go_quiet (fail)
      go_wp2_with fail
      go_quiet (fail)
      go_wp2_with fail
      refine (load_any b r _ (by exact c6)).mono ?_
      rintro e w2 ⟨rfl, rfl⟩
      go_wp2_with fail
      refine (src_any s hs0 hs1 _).mono ?_
      rintro e w2 ⟨rfl, d1, rfl⟩
      obtain ⟨a, ha⟩ : ∃ a, (s % 2 == 0) = a := ⟨_, rfl⟩
      rw [ha]
      clear ha
      go_wp2_with fail
      cases hf : fullB M a lim sh o
      · refine (take_ok a b bm lim sh o r es c M HE.out _ ((((HS2.out.drewN _).alloc _).alloc _).start) hf).mono ?_
        rintro e w2 ⟨rfl, es2, c2, hT, hE2⟩
        have hV := (((HS2.out.drewN _).alloc _).alloc _).trans hT
        obtain ⟨s0, s1, s2, s3, s4⟩ := hT.src (src_new _ _ a (wr.heap.size + 1) rfl) (by simp) (by omega) (by omega)
        have HV : Hid _ := hV
        have HE2 : Hid _ := hE2
        clear hT hV hE2
        go_wp2_with fail
        refine (give_any a b bm lim sh _ r es2 c2 _ HE2.out _ HV.out.start).mono ?_
        rintro e w3 ⟨rfl, es3, c3, hT, hE3⟩
        have hU := HV.out.trans hT
        rw [(HI.out.back (by omega) a).1] at hE3
        rw [(HI.out.back (by omega) a).2] at hU
        have HU : Hid (Stage w1 w3 b bm lim sh 0 o r es3 c3) := hU
        clear c4 c5 c6 hm p0 p1 p2 p3 p4 q0 q1 q2 q3 q4 hlT hlF
        have c0 := hU.c0
        have c1 := hU.c1
        have c4 := hU.c4
        have c5 := hU.c5
        have c6 := hU.c6
        have hm := hU.map
        obtain ⟨p0, p1, p2, p3, p4⟩ := hU.src HQ0.out (by omega) (by omega) (by omega)
        obtain ⟨q0, q1, q2, q3, q4⟩ := hU.src HQ1.out (by omega) (by omega) (by omega)
        have hlT := fun W => run_look hE3 true true bm W
        have hlF := fun W => run_look hE3 false true bm W
        simp only [if_true] at hlT hlF
        clear hT hU hE3 HE2 HV HS2 HE HI s0 s1 s2 s3 s4 hf
        go_wp2_with fail
        go_quiet (fail)
        go_wp2_with fail
        go_quiet (fail)
        go_wp2_with fail
        refine (load_any b _ _ (by exact c6)).mono ?_
        rintro e w4 ⟨rfl, rfl⟩
        go_wp2_with fail
        go_ret
        exact ⟨rfl, below_drewN (HU.out.below _ _ (by omega) (by omega) HB.out) _⟩
      · refine (take_no a b bm lim sh o r es c M HE.out _ ((((HS2.out.drewN _).alloc _).alloc _).start) hf).mono ?_
        rintro e w3 ⟨rfl, es3, c3, hT, hE3⟩
        have hU := (((HS2.out.drewN _).alloc _).alloc _).trans hT
        have HU : Hid (Stage w1 w3 b bm lim sh 0 o (wrap64 (r + 1)) es3 c3) := hU
        clear c4 c5 c6 hm p0 p1 p2 p3 p4 q0 q1 q2 q3 q4 hlT hlF
        have c0 := hU.c0
        have c1 := hU.c1
        have c4 := hU.c4
        have c5 := hU.c5
        have c6 := hU.c6
        have hm := hU.map
        obtain ⟨p0, p1, p2, p3, p4⟩ := hU.src HQ0.out (by omega) (by omega) (by omega)
        obtain ⟨q0, q1, q2, q3, q4⟩ := hU.src HQ1.out (by omega) (by omega) (by omega)
        have hlT := fun W => run_look hE3 true true bm W
        have hlF := fun W => run_look hE3 false true bm W
        simp only [if_true] at hlT hlF
        clear hT hU hE3 HS2 HE HI hf
        go_wp2_with fail
        go_quiet (fail)
        go_wp2_with fail
        go_quiet (fail)
        go_wp2_with fail
        refine (load_any b _ _ (by exact c6)).mono ?_
        rintro e w4 ⟨rfl, rfl⟩
        go_wp2_with fail
        go_ret
        exact ⟨rfl, below_drewN (HU.out.below _ _ (by omega) (by omega) HB.out) _⟩
end Go.Proofs.Ybulkfinm
