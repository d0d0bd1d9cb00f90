import Derived.Test.YbulkfinmGive
import Derived.Test.YbulkfinmSmall
namespace Go.Proofs.Ybulkfinm
open Go.RowKit Go.MuLone

attribute [local go_sem] mapAt_drew mapAt_drewN mapAt_setCell mapAt_alloc mapAt_put cell?_put frozen?_put size_putMap putMap_drew putMap_putMap

set_option maxHeartbeats 1000000 in
theorem take_other_ok (b bm : Nat) (lim sh o r : Int) (es : Array MapEntry) (c : Nat) (M : Bool → Option Int) (hE : Ents es c M) (w : World) (hS : Stage w w b bm lim sh 0 o r es c) (h1 : ¬ lim ≤ o) (h2 : ¬ sh ≤ (M false).getD 0) :
    Calls Yba.prog 12 #[.pointer (some ⟨b, 0, none⟩), kb false] w fun e w' => e = .returned (.bool true) ∧ ∃ es' c', Stage w w' b bm lim sh 0 (wrap64 (o + 1)) r es' c' ∧ Ents es' c' (set M false (some (wrap64 ((M false).getD 0 + 1)))) := by
  have hl := fun W => run_look hE false false bm W
  obtain ⟨v0, s, es1, c1, es2, g2, g3, hE1, g4⟩ := run_entry hE false bm
  have hl1 := fun W => run_look hE1 false false bm W
  rw [set_same, Option.getD_some] at hl1
  obtain ⟨g, hg⟩ : ∃ g, (M false).getD 0 = g := ⟨_, rfl⟩
  rw [hg] at hl hl1 h2
  have H4 : Hid (Ents (es2 (wrap64 (g + 1))) c1 (set M false (some (wrap64 ((M false).getD 0 + 1))))) := by rw [hg]; exact g4 _
  clear g4 hE1
  simp only [Bool.false_eq_true, if_false] at hl hl1
  have HS : Hid (Stage w w b bm lim sh 0 o r es c) := hS
  have hb := hS.hb
  have hbm := hS.hbm
  have hne := hS.ne
  have c0 := hS.c0
  have c1' := hS.c1
  have c2 := hS.c2
  have c4 := hS.c4
  have c5 := hS.c5
  have c6 := hS.c6
  have f2 := hS.soft 2
  have f5 := hS.soft 5
  have f6 := hS.soft 6
  have hm := hS.map
  have n1 : ¬ w.heap.size = bm := by omega
  have n2 : bm < w.heap.size + 1 := by omega
  have d1 : decide (lim ≤ o) = false := by simpa using h1
  have d2 : decide (sh ≤ g) = false := by simpa using h2
  clear hg hS hE
  go_enter_defers Yba.func12, Yba.ntmps12
  go_wp2_with fail
  refine (lock_free Yba.muLib ⟨b, 2, none⟩ _ (by simp [go_sem, c2, hb]) (by simp [go_sem, f2, hb])).mono ?_
  rintro e w' ⟨rfl, rfl⟩
  go_wp2_with fail
  go_quiet (fail)
  go_wp2_with fail
  go_region
  go_wp2_with fail
  refine leaves_cons (f := 15) (args := #[.pointer (some ⟨b, 2, none⟩)]) (by simp) (by simp [go_sem]) ?_
  refine (unlock_deferred Yba.muLib ⟨b, 2, none⟩ .returning _ ?_ ?_).mono ?_
  · exact ((((((HS.out.lock 1).alloc _).drewN _).others _).put _ _).drew).c2
  · exact ((((((HS.out.lock 1).alloc _).drewN _).others _).put _ _).drew).soft 2
  rintro e u' w'' ⟨rfl, rfl, rfl⟩
  exact ⟨_, results_tmp rfl _ _ _, rfl, _, _, ((((((HS.out.lock 1).alloc _).drewN _).others _).put _ _).drew).lock 0, H4.out⟩

set_option maxHeartbeats 1000000 in
theorem take_other_no1 (b bm : Nat) (lim sh o r : Int) (es : Array MapEntry) (c : Nat) (M : Bool → Option Int) (hE : Ents es c M) (w : World) (hS : Stage w w b bm lim sh 0 o r es c) (h1 : lim ≤ o) :
    Calls Yba.prog 12 #[.pointer (some ⟨b, 0, none⟩), kb false] w fun e w' => e = .returned (.bool false) ∧ ∃ es' c', Stage w w' b bm lim sh 0 o (wrap64 (r + 1)) es' c' ∧ Ents es' c' M := by
  have hl := fun W => run_look hE false false bm W
  obtain ⟨g, hg⟩ : ∃ g, (M false).getD 0 = g := ⟨_, rfl⟩
  rw [hg] at hl
  have H4 : Hid (Ents es c M) := hE
  simp only [Bool.false_eq_true, if_false] at hl
  have HS : Hid (Stage w w b bm lim sh 0 o r es c) := hS
  have hb := hS.hb
  have hbm := hS.hbm
  have hne := hS.ne
  have c0 := hS.c0
  have c1' := hS.c1
  have c2 := hS.c2
  have c4 := hS.c4
  have c5 := hS.c5
  have c6 := hS.c6
  have f2 := hS.soft 2
  have f5 := hS.soft 5
  have f6 := hS.soft 6
  have hm := hS.map
  have n1 : ¬ w.heap.size = bm := by omega
  have n2 : bm < w.heap.size + 1 := by omega
  clear hg hS hE
  go_enter_defers Yba.func12, Yba.ntmps12
  go_wp2_with fail
  refine (lock_free Yba.muLib ⟨b, 2, none⟩ _ (by simp [go_sem, c2, hb]) (by simp [go_sem, f2, hb])).mono ?_
  rintro e w' ⟨rfl, rfl⟩
  go_wp2_with fail
  go_quiet (fail)
  go_wp2_with fail
  refine (add_any b r 1 _ (by simp [go_sem, c6, hb]) (by simp [go_sem, f6, hb])).mono ?_
  rintro e w' ⟨rfl, rfl⟩
  go_wp2_with fail
  refine leaves_cons (f := 15) (args := #[.pointer (some ⟨b, 2, none⟩)]) (by simp) (by simp [go_sem]) ?_
  refine (unlock_deferred Yba.muLib ⟨b, 2, none⟩ .returning _ ?_ ?_).mono ?_
  · exact ((((HS.out.lock 1).alloc _).drewN _).refused _).c2
  · exact ((((HS.out.lock 1).alloc _).drewN _).refused _).soft 2
  rintro e u' w'' ⟨rfl, rfl, rfl⟩
  exact ⟨_, results_tmp rfl _ _ _, rfl, _, _, ((((HS.out.lock 1).alloc _).drewN _).refused _).lock 0, H4.out⟩

set_option maxHeartbeats 1000000 in
theorem take_other_no2 (b bm : Nat) (lim sh o r : Int) (es : Array MapEntry) (c : Nat) (M : Bool → Option Int) (hE : Ents es c M) (w : World) (hS : Stage w w b bm lim sh 0 o r es c) (h1 : ¬ lim ≤ o) (h2 : sh ≤ (M false).getD 0) :
    Calls Yba.prog 12 #[.pointer (some ⟨b, 0, none⟩), kb false] w fun e w' => e = .returned (.bool false) ∧ ∃ es' c', Stage w w' b bm lim sh 0 o (wrap64 (r + 1)) es' c' ∧ Ents es' c' M := by
  have hl := fun W => run_look hE false false bm W
  obtain ⟨g, hg⟩ : ∃ g, (M false).getD 0 = g := ⟨_, rfl⟩
  rw [hg] at hl h2
  have H4 : Hid (Ents es c M) := hE
  simp only [Bool.false_eq_true, if_false] at hl
  have HS : Hid (Stage w w b bm lim sh 0 o r es c) := hS
  have hb := hS.hb
  have hbm := hS.hbm
  have hne := hS.ne
  have c0 := hS.c0
  have c1' := hS.c1
  have c2 := hS.c2
  have c4 := hS.c4
  have c5 := hS.c5
  have c6 := hS.c6
  have f2 := hS.soft 2
  have f5 := hS.soft 5
  have f6 := hS.soft 6
  have hm := hS.map
  have n1 : ¬ w.heap.size = bm := by omega
  have n2 : bm < w.heap.size + 1 := by omega
  have d1 : decide (lim ≤ o) = false := by simpa using h1
  clear hg hS hE
  go_enter_defers Yba.func12, Yba.ntmps12
  go_wp2_with fail
  refine (lock_free Yba.muLib ⟨b, 2, none⟩ _ (by simp [go_sem, c2, hb]) (by simp [go_sem, f2, hb])).mono ?_
  rintro e w' ⟨rfl, rfl⟩
  go_wp2_with fail
  go_quiet (fail)
  go_wp2_with fail
  refine (add_any b r 1 _ (by simp [go_sem, c6, hb]) (by simp [go_sem, f6, hb])).mono ?_
  rintro e w' ⟨rfl, rfl⟩
  go_wp2_with fail
  refine leaves_cons (f := 15) (args := #[.pointer (some ⟨b, 2, none⟩)]) (by simp) (by simp [go_sem]) ?_
  refine (unlock_deferred Yba.muLib ⟨b, 2, none⟩ .returning _ ?_ ?_).mono ?_
  · exact ((((HS.out.lock 1).alloc _).drewN _).refused _).c2
  · exact ((((HS.out.lock 1).alloc _).drewN _).refused _).soft 2
  rintro e u' w'' ⟨rfl, rfl, rfl⟩
  exact ⟨_, results_tmp rfl _ _ _, rfl, _, _, ((((HS.out.lock 1).alloc _).drewN _).refused _).lock 0, H4.out⟩

set_option maxHeartbeats 1000000 in
theorem take_loop_no1 (b bm : Nat) (lim sh o r : Int) (es : Array MapEntry) (c : Nat) (M : Bool → Option Int) (hE : Ents es c M) (w : World) (hS : Stage w w b bm lim sh 0 o r es c) (h1 : lim ≤ o) (h3 : lim ≤ (M true).getD 0) :
    Calls Yba.prog 12 #[.pointer (some ⟨b, 0, none⟩), kb true] w fun e w' => e = .returned (.bool false) ∧ ∃ es' c', Stage w w' b bm lim sh 0 o (wrap64 (r + 1)) es' c' ∧ Ents es' c' M := by
  have hl := fun W => run_look hE true false bm W
  obtain ⟨g, hg⟩ : ∃ g, (M true).getD 0 = g := ⟨_, rfl⟩
  rw [hg] at hl h3
  have H4 : Hid (Ents es c M) := hE
  simp only [Bool.false_eq_true, if_false] at hl
  have HS : Hid (Stage w w b bm lim sh 0 o r es c) := hS
  have hb := hS.hb
  have hbm := hS.hbm
  have hne := hS.ne
  have c0 := hS.c0
  have c1' := hS.c1
  have c2 := hS.c2
  have c4 := hS.c4
  have c5 := hS.c5
  have c6 := hS.c6
  have f2 := hS.soft 2
  have f5 := hS.soft 5
  have f6 := hS.soft 6
  have hm := hS.map
  have n1 : ¬ w.heap.size = bm := by omega
  have n2 : bm < w.heap.size + 1 := by omega
  clear hg hS hE
  go_enter_defers Yba.func12, Yba.ntmps12
  go_wp2_with fail
  refine (lock_free Yba.muLib ⟨b, 2, none⟩ _ (by simp [go_sem, c2, hb]) (by simp [go_sem, f2, hb])).mono ?_
  rintro e w' ⟨rfl, rfl⟩
  go_wp2_with fail
  go_quiet (fail)
  go_wp2_with fail
  go_quiet (fail)
  go_wp2_with fail
  refine (add_any b r 1 _ (by simp [go_sem, c6, hb]) (by simp [go_sem, f6, hb])).mono ?_
  rintro e w' ⟨rfl, rfl⟩
  go_wp2_with fail
  refine leaves_cons (f := 15) (args := #[.pointer (some ⟨b, 2, none⟩)]) (by simp) (by simp [go_sem]) ?_
  refine (unlock_deferred Yba.muLib ⟨b, 2, none⟩ .returning _ ?_ ?_).mono ?_
  · exact ((((HS.out.lock 1).alloc _).drewN _).refused _).c2
  · exact ((((HS.out.lock 1).alloc _).drewN _).refused _).soft 2
  rintro e u' w'' ⟨rfl, rfl, rfl⟩
  exact ⟨_, results_tmp rfl _ _ _, rfl, _, _, ((((HS.out.lock 1).alloc _).drewN _).refused _).lock 0, H4.out⟩

set_option maxHeartbeats 1000000 in
theorem take_loop_ok1 (b bm : Nat) (lim sh o r : Int) (es : Array MapEntry) (c : Nat) (M : Bool → Option Int) (hE : Ents es c M) (w : World) (hS : Stage w w b bm lim sh 0 o r es c) (h1 : lim ≤ o) (h3 : ¬ lim ≤ (M true).getD 0) :
    Calls Yba.prog 12 #[.pointer (some ⟨b, 0, none⟩), kb true] w fun e w' => e = .returned (.bool true) ∧ ∃ es' c', Stage w w' b bm lim sh 0 o r es' c' ∧ Ents es' c' (set M true (some (wrap64 ((M true).getD 0 + 1)))) := by
  have hl := fun W => run_look hE true false bm W
  obtain ⟨v0, s, es1, c1, es2, g2, g3, hE1, g4⟩ := run_entry hE true bm
  have hl1 := fun W => run_look hE1 true false bm W
  rw [set_same, Option.getD_some] at hl1
  obtain ⟨g, hg⟩ : ∃ g, (M true).getD 0 = g := ⟨_, rfl⟩
  rw [hg] at hl hl1 h3
  have H4 : Hid (Ents (es2 (wrap64 (g + 1))) c1 (set M true (some (wrap64 ((M true).getD 0 + 1))))) := by rw [hg]; exact g4 _
  clear g4 hE1
  simp only [Bool.false_eq_true, if_false] at hl hl1
  have HS : Hid (Stage w w b bm lim sh 0 o r es c) := hS
  have hb := hS.hb
  have hbm := hS.hbm
  have hne := hS.ne
  have c0 := hS.c0
  have c1' := hS.c1
  have c2 := hS.c2
  have c4 := hS.c4
  have c5 := hS.c5
  have c6 := hS.c6
  have f2 := hS.soft 2
  have f5 := hS.soft 5
  have f6 := hS.soft 6
  have hm := hS.map
  have n1 : ¬ w.heap.size = bm := by omega
  have n2 : bm < w.heap.size + 1 := by omega
  have d3 : decide (lim ≤ g) = false := by simpa using h3
  clear hg hS hE
  go_enter_defers Yba.func12, Yba.ntmps12
  go_wp2_with fail
  refine (lock_free Yba.muLib ⟨b, 2, none⟩ _ (by simp [go_sem, c2, hb]) (by simp [go_sem, f2, hb])).mono ?_
  rintro e w' ⟨rfl, rfl⟩
  go_wp2_with fail
  go_quiet (fail)
  go_wp2_with fail
  go_quiet (fail)
  go_wp2_with fail
  go_region
  go_wp2_with fail
  refine leaves_cons (f := 15) (args := #[.pointer (some ⟨b, 2, none⟩)]) (by simp) (by simp [go_sem]) ?_
  refine (unlock_deferred Yba.muLib ⟨b, 2, none⟩ .returning _ ?_ ?_).mono ?_
  · exact ((((HS.out.lock 1).alloc _).drewN _).put _ _).c2
  · exact ((((HS.out.lock 1).alloc _).drewN _).put _ _).soft 2
  rintro e u' w'' ⟨rfl, rfl, rfl⟩
  exact ⟨_, results_tmp rfl _ _ _, rfl, _, _, ((((HS.out.lock 1).alloc _).drewN _).put _ _).lock 0, H4.out⟩

set_option maxHeartbeats 1000000 in
theorem take_loop_no2 (b bm : Nat) (lim sh o r : Int) (es : Array MapEntry) (c : Nat) (M : Bool → Option Int) (hE : Ents es c M) (w : World) (hS : Stage w w b bm lim sh 0 o r es c) (h1 : ¬ lim ≤ o) (h3 : lim ≤ (M true).getD 0) :
    Calls Yba.prog 12 #[.pointer (some ⟨b, 0, none⟩), kb true] w fun e w' => e = .returned (.bool false) ∧ ∃ es' c', Stage w w' b bm lim sh 0 o (wrap64 (r + 1)) es' c' ∧ Ents es' c' M := by
  have hl := fun W => run_look hE true false bm W
  obtain ⟨g, hg⟩ : ∃ g, (M true).getD 0 = g := ⟨_, rfl⟩
  rw [hg] at hl h3
  have H4 : Hid (Ents es c M) := hE
  simp only [Bool.false_eq_true, if_false] at hl
  have HS : Hid (Stage w w b bm lim sh 0 o r es c) := hS
  have hb := hS.hb
  have hbm := hS.hbm
  have hne := hS.ne
  have c0 := hS.c0
  have c1' := hS.c1
  have c2 := hS.c2
  have c4 := hS.c4
  have c5 := hS.c5
  have c6 := hS.c6
  have f2 := hS.soft 2
  have f5 := hS.soft 5
  have f6 := hS.soft 6
  have hm := hS.map
  have n1 : ¬ w.heap.size = bm := by omega
  have n2 : bm < w.heap.size + 1 := by omega
  have d1 : decide (lim ≤ o) = false := by simpa using h1
  clear hg hS hE
  go_enter_defers Yba.func12, Yba.ntmps12
  go_wp2_with fail
  refine (lock_free Yba.muLib ⟨b, 2, none⟩ _ (by simp [go_sem, c2, hb]) (by simp [go_sem, f2, hb])).mono ?_
  rintro e w' ⟨rfl, rfl⟩
  go_wp2_with fail
  go_quiet (fail)
  go_wp2_with fail
  go_quiet (fail)
  go_wp2_with fail
  refine (add_any b r 1 _ (by simp [go_sem, c6, hb]) (by simp [go_sem, f6, hb])).mono ?_
  rintro e w' ⟨rfl, rfl⟩
  go_wp2_with fail
  refine leaves_cons (f := 15) (args := #[.pointer (some ⟨b, 2, none⟩)]) (by simp) (by simp [go_sem]) ?_
  refine (unlock_deferred Yba.muLib ⟨b, 2, none⟩ .returning _ ?_ ?_).mono ?_
  · exact ((((HS.out.lock 1).alloc _).drewN _).refused _).c2
  · exact ((((HS.out.lock 1).alloc _).drewN _).refused _).soft 2
  rintro e u' w'' ⟨rfl, rfl, rfl⟩
  exact ⟨_, results_tmp rfl _ _ _, rfl, _, _, ((((HS.out.lock 1).alloc _).drewN _).refused _).lock 0, H4.out⟩

set_option maxHeartbeats 1000000 in
theorem take_loop_ok2 (b bm : Nat) (lim sh o r : Int) (es : Array MapEntry) (c : Nat) (M : Bool → Option Int) (hE : Ents es c M) (w : World) (hS : Stage w w b bm lim sh 0 o r es c) (h1 : ¬ lim ≤ o) (h3 : ¬ lim ≤ (M true).getD 0) :
    Calls Yba.prog 12 #[.pointer (some ⟨b, 0, none⟩), kb true] w fun e w' => e = .returned (.bool true) ∧ ∃ es' c', Stage w w' b bm lim sh 0 o r es' c' ∧ Ents es' c' (set M true (some (wrap64 ((M true).getD 0 + 1)))) := by
  have hl := fun W => run_look hE true false bm W
  obtain ⟨v0, s, es1, c1, es2, g2, g3, hE1, g4⟩ := run_entry hE true bm
  have hl1 := fun W => run_look hE1 true false bm W
  rw [set_same, Option.getD_some] at hl1
  obtain ⟨g, hg⟩ : ∃ g, (M true).getD 0 = g := ⟨_, rfl⟩
  rw [hg] at hl hl1 h3
  have H4 : Hid (Ents (es2 (wrap64 (g + 1))) c1 (set M true (some (wrap64 ((M true).getD 0 + 1))))) := by rw [hg]; exact g4 _
  clear g4 hE1
  simp only [Bool.false_eq_true, if_false] at hl hl1
  have HS : Hid (Stage w w b bm lim sh 0 o r es c) := hS
  have hb := hS.hb
  have hbm := hS.hbm
  have hne := hS.ne
  have c0 := hS.c0
  have c1' := hS.c1
  have c2 := hS.c2
  have c4 := hS.c4
  have c5 := hS.c5
  have c6 := hS.c6
  have f2 := hS.soft 2
  have f5 := hS.soft 5
  have f6 := hS.soft 6
  have hm := hS.map
  have n1 : ¬ w.heap.size = bm := by omega
  have n2 : bm < w.heap.size + 1 := by omega
  have d1 : decide (lim ≤ o) = false := by simpa using h1
  have d3 : decide (lim ≤ g) = false := by simpa using h3
  clear hg hS hE
  go_enter_defers Yba.func12, Yba.ntmps12
  go_wp2_with fail
  refine (lock_free Yba.muLib ⟨b, 2, none⟩ _ (by simp [go_sem, c2, hb]) (by simp [go_sem, f2, hb])).mono ?_
  rintro e w' ⟨rfl, rfl⟩
  go_wp2_with fail
  go_quiet (fail)
  go_wp2_with fail
  go_quiet (fail)
  go_wp2_with fail
  go_region
  go_wp2_with fail
  refine leaves_cons (f := 15) (args := #[.pointer (some ⟨b, 2, none⟩)]) (by simp) (by simp [go_sem]) ?_
  refine (unlock_deferred Yba.muLib ⟨b, 2, none⟩ .returning _ ?_ ?_).mono ?_
  · exact ((((HS.out.lock 1).alloc _).drewN _).put _ _).c2
  · exact ((((HS.out.lock 1).alloc _).drewN _).put _ _).soft 2
  rintro e u' w'' ⟨rfl, rfl, rfl⟩
  exact ⟨_, results_tmp rfl _ _ _, rfl, _, _, ((((HS.out.lock 1).alloc _).drewN _).put _ _).lock 0, H4.out⟩

/-- has the source no room? -/
def fullB (M : Bool → Option Int) (a : Bool) (lim sh o : Int) : Bool := if a then decide (lim ≤ (M a).getD 0) else (decide (lim ≤ o) || decide (sh ≤ (M a).getD 0))

/-- (*connBound).take: refused -/
theorem take_no (a : Bool) (b bm : Nat) (lim sh o r : Int) (es : Array MapEntry) (c : Nat) (M : Bool → Option Int) (hE : Ents es c M) (w : World) (hS : Stage w w b bm lim sh 0 o r es c) (hf : fullB M a lim sh o = true) :
    Calls Yba.prog 12 #[.pointer (some ⟨b, 0, none⟩), kb a] w fun e w' => e = .returned (.bool false) ∧ ∃ es' c', Stage w w' b bm lim sh 0 o (wrap64 (r + 1)) es' c' ∧ Ents es' c' M := by
  cases a
  · by_cases h1 : lim ≤ o
    · exact take_other_no1 b bm lim sh o r es c M hE w hS h1
    · have h2 : sh ≤ (M false).getD 0 := by simpa [fullB, h1] using hf
      exact take_other_no2 b bm lim sh o r es c M hE w hS h1 h2
  · have h3 : lim ≤ (M true).getD 0 := by simpa [fullB] using hf
    by_cases h1 : lim ≤ o
    · exact take_loop_no1 b bm lim sh o r es c M hE w hS h1 h3
    · exact take_loop_no2 b bm lim sh o r es c M hE w hS h1 h3

/-- (*connBound).take: let through -/
theorem take_ok (a : Bool) (b bm : Nat) (lim sh o r : Int) (es : Array MapEntry) (c : Nat) (M : Bool → Option Int) (hE : Ents es c M) (w : World) (hS : Stage w w b bm lim sh 0 o r es c) (hf : fullB M a lim sh o = false) :
    Calls Yba.prog 12 #[.pointer (some ⟨b, 0, none⟩), kb a] w fun e w' => e = .returned (.bool true) ∧ ∃ es' c', Stage w w' b bm lim sh 0 (if a then o else wrap64 (o + 1)) r es' c' ∧ Ents es' c' (set M a (some (wrap64 ((M a).getD 0 + 1)))) := by
  cases a
  · have h : ¬ lim ≤ o ∧ ¬ sh ≤ (M false).getD 0 := by simpa [fullB] using hf
    exact take_other_ok b bm lim sh o r es c M hE w hS h.1 h.2
  · have h3 : ¬ lim ≤ (M true).getD 0 := by simpa [fullB] using hf
    by_cases h1 : lim ≤ o
    · exact take_loop_ok1 b bm lim sh o r es c M hE w hS h1 h3
    · exact take_loop_ok2 b bm lim sh o r es c M hE w hS h1 h3
end Go.Proofs.Ybulkfinm
