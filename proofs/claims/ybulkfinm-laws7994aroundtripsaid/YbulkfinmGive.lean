import Derived.Test.YbulkfinmStage
import Derived.Test.YbulkfinmLocks
import Derived.BigRegion
import Derived.BigQuiet
import Derived.Deep.QuietTactic
namespace Go.Proofs.Ybulkfinm
open Go.RowKit Go.MuLone

attribute [local go_sem] mapAt_drew mapAt_drewN mapAt_setCell mapAt_alloc mapAt_put cell?_put frozen?_put size_putMap putMap_drew putMap_putMap

theorem set_set (M : Bool → Option Int) (a : Bool) (u v : Option Int) : set (set M a u) a v = set M a v := by
  funext x; by_cases h : x = a <;> simp [set, h]

/-- what is left of a source's count behind a give -/
def gave (M : Bool → Option Int) (a : Bool) : Bool → Option Int := if wrap64 ((M a).getD 0 - 1) = 0 then set M a none else set M a (some (wrap64 ((M a).getD 0 - 1)))

set_option maxHeartbeats 400000 in
theorem give_other_stays (b bm : Nat) (lim sh o r : Int) (es : Array MapEntry) (c : Nat) (M : Bool → Option Int) (hE : Ents es c M) (w : World) (hS : Stage w w b bm lim sh 0 o r es c)
    (hz : ¬ wrap64 ((M false).getD 0 - 1) = 0) :
    Calls Yba.prog 7 #[.pointer (some ⟨b, 0, none⟩), kb false] w fun e w' => e = .returned (.tuple #[]) ∧ ∃ es' c', Stage w w' b bm lim sh 0 (wrap64 (o - 1)) r es' c' ∧ Ents es' c' (gave M false) := by
  have HG : Hid (gave M false = set M false (some (wrap64 ((M false).getD 0 - 1)))) := if_neg hz
  have hl := fun W => run_look hE false false bm W
  obtain ⟨v0, s, es1, c1, es2, h2, h3, hE1, h4⟩ := run_entry hE false bm
  have hl1 := fun W => run_look hE1 false false bm W
  rw [set_same, Option.getD_some] at hl1
  obtain ⟨g, hg⟩ : ∃ g, (M false).getD 0 = g := ⟨_, rfl⟩
  rw [hg] at hl hl1 hz HG
  have hl2 := fun W => run_look (h4 (wrap64 (g - 1))) false false bm W
  rw [set_same, Option.getD_some] at hl2
  simp only [Bool.false_eq_true, if_false] at hl hl1 hl2
  have H4 : Hid (∀ v, Ents (es2 v) c1 (set M false (some v))) := h4
  have HS : Hid (Stage w w b bm lim sh 0 o r es c) := hS
  have hb := hS.hb
  have hbm := hS.hbm
  have hne := hS.ne
  have c2 := hS.c2
  have c4 := hS.c4
  have c5 := hS.c5
  have f5 := hS.soft 5
  have f2 := hS.soft 2
  have hm := hS.map
  have n1 : ¬ w.heap.size = bm := by omega
  have n2 : bm < w.heap.size + 1 := by omega
  have hz' : (wrap64 (g - 1) == 0) = false := by simpa using hz
  clear h4 hg hS hE1 hz
  go_enter_defers Yba.func7, Yba.ntmps7
  go_wp2_with fail
  refine (lock_free Yba.muLib ⟨b, 2, none⟩ _ (by simp [go_sem, c2, hb]) (by simp [go_sem, f2, hb])).mono ?_
  rintro e w' ⟨rfl, rfl⟩
  go_wp2_with fail
  go_region
  go_wp2_with fail
  go_region
  go_wp2_with fail
  refine leaves_cons (f := 15) (args := #[.pointer (some ⟨b, 2, none⟩)]) (by simp) (by simp [go_sem]) ?_
  have HT : Hid _ := ((((HS.out.lock 1).others (wrap64 (o - 1))).alloc (.cells #[.bool false, .int .u64 0, .int .u64 0, .pointer none, .int .u8 0] 33)).put (es2 (wrap64 (g - 1))) c1).drew.drew
  refine (unlock_deferred Yba.muLib ⟨b, 2, none⟩ .returning _ HT.out.c2 (HT.out.soft 2)).mono ?_
  rintro e u' w'' ⟨rfl, rfl, rfl⟩
  exact ⟨_, results_none rfl _ _ _, rfl, _, _, HT.out.lock 0, HG.out ▸ H4.out _⟩

set_option maxHeartbeats 400000 in
theorem give_other_goes (b bm : Nat) (lim sh o r : Int) (es : Array MapEntry) (c : Nat) (M : Bool → Option Int) (hE : Ents es c M) (w : World) (hS : Stage w w b bm lim sh 0 o r es c)
    (hz : wrap64 ((M false).getD 0 - 1) = 0) :
    Calls Yba.prog 7 #[.pointer (some ⟨b, 0, none⟩), kb false] w fun e w' => e = .returned (.tuple #[]) ∧ ∃ es' c', Stage w w' b bm lim sh 0 (wrap64 (o - 1)) r es' c' ∧ Ents es' c' (gave M false) := by
  have HG : Hid (gave M false = set M false none) := if_pos hz
  have hl := fun W => run_look hE false false bm W
  obtain ⟨v0, s, es1, c1, es2, h2, h3, hE1, h4⟩ := run_entry hE false bm
  have hl1 := fun W => run_look hE1 false false bm W
  rw [set_same, Option.getD_some] at hl1
  obtain ⟨g, hg⟩ : ∃ g, (M false).getD 0 = g := ⟨_, rfl⟩
  rw [hg] at hl hl1 hz
  have hl2 := fun W => run_look (h4 0) false false bm W
  rw [set_same, Option.getD_some] at hl2
  simp only [Bool.false_eq_true, if_false] at hl hl1 hl2
  obtain ⟨es3, hd, hE3⟩ := run_delete (h4 0) false bm
  have H4 : Hid (Ents es3 c1 (set M false none)) := set_set M false (some 0) none ▸ hE3
  clear hE3
  have HS : Hid (Stage w w b bm lim sh 0 o r es c) := hS
  have hb := hS.hb
  have hbm := hS.hbm
  have hne := hS.ne
  have c2 := hS.c2
  have c4 := hS.c4
  have c5 := hS.c5
  have f5 := hS.soft 5
  have f2 := hS.soft 2
  have hm := hS.map
  have n1 : ¬ w.heap.size = bm := by omega
  have n2 : bm < w.heap.size + 1 := by omega
  clear h4 hg hS hE1
  go_enter_defers Yba.func7, Yba.ntmps7
  go_wp2_with fail
  refine (lock_free Yba.muLib ⟨b, 2, none⟩ _ (by simp [go_sem, c2, hb]) (by simp [go_sem, f2, hb])).mono ?_
  rintro e w' ⟨rfl, rfl⟩
  go_wp2_with fail
  go_region
  go_wp2_with fail
  go_region
  go_wp2_with fail
  go_region
  go_wp2_with fail
  refine leaves_cons (f := 15) (args := #[.pointer (some ⟨b, 2, none⟩)]) (by simp) (by simp [go_sem]) ?_
  have HT : Hid _ := ((((HS.out.lock 1).others (wrap64 (o - 1))).alloc (.cells #[.bool false, .int .u64 0, .int .u64 0, .pointer none, .int .u8 0] 33)).put es3 c1).drew.drew.drew
  refine (unlock_deferred Yba.muLib ⟨b, 2, none⟩ .returning _ HT.out.c2 (HT.out.soft 2)).mono ?_
  rintro e u' w'' ⟨rfl, rfl, rfl⟩
  exact ⟨_, results_none rfl _ _ _, rfl, _, _, HT.out.lock 0, HG.out ▸ H4.out⟩

set_option maxHeartbeats 400000 in
theorem give_loop_stays (b bm : Nat) (lim sh o r : Int) (es : Array MapEntry) (c : Nat) (M : Bool → Option Int) (hE : Ents es c M) (w : World) (hS : Stage w w b bm lim sh 0 o r es c)
    (hz : ¬ wrap64 ((M true).getD 0 - 1) = 0) :
    Calls Yba.prog 7 #[.pointer (some ⟨b, 0, none⟩), kb true] w fun e w' => e = .returned (.tuple #[]) ∧ ∃ es' c', Stage w w' b bm lim sh 0 o r es' c' ∧ Ents es' c' (gave M true) := by
  have HG : Hid (gave M true = set M true (some (wrap64 ((M true).getD 0 - 1)))) := if_neg hz
  have hl := fun W => run_look hE true false bm W
  obtain ⟨v0, s, es1, c1, es2, h2, h3, hE1, h4⟩ := run_entry hE true bm
  have hl1 := fun W => run_look hE1 true false bm W
  rw [set_same, Option.getD_some] at hl1
  obtain ⟨g, hg⟩ : ∃ g, (M true).getD 0 = g := ⟨_, rfl⟩
  rw [hg] at hl hl1 hz HG
  have hl2 := fun W => run_look (h4 (wrap64 (g - 1))) true false bm W
  rw [set_same, Option.getD_some] at hl2
  simp only [Bool.false_eq_true, if_false] at hl hl1 hl2
  have H4 : Hid (∀ v, Ents (es2 v) c1 (set M true (some v))) := h4
  have HS : Hid (Stage w w b bm lim sh 0 o r es c) := hS
  have hb := hS.hb
  have hbm := hS.hbm
  have hne := hS.ne
  have c2 := hS.c2
  have c4 := hS.c4
  have f2 := hS.soft 2
  have hm := hS.map
  have n1 : ¬ w.heap.size = bm := by omega
  have n2 : bm < w.heap.size + 1 := by omega
  have hz' : (wrap64 (g - 1) == 0) = false := by simpa using hz
  clear h4 hg hS hE1 hz
  go_enter_defers Yba.func7, Yba.ntmps7
  go_wp2_with fail
  refine (lock_free Yba.muLib ⟨b, 2, none⟩ _ (by simp [go_sem, c2, hb]) (by simp [go_sem, f2, hb])).mono ?_
  rintro e w' ⟨rfl, rfl⟩
  go_wp2_with fail
  go_region
  go_wp2_with fail
  go_region
  go_wp2_with fail
  refine leaves_cons (f := 15) (args := #[.pointer (some ⟨b, 2, none⟩)]) (by simp) (by simp [go_sem]) ?_
  have HT : Hid _ := (((HS.out.lock 1).alloc (.cells #[.bool true, .int .u64 0, .int .u64 0, .pointer none, .int .u8 0] 33)).put (es2 (wrap64 (g - 1))) c1).drew.drew
  refine (unlock_deferred Yba.muLib ⟨b, 2, none⟩ .returning _ HT.out.c2 (HT.out.soft 2)).mono ?_
  rintro e u' w'' ⟨rfl, rfl, rfl⟩
  exact ⟨_, results_none rfl _ _ _, rfl, _, _, HT.out.lock 0, HG.out ▸ H4.out _⟩

set_option maxHeartbeats 400000 in
theorem give_loop_goes (b bm : Nat) (lim sh o r : Int) (es : Array MapEntry) (c : Nat) (M : Bool → Option Int) (hE : Ents es c M) (w : World) (hS : Stage w w b bm lim sh 0 o r es c)
    (hz : wrap64 ((M true).getD 0 - 1) = 0) :
    Calls Yba.prog 7 #[.pointer (some ⟨b, 0, none⟩), kb true] w fun e w' => e = .returned (.tuple #[]) ∧ ∃ es' c', Stage w w' b bm lim sh 0 o r es' c' ∧ Ents es' c' (gave M true) := by
  have HG : Hid (gave M true = set M true none) := if_pos hz
  have hl := fun W => run_look hE true false bm W
  obtain ⟨v0, s, es1, c1, es2, h2, h3, hE1, h4⟩ := run_entry hE true bm
  have hl1 := fun W => run_look hE1 true false bm W
  rw [set_same, Option.getD_some] at hl1
  obtain ⟨g, hg⟩ : ∃ g, (M true).getD 0 = g := ⟨_, rfl⟩
  rw [hg] at hl hl1 hz
  have hl2 := fun W => run_look (h4 0) true false bm W
  rw [set_same, Option.getD_some] at hl2
  simp only [Bool.false_eq_true, if_false] at hl hl1 hl2
  obtain ⟨es3, hd, hE3⟩ := run_delete (h4 0) true bm
  have H4 : Hid (Ents es3 c1 (set M true none)) := set_set M true (some 0) none ▸ hE3
  clear hE3
  have HS : Hid (Stage w w b bm lim sh 0 o r es c) := hS
  have hb := hS.hb
  have hbm := hS.hbm
  have hne := hS.ne
  have c2 := hS.c2
  have c4 := hS.c4
  have f2 := hS.soft 2
  have hm := hS.map
  have n1 : ¬ w.heap.size = bm := by omega
  have n2 : bm < w.heap.size + 1 := by omega
  clear h4 hg hS hE1
  go_enter_defers Yba.func7, Yba.ntmps7
  go_wp2_with fail
  refine (lock_free Yba.muLib ⟨b, 2, none⟩ _ (by simp [go_sem, c2, hb]) (by simp [go_sem, f2, hb])).mono ?_
  rintro e w' ⟨rfl, rfl⟩
  go_wp2_with fail
  go_region
  go_wp2_with fail
  go_region
  go_wp2_with fail
  go_region
  go_wp2_with fail
  refine leaves_cons (f := 15) (args := #[.pointer (some ⟨b, 2, none⟩)]) (by simp) (by simp [go_sem]) ?_
  have HT : Hid _ := (((HS.out.lock 1).alloc (.cells #[.bool true, .int .u64 0, .int .u64 0, .pointer none, .int .u8 0] 33)).put es3 c1).drew.drew.drew
  refine (unlock_deferred Yba.muLib ⟨b, 2, none⟩ .returning _ HT.out.c2 (HT.out.soft 2)).mono ?_
  rintro e u' w'' ⟨rfl, rfl, rfl⟩
  exact ⟨_, results_none rfl _ _ _, rfl, _, _, HT.out.lock 0, HG.out ▸ H4.out⟩

/-- (*connBound).give -/
theorem give_any (a : Bool) (b bm : Nat) (lim sh o r : Int) (es : Array MapEntry) (c : Nat) (M : Bool → Option Int) (hE : Ents es c M) (w : World) (hS : Stage w w b bm lim sh 0 o r es c) :
    Calls Yba.prog 7 #[.pointer (some ⟨b, 0, none⟩), kb a] w fun e w' => e = .returned (.tuple #[]) ∧ ∃ es' c', Stage w w' b bm lim sh 0 (if a then o else wrap64 (o - 1)) r es' c' ∧ Ents es' c' (gave M a) := by
  cases a
  · by_cases hz : wrap64 ((M false).getD 0 - 1) = 0
    · exact give_other_goes b bm lim sh o r es c M hE w hS hz
    · exact give_other_stays b bm lim sh o r es c M hE w hS hz
  · by_cases hz : wrap64 ((M true).getD 0 - 1) = 0
    · exact give_loop_goes b bm lim sh o r es c M hE w hS hz
    · exact give_loop_stays b bm lim sh o r es c M hE w hS hz
end Go.Proofs.Ybulkfinm
