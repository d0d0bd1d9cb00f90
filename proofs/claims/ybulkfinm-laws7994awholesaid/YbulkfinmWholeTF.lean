import Derived.Test.YbulkfinmGive
import Derived.Test.YbulkfinmSmall
import Derived.Test.YbulkfinmWhole0
namespace Go.Proofs.Ybulkfinm
open Go.RowKit

attribute [local go_sem] mapAt_drew mapAt_drewN mapAt_setCell mapAt_alloc mapAt_made mapAt_put cell?_put frozen?_put size_putMap putMap_drew putMap_putMap

set_option maxRecDepth 100000 in
set_option maxHeartbeats 2000000 in
theorem whole_tftt (lim sh o lc oc r k : Int) (hk0 : 0 ≤ k) (hk1 : k ≤ 255) (ha : (k % 2 == 0) = true) (hz : wrap64 (lc - 1) = 0) (w : World) :
    Calls Yba.prog 3 #[.int .i64 lim, .int .i64 sh, .int .i64 o, .bool true, .int .i64 lc, .bool false, .int .i64 oc, .int .i64 r, .int .u8 k] w fun e w' => e = .returned (.bool true) ∧ Below w.heap.size w w' := by
  have hmm := @run_makeMap Yba.prog
  have hE0 : Ents #[] 0 (fun _ => none) := .inl ⟨rfl, fun _ => rfl⟩
  obtain ⟨es1, c1, hu1, hE1⟩ := run_update hE0 true (w.heap.size + 1 + 1) lc
  have HE : Hid (Ents es1 c1 (set (fun _ => none) true (some lc))) := hE1
  clear hE0 hE1
  have HK : Hid ((k % 2 == 0) = true) := ha
  have HZ : Hid (wrap64 (lc - 1) = 0) := hz
  clear ha hz
  go_enter Yba.func3, Yba.ntmps3
  go_wp2_with fail
  refine (store_any (w.heap.size + 1 + 1 + 1) 0 r _ (by simp [go_sem]) (by simp [go_sem])).mono ?_
  rintro e w1 ⟨rfl, rfl⟩
  go_wp2_with fail
  refine (src_any k hk0 hk1 _).mono ?_
  rintro e w1 ⟨rfl, d1, rfl⟩
  rw [HK.out]
  go_wp2_with fail
  have HX : (putMap (((w.alloc (.cells #[.bool true, .int .u64 0, .int .u64 0, .pointer none, .int .u8 0] 33)).alloc (.cells #[.bool false, .int .u64 0, .int .u64 0, .pointer none, .int .u8 0] 33)).alloc (.map #[] 0)) (w.heap.size + 1 + 1) es1 c1).heap.size = w.heap.size + 3 := by rw [size_putMap]; exact made_size w
  have HX1 : Src (putMap (((w.alloc (.cells #[.bool true, .int .u64 0, .int .u64 0, .pointer none, .int .u8 0] 33)).alloc (.cells #[.bool false, .int .u64 0, .int .u64 0, .pointer none, .int .u8 0] 33)).alloc (.map #[] 0)) (w.heap.size + 1 + 1) es1 c1) w.heap.size true ∧ Src (putMap (((w.alloc (.cells #[.bool true, .int .u64 0, .int .u64 0, .pointer none, .int .u8 0] 33)).alloc (.cells #[.bool false, .int .u64 0, .int .u64 0, .pointer none, .int .u8 0] 33)).alloc (.map #[] 0)) (w.heap.size + 1 + 1) es1 c1) (w.heap.size + 1) false := ⟨put_src (made_src w).1 _ _ _ (by omega), put_src (made_src w).2 _ _ _ (by omega)⟩
  have HX2 : Below w.heap.size w (putMap (((w.alloc (.cells #[.bool true, .int .u64 0, .int .u64 0, .pointer none, .int .u8 0] 33)).alloc (.cells #[.bool false, .int .u64 0, .int .u64 0, .pointer none, .int .u8 0] 33)).alloc (.map #[] 0)) (w.heap.size + 1 + 1) es1 c1) := below_putMap (made_below w) (by omega) _ _
  have HS : Hid _ := (((stage_new (putMap (((w.alloc (.cells #[.bool true, .int .u64 0, .int .u64 0, .pointer none, .int .u8 0] 33)).alloc (.cells #[.bool false, .int .u64 0, .int .u64 0, .pointer none, .int .u8 0] 33)).alloc (.map #[] 0)) (w.heap.size + 1 + 1) es1 c1) (w.heap.size + 1 + 1 + 1) (w.heap.size + 1 + 1) es1 c1 lim sh o r (by simp [go_sem]) rfl (by simp [go_sem])).alloc (.cells d1 33)).alloc (.cells #[.bool true, .int .u64 0, .int .u64 0, .pointer none, .int .u8 0] 33)).start
  refine (give_any true (w.heap.size + 1 + 1 + 1) (w.heap.size + 1 + 1) lim sh o r _ _ _ HE.out _ HS.out).mono ?_
  rintro e w2 ⟨rfl, es9, c9, hT, hE9⟩
  have gT : gave (set (fun _ => none) true (some lc)) true true = none := by
    rw [gave, if_pos (by simpa [set] using HZ.out)]; simp [set]
  have gF : gave (set (fun _ => none) true (some lc)) true false = none := by
    rw [gave, if_pos (by simpa [set] using HZ.out)]; simp [set]
  have hlT := fun W => run_look hE9 true true (w.heap.size + 1 + 1) W
  have hlF := fun W => run_look hE9 false true (w.heap.size + 1 + 1) W
  rw [gT] at hlT
  rw [gF] at hlF
  simp only [if_true, Option.getD_none, Option.isSome_none] at hlT hlF
  have hln := fun W ty => run_len hE9 (w.heap.size + 1 + 1) W ty
  have hct : count (gave (set (fun _ => none) true (some lc)) true) = 0 := by simp [count, gT, gF]
  rw [hct] at hln
  clear hct gT gF hE9
  have HT : Hid _ := hT
  have c0 := hT.c0
  have c1' := hT.c1
  have c2' := hT.c2
  have c4 := hT.c4
  have c5 : w2.cell? ⟨w.heap.size + 1 + 1 + 1, 5, none⟩ = some (.int .i64 (o)) := hT.c5
  have c6 := hT.c6
  have f2 := hT.soft 2
  have hm := hT.map
  obtain ⟨q00, q01, q02, q03, q04⟩ := hT.src (old_src HX1.1 _ _ _) (by rw [size_old, HX]; omega) (by omega) (by omega)
  obtain ⟨q10, q11, q12, q13, q14⟩ := hT.src (old_src HX1.2 _ _ _) (by rw [size_old, HX]; omega) (by omega) (by omega)
  have q20 : w2.cell? ⟨w.heap.size + 1 + 1 + 1 + 1 + 1, 0, none⟩ = some (.bool true) := (hT.keep _ _ (by rw [size_old, HX]; omega) (by omega) (by omega)).trans (cell_last _ _ _ _ (by rw [HX]))
  have HB : Hid _ := hT.below w.heap.size w (by omega) (by omega) (old_below HX2 _ _ _)
  clear hT HX HX1 HX2 HS HT
  have hz := HZ.out
  go_wp2_with fail
  refine (get_any _ _ _).mono ?_
  rintro e w3 ⟨rfl, rfl⟩
  go_wp2_with fail
  refine (load_any _ _ _ c6).mono ?_
  rintro e w3 ⟨rfl, rfl⟩
  go_wp2_with fail
  go_quiet (fail)
  go_wp2_with fail
  go_quiet (fail)
  go_wp2_with fail
  refine (try_any _ _ (by exact c2') (by exact f2)).mono ?_
  rintro e w4 ⟨rfl, rfl⟩
  go_wp2_with fail
  go_ret
  exact ⟨rfl, (below_drewN HB.out _).setCell (by show _ ≤ w.heap.size + 1 + 1 + 1; omega) _⟩

set_option maxRecDepth 100000 in
set_option maxHeartbeats 2000000 in
theorem whole_tftf (lim sh o lc oc r k : Int) (hk0 : 0 ≤ k) (hk1 : k ≤ 255) (ha : (k % 2 == 0) = true) (hz : ¬ wrap64 (lc - 1) = 0) (w : World) :
    Calls Yba.prog 3 #[.int .i64 lim, .int .i64 sh, .int .i64 o, .bool true, .int .i64 lc, .bool false, .int .i64 oc, .int .i64 r, .int .u8 k] w fun e w' => e = .returned (.bool true) ∧ Below w.heap.size w w' := by
  have hmm := @run_makeMap Yba.prog
  have hE0 : Ents #[] 0 (fun _ => none) := .inl ⟨rfl, fun _ => rfl⟩
  obtain ⟨es1, c1, hu1, hE1⟩ := run_update hE0 true (w.heap.size + 1 + 1) lc
  have HE : Hid (Ents es1 c1 (set (fun _ => none) true (some lc))) := hE1
  clear hE0 hE1
  have HK : Hid ((k % 2 == 0) = true) := ha
  have HZ : Hid (¬ wrap64 (lc - 1) = 0) := hz
  clear ha hz
  go_enter Yba.func3, Yba.ntmps3
  go_wp2_with fail
  refine (store_any (w.heap.size + 1 + 1 + 1) 0 r _ (by simp [go_sem]) (by simp [go_sem])).mono ?_
  rintro e w1 ⟨rfl, rfl⟩
  go_wp2_with fail
  refine (src_any k hk0 hk1 _).mono ?_
  rintro e w1 ⟨rfl, d1, rfl⟩
  rw [HK.out]
  go_wp2_with fail
  have HX : (putMap (((w.alloc (.cells #[.bool true, .int .u64 0, .int .u64 0, .pointer none, .int .u8 0] 33)).alloc (.cells #[.bool false, .int .u64 0, .int .u64 0, .pointer none, .int .u8 0] 33)).alloc (.map #[] 0)) (w.heap.size + 1 + 1) es1 c1).heap.size = w.heap.size + 3 := by rw [size_putMap]; exact made_size w
  have HX1 : Src (putMap (((w.alloc (.cells #[.bool true, .int .u64 0, .int .u64 0, .pointer none, .int .u8 0] 33)).alloc (.cells #[.bool false, .int .u64 0, .int .u64 0, .pointer none, .int .u8 0] 33)).alloc (.map #[] 0)) (w.heap.size + 1 + 1) es1 c1) w.heap.size true ∧ Src (putMap (((w.alloc (.cells #[.bool true, .int .u64 0, .int .u64 0, .pointer none, .int .u8 0] 33)).alloc (.cells #[.bool false, .int .u64 0, .int .u64 0, .pointer none, .int .u8 0] 33)).alloc (.map #[] 0)) (w.heap.size + 1 + 1) es1 c1) (w.heap.size + 1) false := ⟨put_src (made_src w).1 _ _ _ (by omega), put_src (made_src w).2 _ _ _ (by omega)⟩
  have HX2 : Below w.heap.size w (putMap (((w.alloc (.cells #[.bool true, .int .u64 0, .int .u64 0, .pointer none, .int .u8 0] 33)).alloc (.cells #[.bool false, .int .u64 0, .int .u64 0, .pointer none, .int .u8 0] 33)).alloc (.map #[] 0)) (w.heap.size + 1 + 1) es1 c1) := below_putMap (made_below w) (by omega) _ _
  have HS : Hid _ := (((stage_new (putMap (((w.alloc (.cells #[.bool true, .int .u64 0, .int .u64 0, .pointer none, .int .u8 0] 33)).alloc (.cells #[.bool false, .int .u64 0, .int .u64 0, .pointer none, .int .u8 0] 33)).alloc (.map #[] 0)) (w.heap.size + 1 + 1) es1 c1) (w.heap.size + 1 + 1 + 1) (w.heap.size + 1 + 1) es1 c1 lim sh o r (by simp [go_sem]) rfl (by simp [go_sem])).alloc (.cells d1 33)).alloc (.cells #[.bool true, .int .u64 0, .int .u64 0, .pointer none, .int .u8 0] 33)).start
  refine (give_any true (w.heap.size + 1 + 1 + 1) (w.heap.size + 1 + 1) lim sh o r _ _ _ HE.out _ HS.out).mono ?_
  rintro e w2 ⟨rfl, es9, c9, hT, hE9⟩
  have gT : gave (set (fun _ => none) true (some lc)) true true = some (wrap64 (lc - 1)) := by
    rw [gave, if_neg (by simpa [set] using HZ.out)]; simp [set]
  have gF : gave (set (fun _ => none) true (some lc)) true false = none := by
    rw [gave, if_neg (by simpa [set] using HZ.out)]; simp [set]
  have hlT := fun W => run_look hE9 true true (w.heap.size + 1 + 1) W
  have hlF := fun W => run_look hE9 false true (w.heap.size + 1 + 1) W
  rw [gT] at hlT
  rw [gF] at hlF
  simp only [if_true, Option.getD_some, Option.isSome_some, Option.getD_none, Option.isSome_none] at hlT hlF
  have hln := fun W ty => run_len hE9 (w.heap.size + 1 + 1) W ty
  have hct : count (gave (set (fun _ => none) true (some lc)) true) = 1 := by simp [count, gT, gF]
  rw [hct] at hln
  clear hct gT gF hE9
  have HT : Hid _ := hT
  have c0 := hT.c0
  have c1' := hT.c1
  have c2' := hT.c2
  have c4 := hT.c4
  have c5 : w2.cell? ⟨w.heap.size + 1 + 1 + 1, 5, none⟩ = some (.int .i64 (o)) := hT.c5
  have c6 := hT.c6
  have f2 := hT.soft 2
  have hm := hT.map
  obtain ⟨q00, q01, q02, q03, q04⟩ := hT.src (old_src HX1.1 _ _ _) (by rw [size_old, HX]; omega) (by omega) (by omega)
  obtain ⟨q10, q11, q12, q13, q14⟩ := hT.src (old_src HX1.2 _ _ _) (by rw [size_old, HX]; omega) (by omega) (by omega)
  have q20 : w2.cell? ⟨w.heap.size + 1 + 1 + 1 + 1 + 1, 0, none⟩ = some (.bool true) := (hT.keep _ _ (by rw [size_old, HX]; omega) (by omega) (by omega)).trans (cell_last _ _ _ _ (by rw [HX]))
  have HB : Hid _ := hT.below w.heap.size w (by omega) (by omega) (old_below HX2 _ _ _)
  clear hT HX HX1 HX2 HS HT
  have hz := HZ.out
  have hz1 : (wrap64 (lc - 1) != 0) = true := by simpa using hz
  clear hz
  go_wp2_with fail
  refine (get_any _ _ _).mono ?_
  rintro e w3 ⟨rfl, rfl⟩
  go_wp2_with fail
  refine (load_any _ _ _ c6).mono ?_
  rintro e w3 ⟨rfl, rfl⟩
  go_wp2_with fail
  go_quiet (fail)
  go_wp2_with fail
  go_quiet (fail)
  go_wp2_with fail
  refine (try_any _ _ (by exact c2') (by exact f2)).mono ?_
  rintro e w4 ⟨rfl, rfl⟩
  go_wp2_with fail
  go_ret
  exact ⟨rfl, (below_drewN HB.out _).setCell (by show _ ≤ w.heap.size + 1 + 1 + 1; omega) _⟩

set_option maxRecDepth 100000 in
set_option maxHeartbeats 2000000 in
theorem whole_tfff (lim sh o lc oc r k : Int) (hk0 : 0 ≤ k) (hk1 : k ≤ 255) (ha : (k % 2 == 0) = false) (w : World) :
    Calls Yba.prog 3 #[.int .i64 lim, .int .i64 sh, .int .i64 o, .bool true, .int .i64 lc, .bool false, .int .i64 oc, .int .i64 r, .int .u8 k] w fun e w' => e = .returned (.bool true) ∧ Below w.heap.size w w' := by
  have hmm := @run_makeMap Yba.prog
  have hE0 : Ents #[] 0 (fun _ => none) := .inl ⟨rfl, fun _ => rfl⟩
  obtain ⟨es1, c1, hu1, hE1⟩ := run_update hE0 true (w.heap.size + 1 + 1) lc
  have HE : Hid (Ents es1 c1 (set (fun _ => none) true (some lc))) := hE1
  clear hE0 hE1
  have HK : Hid ((k % 2 == 0) = false) := ha
  clear ha
  go_enter Yba.func3, Yba.ntmps3
  go_wp2_with fail
  refine (store_any (w.heap.size + 1 + 1 + 1) 0 r _ (by simp [go_sem]) (by simp [go_sem])).mono ?_
  rintro e w1 ⟨rfl, rfl⟩
  go_wp2_with fail
  refine (src_any k hk0 hk1 _).mono ?_
  rintro e w1 ⟨rfl, d1, rfl⟩
  rw [HK.out]
  go_wp2_with fail
  have HX : (putMap (((w.alloc (.cells #[.bool true, .int .u64 0, .int .u64 0, .pointer none, .int .u8 0] 33)).alloc (.cells #[.bool false, .int .u64 0, .int .u64 0, .pointer none, .int .u8 0] 33)).alloc (.map #[] 0)) (w.heap.size + 1 + 1) es1 c1).heap.size = w.heap.size + 3 := by rw [size_putMap]; exact made_size w
  have HX1 : Src (putMap (((w.alloc (.cells #[.bool true, .int .u64 0, .int .u64 0, .pointer none, .int .u8 0] 33)).alloc (.cells #[.bool false, .int .u64 0, .int .u64 0, .pointer none, .int .u8 0] 33)).alloc (.map #[] 0)) (w.heap.size + 1 + 1) es1 c1) w.heap.size true ∧ Src (putMap (((w.alloc (.cells #[.bool true, .int .u64 0, .int .u64 0, .pointer none, .int .u8 0] 33)).alloc (.cells #[.bool false, .int .u64 0, .int .u64 0, .pointer none, .int .u8 0] 33)).alloc (.map #[] 0)) (w.heap.size + 1 + 1) es1 c1) (w.heap.size + 1) false := ⟨put_src (made_src w).1 _ _ _ (by omega), put_src (made_src w).2 _ _ _ (by omega)⟩
  have HX2 : Below w.heap.size w (putMap (((w.alloc (.cells #[.bool true, .int .u64 0, .int .u64 0, .pointer none, .int .u8 0] 33)).alloc (.cells #[.bool false, .int .u64 0, .int .u64 0, .pointer none, .int .u8 0] 33)).alloc (.map #[] 0)) (w.heap.size + 1 + 1) es1 c1) := below_putMap (made_below w) (by omega) _ _
  have HS : Hid _ := (((stage_new (putMap (((w.alloc (.cells #[.bool true, .int .u64 0, .int .u64 0, .pointer none, .int .u8 0] 33)).alloc (.cells #[.bool false, .int .u64 0, .int .u64 0, .pointer none, .int .u8 0] 33)).alloc (.map #[] 0)) (w.heap.size + 1 + 1) es1 c1) (w.heap.size + 1 + 1 + 1) (w.heap.size + 1 + 1) es1 c1 lim sh o r (by simp [go_sem]) rfl (by simp [go_sem])).alloc (.cells d1 33)).alloc (.cells #[.bool false, .int .u64 0, .int .u64 0, .pointer none, .int .u8 0] 33)).start
  refine (give_any false (w.heap.size + 1 + 1 + 1) (w.heap.size + 1 + 1) lim sh o r _ _ _ HE.out _ HS.out).mono ?_
  rintro e w2 ⟨rfl, es9, c9, hT, hE9⟩
  have gT : gave (set (fun _ => none) true (some lc)) false true = some lc := by
    rw [gave, if_neg (by simp [set, wrap64])]; simp [set]
  have gF : gave (set (fun _ => none) true (some lc)) false false = some (-1) := by
    rw [gave, if_neg (by simp [set, wrap64])]; simp [set, wrap64]
  have hlT := fun W => run_look hE9 true true (w.heap.size + 1 + 1) W
  have hlF := fun W => run_look hE9 false true (w.heap.size + 1 + 1) W
  rw [gT] at hlT
  rw [gF] at hlF
  simp only [if_true, Option.getD_some, Option.isSome_some] at hlT hlF
  have hln := fun W ty => run_len hE9 (w.heap.size + 1 + 1) W ty
  have hct : count (gave (set (fun _ => none) true (some lc)) false) = 2 := by simp [count, gT, gF]
  rw [hct] at hln
  clear hct gT gF hE9
  have HT : Hid _ := hT
  have c0 := hT.c0
  have c1' := hT.c1
  have c2' := hT.c2
  have c4 := hT.c4
  have c5 : w2.cell? ⟨w.heap.size + 1 + 1 + 1, 5, none⟩ = some (.int .i64 (wrap64 (o - 1))) := hT.c5
  have c6 := hT.c6
  have f2 := hT.soft 2
  have hm := hT.map
  obtain ⟨q00, q01, q02, q03, q04⟩ := hT.src (old_src HX1.1 _ _ _) (by rw [size_old, HX]; omega) (by omega) (by omega)
  obtain ⟨q10, q11, q12, q13, q14⟩ := hT.src (old_src HX1.2 _ _ _) (by rw [size_old, HX]; omega) (by omega) (by omega)
  have q20 : w2.cell? ⟨w.heap.size + 1 + 1 + 1 + 1 + 1, 0, none⟩ = some (.bool false) := (hT.keep _ _ (by rw [size_old, HX]; omega) (by omega) (by omega)).trans (cell_last _ _ _ _ (by rw [HX]))
  have HB : Hid _ := hT.below w.heap.size w (by omega) (by omega) (old_below HX2 _ _ _)
  clear hT HX HX1 HX2 HS HT
  go_wp2_with fail
  refine (get_any _ _ _).mono ?_
  rintro e w3 ⟨rfl, rfl⟩
  go_wp2_with fail
  refine (load_any _ _ _ c6).mono ?_
  rintro e w3 ⟨rfl, rfl⟩
  go_wp2_with fail
  go_quiet (fail)
  go_wp2_with fail
  go_quiet (fail)
  go_wp2_with fail
  refine (try_any _ _ (by exact c2') (by exact f2)).mono ?_
  rintro e w4 ⟨rfl, rfl⟩
  go_wp2_with fail
  go_ret
  exact ⟨rfl, (below_drewN HB.out _).setCell (by show _ ≤ w.heap.size + 1 + 1 + 1; omega) _⟩

end Go.Proofs.Ybulkfinm
