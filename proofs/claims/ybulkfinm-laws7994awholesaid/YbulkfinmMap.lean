import Derived.Test.YbulkfinmRows
import Derived.WalkKit
import Derived.WalkSpells
import Derived.WalkLawsBesides
import Derived.MapKept
namespace Go.Proofs.Ybulkfinm
open Go.RowKit

/-- a source as a key: loopback or not, no address -/
abbrev kb (a : Bool) : Value := .agg #[.bool a, .int .u64 0, .int .u64 0, .pointer none, .int .u8 0]
abbrev E (a : Bool) (v : Int) (n : Nat) : MapEntry := { key := kb a, val := .int .i64 v, born := n }

theorem eq_same (a : Bool) (w : World) : Sem.run Yba.prog (Op.equal 33 (kb a) (kb a)) w = .ok true w := by cases a <;> kernel_rfl
theorem eq_other (a : Bool) (w : World) : Sem.run Yba.prog (Op.equal 33 (kb a) (kb (!a))) w = .ok false w := by cases a <;> kernel_rfl
theorem chk (e a : Bool) (w : World) : Sem.run Yba.prog (Instr.checkKey e 10000 33 (kb a)) w = .ok () w := by cases a <;> kernel_rfl
theorem zero3 (w : World) : Sem.run Yba.prog (zeroValue 3) w = .ok (.int .i64 0) w := by kernel_rfl

/-- what a block that is a map holds -/
def mapAt (w : World) (b : Nat) : Option (Array MapEntry × Nat) := match w.heap[b]? with | some (.map es c) => some (es, c) | _ => none
def putMap (w : World) (b : Nat) (es : Array MapEntry) (c : Nat) : World := { w with heap := w.heap.setIfInBounds b (.map es c) }

theorem heap_of_mapAt {w : World} {b : Nat} {es : Array MapEntry} {c : Nat} (h : mapAt w b = some (es, c)) : w.heap[b]? = some (.map es c) := by
  unfold mapAt at h
  split at h <;> simp_all
theorem mapAt_drew (w : World) (b : Nat) : mapAt w.drew b = mapAt w b := rfl
theorem mapAt_drewN (w : World) (n b : Nat) : mapAt (w.drewN n) b = mapAt w b := rfl
theorem mapAt_setCell (w : World) (a : Addr) (v : Value) (b : Nat) : mapAt (w.setCell a v) b = mapAt w b := by
  unfold mapAt World.setCell
  simp only [Array.getElem?_modify]
  by_cases h : a.block = b
  · subst h
    simp only [if_true]
    cases w.heap[a.block]? with
    | none => rfl
    | some o => cases o <;> rfl
  · simp [h]
theorem mapAt_alloc (w : World) (o : Obj) (b : Nat) (h : b < w.heap.size) : mapAt (w.alloc o) b = mapAt w b := by
  unfold mapAt; rw [Below.heap_alloc w o b h]
theorem mapAt_new (w : World) (es : Array MapEntry) (c : Nat) : mapAt (w.alloc (.map es c)) w.heap.size = some (es, c) := by
  unfold mapAt
  have : (w.alloc (.map es c)).heap[w.heap.size]? = some (.map es c) := by show (w.heap.push _)[_]? = _; simp
  rw [this]
theorem lt_of_mapAt {w : World} {b : Nat} (h : (mapAt w b).isSome = true) : b < w.heap.size := by
  unfold mapAt at h
  rcases Nat.lt_or_ge b w.heap.size with hl | hl
  · exact hl
  · rw [Array.getElem?_eq_none hl] at h; simp at h
theorem mapAt_putMap (w : World) (b : Nat) (es : Array MapEntry) (c : Nat) (h : (mapAt w b).isSome = true) : mapAt (putMap w b es c) b = some (es, c) := by
  have hl := lt_of_mapAt h
  unfold mapAt putMap
  simp [hl]
theorem map_block {w : World} {b : Nat} (h : (mapAt w b).isSome = true) : ∃ es c, w.heap[b]? = some (.map es c) := by
  obtain ⟨⟨es, c⟩, hx⟩ := Option.isSome_iff_exists.1 h
  exact ⟨es, c, heap_of_mapAt hx⟩
theorem cell?_putMap (w : World) (b : Nat) (es : Array MapEntry) (c : Nat) (a : Addr) (h : (mapAt w b).isSome = true) : (putMap w b es c).cell? a = w.cell? a := by
  obtain ⟨es0, c0, hb⟩ := map_block h
  have hl := lt_of_mapAt h
  unfold World.cell? putMap
  by_cases e : b = a.block
  · subst e; rw [hb]; simp [hl]
  · simp [e]
theorem frozen?_putMap (w : World) (b : Nat) (es : Array MapEntry) (c : Nat) (a : Addr) (h : (mapAt w b).isSome = true) : (putMap w b es c).frozen? a = w.frozen? a := by
  obtain ⟨es0, c0, hb⟩ := map_block h
  have hl := lt_of_mapAt h
  unfold World.frozen? putMap
  by_cases e : b = a.block
  · subst e; rw [hb]; simp [hl]
  · simp [e]
theorem size_putMap (w : World) (b : Nat) (es : Array MapEntry) (c : Nat) : (putMap w b es c).heap.size = w.heap.size := by simp [putMap]
theorem putMap_drew (w : World) (b : Nat) (es : Array MapEntry) (c : Nat) : putMap w.drew b es c = (putMap w b es c).drew := rfl
theorem putMap_putMap (w : World) (b : Nat) (es es' : Array MapEntry) (c c' : Nat) : putMap (putMap w b es c) b es' c' = putMap w b es' c' := by simp [putMap]
theorem below_putMap {B b : Nat} {w0 w : World} (hb : Below B w0 w) (h : B ≤ b) (es : Array MapEntry) (c : Nat) : Below B w0 (putMap w b es c) :=
  hb.trans ⟨rfl, rfl, rfl, by simp [putMap], fun k hk => by simp [putMap]; rw [Array.getElem?_setIfInBounds_ne (by omega)]⟩

theorem mapAt_put (w : World) (b : Nat) (es : Array MapEntry) (c : Nat) (h : b < w.heap.size) : mapAt (putMap w b es c) b = some (es, c) := by
  unfold mapAt putMap
  simp [h]
theorem cell?_put (w : World) (b k o : Nat) (es : Array MapEntry) (c : Nat) (h : ¬ k = b) : (putMap w b es c).cell? ⟨k, o, none⟩ = w.cell? ⟨k, o, none⟩ := by
  have h' : ¬ b = k := fun e => h e.symm
  unfold World.cell? putMap
  simp [h']
theorem frozen?_put (w : World) (b k o : Nat) (es : Array MapEntry) (c : Nat) (h : ¬ k = b) : (putMap w b es c).frozen? ⟨k, o, none⟩ = w.frozen? ⟨k, o, none⟩ := by
  have h' : ¬ b = k := fun e => h e.symm
  unfold World.frozen? putMap
  simp [h']

/-- the entries of a map of at most the two sources: M says what each holds -/
def Ents (es : Array MapEntry) (c : Nat) (M : Bool → Option Int) : Prop :=
  (es = #[] ∧ ∀ b, M b = none) ∨
  (∃ b x n, es = #[E b x n] ∧ n < c ∧ M b = some x ∧ M (!b) = none) ∨
  (∃ b x y n m, es = #[E b x n, E (!b) y m] ∧ n < c ∧ m < c ∧ n ≠ m ∧ M b = some x ∧ M (!b) = some y)

theorem Ents.cases {es : Array MapEntry} {c : Nat} {M : Bool → Option Int} (h : Ents es c M) (a : Bool) :
    (es = #[] ∧ M a = none ∧ M (!a) = none) ∨ (∃ x n, es = #[E a x n] ∧ n < c ∧ M a = some x ∧ M (!a) = none) ∨ (∃ y m, es = #[E (!a) y m] ∧ m < c ∧ M a = none ∧ M (!a) = some y) ∨
    (∃ x y n m, es = #[E a x n, E (!a) y m] ∧ n < c ∧ m < c ∧ n ≠ m ∧ M a = some x ∧ M (!a) = some y) ∨ (∃ x y n m, es = #[E (!a) y m, E a x n] ∧ n < c ∧ m < c ∧ n ≠ m ∧ M a = some x ∧ M (!a) = some y) := by
  rcases h with ⟨rfl, h⟩ | ⟨b, x, n, rfl, h1, h2, h3⟩ | ⟨b, x, y, n, m, rfl, h1, h2, h3, h4, h5⟩
  · exact .inl ⟨rfl, h _, h _⟩
  · by_cases e : b = a
    · subst e; exact .inr (.inl ⟨x, n, rfl, h1, h2, h3⟩)
    · obtain rfl : b = !a := by cases a <;> cases b <;> simp_all
      exact .inr (.inr (.inl ⟨x, n, rfl, h1, by simpa using h3, h2⟩))
  · by_cases e : b = a
    · subst e; exact .inr (.inr (.inr (.inl ⟨x, y, n, m, rfl, h1, h2, h3, h4, h5⟩)))
    · obtain rfl : b = !a := by cases a <;> cases b <;> simp_all
      exact .inr (.inr (.inr (.inr ⟨y, x, m, n, by simp, h2, h1, Ne.symm h3, by simpa using h5, h4⟩)))

/-- the map with a's count set, or struck -/
def set (M : Bool → Option Int) (a : Bool) (v : Option Int) : Bool → Option Int := fun b => if b = a then v else M b
theorem set_same (M : Bool → Option Int) (a : Bool) (v : Option Int) : set M a v a = v := by simp [set]
theorem set_other (M : Bool → Option Int) (a : Bool) (v : Option Int) : set M a v (!a) = M (!a) := by cases a <;> simp [set]

theorem asks_nil (a : Bool) (i : Nat) (w : World) : Sem.run Yba.prog (Instr.findAsking 33 (kb a) [] i) w = .ok none w := rfl
theorem asks_same (a : Bool) (v : Value) (n i : Nat) (r : List MapEntry) (w : World) : Sem.run Yba.prog (Instr.findAsking 33 (kb a) ({ key := kb a, val := v, born := n } :: r) i) w = .ok (some (i, v)) w := by
  simp [Instr.findAsking, eq_same]
theorem asks_other (a : Bool) (v : Value) (n i : Nat) (r : List MapEntry) (w : World) :
    Sem.run Yba.prog (Instr.findAsking 33 (kb a) ({ key := kb (!a), val := v, born := n } :: r) i) w = Sem.run Yba.prog (Instr.findAsking 33 (kb a) r (i + 1)) w := by
  simp [Instr.findAsking, eq_other]
theorem find_nil (a : Bool) (w : World) : Sem.run Yba.prog (Instr.findKey 33 (kb a) []) w = .ok none w := by
  simp [Instr.findKey, run_underlying Yba.underlying33, Instr.findNow]
theorem find_cons (a : Bool) (e : MapEntry) (r : List MapEntry) (w : World) : Sem.run Yba.prog (Instr.findKey 33 (kb a) (e :: r)) w = Sem.run Yba.prog (Instr.findAsking 33 (kb a) (e :: r)) w := by
  simp [Instr.findKey, run_underlying Yba.underlying33, Instr.findNow, Instr.sameNow]

theorem bits_same (a : Bool) : Instr.sameBits 10000 (kb a) (kb a) = true := by cases a <;> rfl

theorem get_map {w : World} {r : Nat} {es : Array MapEntry} {c : Nat} (h : mapAt w r = some (es, c)) : Sem.run Yba.prog (getObj r) w = .ok (.map es c) w := by
  simp [getObj, Sem.run, heap_of_mapAt h]
theorem set_map {w : World} {r : Nat} {es : Array MapEntry} {c : Nat} (h : mapAt w r = some (es, c)) (es' : Array MapEntry) (c' : Nat) : Sem.run Yba.prog (setObj r (.map es' c')) w = .ok () (putMap w r es' c') := by
  simp [setObj, Sem.run, heap_of_mapAt h, putMap]

theorem as_int (n : Int) (w : World) : Sem.run Yba.prog (asInt (.int .i64 n)) w = .ok n w := rfl

theorem run_look {es : Array MapEntry} {c : Nat} {M : Bool → Option Int} (h : Ents es c M) (a ok : Bool) (bm : Nat) (W : World) (hm : mapAt W bm = some (es, c)) :
    Sem.run Yba.prog (Instr.lookup 34 (.map (some bm)) (kb a) ok) W = .ok (if ok then .tuple #[.int .i64 ((M a).getD 0), .bool (M a).isSome] else .int .i64 ((M a).getD 0)) W := by
  have hg := get_map hm
  rcases h.cases a with ⟨rfl, h1, h2⟩ | ⟨x, n, rfl, h0, h1, h2⟩ | ⟨y, m, rfl, h0, h1, h2⟩ | ⟨x, y, n, m, rfl, h0, h3, h4, h1, h2⟩ | ⟨x, y, n, m, rfl, h0, h3, h4, h1, h2⟩
  all_goals simp [Instr.lookup, run_underlying Yba.underlying34, hg, chk, find_nil, find_cons, asks_nil, asks_same, asks_other, h1]

theorem run_entry {es : Array MapEntry} {c : Nat} {M : Bool → Option Int} (h : Ents es c M) (a : Bool) (bm : Nat) :
    ∃ (v0 : Value) (s : Nat) (es1 : Array MapEntry) (c1 : Nat) (es2 : Int → Array MapEntry),
      (∀ W, mapAt W bm = some (es, c) → Sem.run Yba.prog (Instr.mapEntry 34 (.map (some bm)) (kb a)) W = .ok (.tuple #[v0, .int .i64 s]) (putMap W bm es1 c1)) ∧
      (∀ W v, mapAt W bm = some (es1, c1) → Sem.run Yba.prog (Instr.entryStore 34 (.map (some bm)) (.int .i64 s) (.int .i64 v)) W = .ok () (putMap W bm (es2 v) c1)) ∧
      Ents es1 c1 (set M a (some ((M a).getD 0))) ∧ ∀ v, Ents (es2 v) c1 (set M a (some v)) := by
  rcases h.cases a with ⟨rfl, h1, h2⟩ | ⟨x, n, rfl, h0, h1, h2⟩ | ⟨y, m, rfl, h0, h1, h2⟩ | ⟨x, y, n, m, rfl, h0, h3, h4, h1, h2⟩ | ⟨x, y, n, m, rfl, h0, h3, h4, h1, h2⟩
  · refine ⟨.int .i64 0, c, #[E a 0 c], c + 1, fun v => #[E a v c], fun W hm => ?_, fun W v hm => ?_, ?h1, fun v => ?h2⟩
    · simp [Instr.mapEntry, run_underlying Yba.underlying34, get_map hm, set_map hm, chk, find_nil, goInt]
    · simp [Instr.entryStore, get_map hm, set_map hm, as_int]
    case h1 => rw [h1]; exact .inr (.inl ⟨a, 0, c, rfl, by omega, set_same _ _ _, by rw [set_other]; exact h2⟩)
    case h2 => exact .inr (.inl ⟨a, v, c, rfl, by omega, set_same _ _ _, by rw [set_other]; exact h2⟩)
  · refine ⟨.int .i64 x, n, #[E a x n], c, fun v => #[E a v n], fun W hm => ?_, fun W v hm => ?_, ?h1, fun v => ?h2⟩
    · simp [Instr.mapEntry, run_underlying Yba.underlying34, get_map hm, set_map hm, chk, find_cons, asks_same, goInt, Instr.keyThatStays, bits_same]
    · simp [Instr.entryStore, get_map hm, set_map hm, as_int]
    case h1 => rw [h1]; exact .inr (.inl ⟨a, x, n, rfl, h0, set_same _ _ _, by rw [set_other]; exact h2⟩)
    case h2 => exact .inr (.inl ⟨a, v, n, rfl, h0, set_same _ _ _, by rw [set_other]; exact h2⟩)
  · refine ⟨.int .i64 0, c, #[E (!a) y m, E a 0 c], c + 1, fun v => #[E (!a) y m, E a v c], fun W hm => ?_, fun W v hm => ?_, ?h1, fun v => ?h2⟩
    · simp [Instr.mapEntry, run_underlying Yba.underlying34, get_map hm, set_map hm, chk, find_cons, asks_other, asks_nil, goInt]
    · have e : ¬ (m : Int) = (c : Int) := by omega
      simp [Instr.entryStore, get_map hm, set_map hm, as_int, List.findIdx?_cons, e]
    case h1 => rw [h1]; exact .inr (.inr ⟨!a, y, 0, m, c, by simp, by omega, by omega, by omega, by rw [set_other]; exact h2, by simp [set_same]⟩)
    case h2 => exact .inr (.inr ⟨!a, y, v, m, c, by simp, by omega, by omega, by omega, by rw [set_other]; exact h2, by simp [set_same]⟩)
  · refine ⟨.int .i64 x, n, #[E a x n, E (!a) y m], c, fun v => #[E a v n, E (!a) y m], fun W hm => ?_, fun W v hm => ?_, ?h1, fun v => ?h2⟩
    · simp [Instr.mapEntry, run_underlying Yba.underlying34, get_map hm, set_map hm, chk, find_cons, asks_same, goInt, Instr.keyThatStays, bits_same]
    · simp [Instr.entryStore, get_map hm, set_map hm, as_int, List.findIdx?_cons]
    case h1 => rw [h1]; exact .inr (.inr ⟨a, x, y, n, m, rfl, h0, h3, h4, set_same _ _ _, by rw [set_other]; exact h2⟩)
    case h2 => exact .inr (.inr ⟨a, v, y, n, m, rfl, h0, h3, h4, set_same _ _ _, by rw [set_other]; exact h2⟩)
  · refine ⟨.int .i64 x, n, #[E (!a) y m, E a x n], c, fun v => #[E (!a) y m, E a v n], fun W hm => ?_, fun W v hm => ?_, ?h1, fun v => ?h2⟩
    · simp [Instr.mapEntry, run_underlying Yba.underlying34, get_map hm, set_map hm, chk, find_cons, asks_same, asks_other, goInt, Instr.keyThatStays, bits_same]
    · have e : ¬ (m : Int) = (n : Int) := by omega
      simp [Instr.entryStore, get_map hm, set_map hm, as_int, List.findIdx?_cons, e]
    case h1 => rw [h1]; exact .inr (.inr ⟨!a, y, x, m, n, by simp, h3, h0, by omega, by rw [set_other]; exact h2, by simp [set_same]⟩)
    case h2 => exact .inr (.inr ⟨!a, y, v, m, n, by simp, h3, h0, by omega, by rw [set_other]; exact h2, by simp [set_same]⟩)

theorem run_delete {es : Array MapEntry} {c : Nat} {M : Bool → Option Int} (h : Ents es c M) (a : Bool) (bm : Nat) :
    ∃ es', (∀ W ty, mapAt W bm = some (es, c) → Sem.run Yba.prog (Builtin.delete_ #[34, 33] ty #[.map (some bm), kb a]) W = .ok (.tuple #[]) (putMap W bm es' c)) ∧ Ents es' c (set M a none) := by
  rcases h.cases a with ⟨rfl, h1, h2⟩ | ⟨x, n, rfl, h0, h1, h2⟩ | ⟨y, m, rfl, h0, h1, h2⟩ | ⟨x, y, n, m, rfl, h0, h3, h4, h1, h2⟩ | ⟨x, y, n, m, rfl, h0, h3, h4, h1, h2⟩
  · refine ⟨#[], fun W ty hm => ?_, .inl ⟨rfl, fun b => ?_⟩⟩
    · simp [Builtin.delete_, run_underlying Yba.underlying34, get_map hm, set_map hm, chk, find_nil]
    · by_cases e : b = a
      · subst e; exact set_same _ _ _
      · obtain rfl : b = !a := by cases a <;> cases b <;> simp_all
        rw [set_other]; exact h2
  · refine ⟨#[], fun W ty hm => ?_, .inl ⟨rfl, fun b => ?_⟩⟩
    · simp [Builtin.delete_, run_underlying Yba.underlying34, get_map hm, set_map hm, chk, find_cons, asks_same]
    · by_cases e : b = a
      · subst e; exact set_same _ _ _
      · obtain rfl : b = !a := by cases a <;> cases b <;> simp_all
        rw [set_other]; exact h2
  · refine ⟨#[E (!a) y m], fun W ty hm => ?_, .inr (.inl ⟨!a, y, m, rfl, h0, by rw [set_other]; exact h2, by simp [set_same]⟩)⟩
    simp [Builtin.delete_, run_underlying Yba.underlying34, get_map hm, set_map hm, chk, find_cons, asks_other, asks_nil]
  · refine ⟨#[E (!a) y m], fun W ty hm => ?_, .inr (.inl ⟨!a, y, m, rfl, h3, by rw [set_other]; exact h2, by simp [set_same]⟩)⟩
    simp [Builtin.delete_, run_underlying Yba.underlying34, get_map hm, set_map hm, chk, find_cons, asks_same]
  · refine ⟨#[E (!a) y m], fun W ty hm => ?_, .inr (.inl ⟨!a, y, m, rfl, h3, by rw [set_other]; exact h2, by simp [set_same]⟩)⟩
    simp [Builtin.delete_, run_underlying Yba.underlying34, get_map hm, set_map hm, chk, find_cons, asks_other, asks_same]

theorem run_update {es : Array MapEntry} {c : Nat} {M : Bool → Option Int} (h : Ents es c M) (a : Bool) (bm : Nat) (v : Int) :
    ∃ es' c', (∀ W, mapAt W bm = some (es, c) → Sem.run Yba.prog (Instr.mapUpdate 34 (.map (some bm)) (kb a) (.int .i64 v)) W = .ok () (putMap W bm es' c')) ∧ Ents es' c' (set M a (some v)) := by
  rcases h.cases a with ⟨rfl, h1, h2⟩ | ⟨x, n, rfl, h0, h1, h2⟩ | ⟨y, m, rfl, h0, h1, h2⟩ | ⟨x, y, n, m, rfl, h0, h3, h4, h1, h2⟩ | ⟨x, y, n, m, rfl, h0, h3, h4, h1, h2⟩
  · refine ⟨#[E a v c], c + 1, fun W hm => ?_, .inr (.inl ⟨a, v, c, rfl, by omega, set_same _ _ _, by rw [set_other]; exact h2⟩)⟩
    simp [Instr.mapUpdate, run_underlying Yba.underlying34, get_map hm, set_map hm, chk, find_nil]
  · refine ⟨#[E a v n], c, fun W hm => ?_, .inr (.inl ⟨a, v, n, rfl, h0, set_same _ _ _, by rw [set_other]; exact h2⟩)⟩
    simp [Instr.mapUpdate, run_underlying Yba.underlying34, get_map hm, set_map hm, chk, find_cons, asks_same, Instr.keyThatStays, bits_same]
  · refine ⟨#[E (!a) y m, E a v c], c + 1, fun W hm => ?_, .inr (.inr ⟨!a, y, v, m, c, by simp, by omega, by omega, by omega, by rw [set_other]; exact h2, by simp [set_same]⟩)⟩
    simp [Instr.mapUpdate, run_underlying Yba.underlying34, get_map hm, set_map hm, chk, find_cons, asks_other, asks_nil]
  · refine ⟨#[E a v n, E (!a) y m], c, fun W hm => ?_, .inr (.inr ⟨a, v, y, n, m, rfl, h0, h3, h4, set_same _ _ _, by rw [set_other]; exact h2⟩)⟩
    simp [Instr.mapUpdate, run_underlying Yba.underlying34, get_map hm, set_map hm, chk, find_cons, asks_same, Instr.keyThatStays, bits_same]
  · refine ⟨#[E (!a) y m, E a v n], c, fun W hm => ?_, .inr (.inr ⟨!a, y, v, m, n, by simp, h3, h0, by omega, by rw [set_other]; exact h2, by simp [set_same]⟩)⟩
    simp [Instr.mapUpdate, run_underlying Yba.underlying34, get_map hm, set_map hm, chk, find_cons, asks_other, asks_same, Instr.keyThatStays, bits_same]

/-- how many sources the map holds -/
def count (M : Bool → Option Int) : Nat := (if (M true).isSome then 1 else 0) + (if (M false).isSome then 1 else 0)
theorem run_len {es : Array MapEntry} {c : Nat} {M : Bool → Option Int} (h : Ents es c M) (bm : Nat) (W : World) (ty : TypeId) (hm : mapAt W bm = some (es, c)) :
    Sem.run Yba.prog (Builtin.len_ #[34] ty #[.map (some bm)]) W = .ok (.int .i64 (count M)) W := by
  have e : es.size = count M := by
    rcases h.cases true with ⟨rfl, h1, h2⟩ | ⟨x, n, rfl, h0, h1, h2⟩ | ⟨y, m, rfl, h0, h1, h2⟩ | ⟨x, y, n, m, rfl, h0, h3, h4, h1, h2⟩ | ⟨x, y, n, m, rfl, h0, h3, h4, h1, h2⟩
    all_goals (simp at h2; simp [count, h1, h2])
  simp [Builtin.len_, run_underlying Yba.underlying34, get_map hm, goInt, e]
end Go.Proofs.Ybulkfinm
