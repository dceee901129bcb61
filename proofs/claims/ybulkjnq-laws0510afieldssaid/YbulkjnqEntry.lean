import Derived.Test.YbulkjnqCmp
import Derived.Deep.MidRow
namespace Go.Proofs.Ybulkjnq
open Go.RowKit
/-- The cells of an entry: the contact's 24, the two times' three each, the failures. -/
def entryCells (C : List Value) (a0 a1 a2 q0 q1 q2 f : Value) : Array Value := (C ++ [a0, a1, a2, q0, q1, q2, f]).toArray
def zeroContact : List Value := [.int .u8 0, .int .u8 0, .int .u8 0, .int .u8 0, .int .u8 0, .int .u8 0, .int .u8 0, .int .u8 0, .int .u8 0, .int .u8 0, .int .u8 0, .int .u8 0, .int .u8 0, .int .u8 0, .int .u8 0, .int .u8 0, .int .u8 0, .int .u8 0, .int .u8 0, .int .u8 0, .int .u64 0, .int .u64 0, .pointer none, .int .u16 0]
theorem built42 (Na sa Nq sq f : Int) : Yba.prog.built 42 [(1, .agg #[.int .u64 Na, .int .i64 sa, .pointer none]), (2, .agg #[.int .u64 Nq, .int .i64 sq, .pointer none]), (3, .int .i64 f)] =
    some (entryCells zeroContact (.int .u64 Na) (.int .i64 sa) (.pointer none) (.int .u64 Nq) (.int .i64 sq) (.pointer none) (.int .i64 f)) := by kernel_rfl
theorem size42 : (Yba.prog.info? 42).map (·.size) = some 31 := by kernel_rfl

theorem wpList_build_is {P : Program} {ops : Array Oper} {rest : List Oper} {o : Oper} {a : Act} {w : World} {Q : Exit → Act → World → Prop} (hg : o.guard = none) (t : TypeId) (parts : Array (Nat × Operand)) (ho : o.op = .build t parts)
    (cells : Array Value) (hf : P.built t (parts.map fun (i, x) => (i, a.eval x)).toList = some cells)
    (h : wpList P ops Q rest (a.put o.dst (.agg cells)) w) : wpList P ops Q (o :: rest) a w :=
  wpList_build hg t parts ho (by rw [hf]; rfl) (by rw [hf]; exact h)
theorem wpList_store_whole {P : Program} {ops : Array Oper} {rest : List Oper} {o : Oper} {a : Act} {w : World} {Q : Exit → Act → World → Prop} (hgd : o.guard = none) (ty : TypeId) (x y : Operand) (ho : o.op = .store ty x y)
    (g : Nat) (cells : Array Value) (hx : a.eval x = .pointer (some ⟨g, 0, none⟩)) (hy : a.eval y = .agg cells)
    (t : TypeId) (old : Array Value) (hg : w.heap[g]? = some (.cells old t (0, 0))) (hi : (P.info? ty).map (·.size) = some cells.size)
    (hold : old.size = cells.size) (h1 : cells.all (·.oneCell') = true)
    (h : ∀ w', w'.heap[g]? = some (.cells cells t (0, 0)) → Upd w w' [g] → w'.heap.size = w.heap.size → wpList P ops Q rest (a.put o.dst undef) w') : wpList P ops Q (o :: rest) a w :=
  wpList_store_row hgd ty x y ho g cells hx hy t old hg hi hold h1 (h _ (setRow_heap w g old cells t _ hg) ((Upd.refl w [g]).setRow g cells (Or.inl (by simp))) (by simp [World.setRow]))

theorem entry_at {C : List Value} (hC : C.length = 24) {a0 a1 a2 q0 q1 q2 f : Value} (j : Nat) (hj : 24 ≤ j) : (entryCells C a0 a1 a2 q0 q1 q2 f)[j]? = [a0, a1, a2, q0, q1, q2, f][j - 24]? := by
  simp only [entryCells, List.getElem?_toArray]
  rw [List.getElem?_append_right (by omega), hC]
theorem entry_set {C : List Value} (hC : C.length = 24) {a0 a1 a2 q0 q1 q2 f : Value} (j : Nat) (hj : 24 ≤ j) (v : Value) : (entryCells C a0 a1 a2 q0 q1 q2 f).setIfInBounds j v = (C ++ ([a0, a1, a2, q0, q1, q2, f].set (j - 24) v)).toArray := by
  simp only [entryCells, List.setIfInBounds_toArray]
  rw [List.set_append, if_neg (by omega), hC]

theorem set24 {C : List Value} (hC : C.length = 24) (a0 a1 a2 q0 q1 q2 f v : Value) : (entryCells C a0 a1 a2 q0 q1 q2 f).setIfInBounds 24 v = entryCells C v a1 a2 q0 q1 q2 f := entry_set hC 24 (by omega) v
theorem set25 {C : List Value} (hC : C.length = 24) (a0 a1 a2 q0 q1 q2 f v : Value) : (entryCells C a0 a1 a2 q0 q1 q2 f).setIfInBounds 25 v = entryCells C a0 v a2 q0 q1 q2 f := entry_set hC 25 (by omega) v
theorem set26 {C : List Value} (hC : C.length = 24) (a0 a1 a2 q0 q1 q2 f v : Value) : (entryCells C a0 a1 a2 q0 q1 q2 f).setIfInBounds 26 v = entryCells C a0 a1 v q0 q1 q2 f := entry_set hC 26 (by omega) v
theorem set27 {C : List Value} (hC : C.length = 24) (a0 a1 a2 q0 q1 q2 f v : Value) : (entryCells C a0 a1 a2 q0 q1 q2 f).setIfInBounds 27 v = entryCells C a0 a1 a2 v q1 q2 f := entry_set hC 27 (by omega) v
theorem set28 {C : List Value} (hC : C.length = 24) (a0 a1 a2 q0 q1 q2 f v : Value) : (entryCells C a0 a1 a2 q0 q1 q2 f).setIfInBounds 28 v = entryCells C a0 a1 a2 q0 v q2 f := entry_set hC 28 (by omega) v
theorem set29 {C : List Value} (hC : C.length = 24) (a0 a1 a2 q0 q1 q2 f v : Value) : (entryCells C a0 a1 a2 q0 q1 q2 f).setIfInBounds 29 v = entryCells C a0 a1 a2 q0 q1 v f := entry_set hC 29 (by omega) v
theorem set30 {C : List Value} (hC : C.length = 24) (a0 a1 a2 q0 q1 q2 f v : Value) : (entryCells C a0 a1 a2 q0 q1 q2 f).setIfInBounds 30 v = entryCells C a0 a1 a2 q0 q1 q2 v := entry_set hC 30 (by omega) v

set_option maxHeartbeats 400000 in
theorem hear_yes (E : Nat) (C : List Value) (hC : C.length = 24) (a0 a1 a2 q0 q1 q2 f : Value) (N s : Int) (w : World)
    (hE : w.heap[E]? = some (.cells (entryCells C a0 a1 a2 q0 q1 q2 f) 42 (0, 0))) :
    Calls Yba.prog 7 #[.pointer (some ⟨E, 0, none⟩), .bool true, .agg #[.int .u64 N, .int .i64 s, .pointer none]] w fun e w' => e = .returned (.tuple #[]) ∧
      w'.heap[E]? = some (.cells (entryCells C (.int .u64 N) (.int .i64 s) (.pointer none) q0 q1 q2 (.int .i64 0)) 42 (0, 0)) ∧ Upd w w' [E] := by
  have c0 := cell_of hE (entry_at hC 24 (by omega))
  have c1 := cell_of hE (entry_at hC 25 (by omega))
  have c2 := cell_of hE (entry_at hC 26 (by omega))
  have c6 := cell_of hE (entry_at hC 30 (by omega))
  have f0 := free_of hE 24
  have f1 := free_of hE 25
  have f2 := free_of hE 26
  have f6 := free_of hE 30
  have hlt := lt_of_heap hE
  have HE := hid hE
  have HC := hid hC
  clear hE hC
  go_enter Yba.func7, Yba.ntmps7
  go_wp2
  go_end0
  refine ⟨rfl, ?_, ((((((Upd.refl w [E]).setCell _ _ (Or.inl (by simp))).setCell _ _ (Or.inl (by simp))).setCell _ _ (Or.inl (by simp))).setCell _ _ (Or.inl (by simp))).alloc _)⟩
  rw [Below.heap_alloc _ _ _ (by simpa [World.setCell] using hlt)]
  have h4 := heap_set (j := 30) (v := .int .i64 0) (heap_set (j := 26) (v := .pointer none) (heap_set (j := 25) (v := .int .i64 s) (heap_set (j := 24) (v := .int .u64 N) HE.out)))
  rw [set24 HC.out, set25 HC.out, set26 HC.out, set30 HC.out] at h4
  exact h4

set_option maxHeartbeats 400000 in
theorem hear_no (E : Nat) (C : List Value) (hC : C.length = 24) (a0 a1 a2 q0 q1 q2 f : Value) (N s : Int) (w : World)
    (hE : w.heap[E]? = some (.cells (entryCells C a0 a1 a2 q0 q1 q2 f) 42 (0, 0))) :
    Calls Yba.prog 7 #[.pointer (some ⟨E, 0, none⟩), .bool false, .agg #[.int .u64 N, .int .i64 s, .pointer none]] w fun e w' => e = .returned (.tuple #[]) ∧
      w'.heap[E]? = some (.cells (entryCells C a0 a1 a2 (.int .u64 N) (.int .i64 s) (.pointer none) f) 42 (0, 0)) ∧ Upd w w' [E] := by
  have c0 := cell_of hE (entry_at hC 27 (by omega))
  have c1 := cell_of hE (entry_at hC 28 (by omega))
  have c2 := cell_of hE (entry_at hC 29 (by omega))
  have f0 := free_of hE 27
  have f1 := free_of hE 28
  have f2 := free_of hE 29
  have hlt := lt_of_heap hE
  have HE := hid hE
  have HC := hid hC
  clear hE hC
  go_enter Yba.func7, Yba.ntmps7
  go_wp2
  go_end0
  refine ⟨rfl, ?_, (((((Upd.refl w [E]).setCell _ _ (Or.inl (by simp))).setCell _ _ (Or.inl (by simp))).setCell _ _ (Or.inl (by simp))).alloc _)⟩
  rw [Below.heap_alloc _ _ _ (by simpa [World.setCell] using hlt)]
  have h4 := heap_set (j := 29) (v := .pointer none) (heap_set (j := 28) (v := .int .i64 s) (heap_set (j := 27) (v := .int .u64 N) HE.out))
  rw [set27 HC.out, set28 HC.out, set29 HC.out] at h4
  exact h4

/-- 'u.After(v)' of two times. -/
def laterP (Nu su Nv sv : Int) : Prop := sv < su ∨ (su = sv ∧ Nv < Nu)
theorem after_lyes (Nu su Nv sv : Int) (w : World) (h10 : 0 ≤ Nu) (h11 : Nu < 1000000000) (h20 : 0 ≤ Nv) (h21 : Nv < 1000000000) (h : laterP Nu su Nv sv) :
    Calls Yba.prog 9 #[.agg #[.int .u64 Nu, .int .i64 su, .pointer none], .agg #[.int .u64 Nv, .int .i64 sv, .pointer none]] w fun e w' => e = .returned (.bool true) ∧ Upd w w' [] := by
  rcases h with h | ⟨rfl, h⟩
  · exact after_gt _ _ _ _ w h10 h11 h20 h21 h
  · exact after_eq_gt _ _ _ w h10 h11 h20 h21 h
theorem after_lno (Nu su Nv sv : Int) (w : World) (h10 : 0 ≤ Nu) (h11 : Nu < 1000000000) (h20 : 0 ≤ Nv) (h21 : Nv < 1000000000) (h : ¬ laterP Nu su Nv sv) :
    Calls Yba.prog 9 #[.agg #[.int .u64 Nu, .int .i64 su, .pointer none], .agg #[.int .u64 Nv, .int .i64 sv, .pointer none]] w fun e w' => e = .returned (.bool false) ∧ Upd w w' [] := by
  unfold laterP at h
  by_cases hs : su < sv
  · exact after_lt _ _ _ _ w h10 h11 h20 h21 hs
  · have e : su = sv := by omega
    subst e
    exact after_eq_le _ _ _ w h10 h11 h20 h21 (by omega)

set_option maxHeartbeats 400000 in
theorem lastSeen_q (E : Nat) (C : List Value) (hC : C.length = 24) (Na sa Nq sq : Int) (f : Value) (w : World) (h10 : 0 ≤ Na) (h11 : Na < 1000000000) (h20 : 0 ≤ Nq) (h21 : Nq < 1000000000) (h : laterP Nq sq Na sa)
    (hE : w.heap[E]? = some (.cells (entryCells C (.int .u64 Na) (.int .i64 sa) (.pointer none) (.int .u64 Nq) (.int .i64 sq) (.pointer none) f) 42 (0, 0))) :
    Calls Yba.prog 10 #[.pointer (some ⟨E, 0, none⟩)] w fun e w' => e = .returned (.agg #[.int .u64 Nq, .int .i64 sq, .pointer none]) ∧ Upd w w' [] := by
  have A := fun W => after_lyes Nq sq Na sa W h20 h21 h10 h11 h
  have c0 := cell_of hE (entry_at hC 24 (by omega))
  have c1 := cell_of hE (entry_at hC 25 (by omega))
  have c2 := cell_of hE (entry_at hC 26 (by omega))
  have c3 := cell_of hE (entry_at hC 27 (by omega))
  have c4 := cell_of hE (entry_at hC 28 (by omega))
  have c5 := cell_of hE (entry_at hC 29 (by omega))
  have hlt := lt_of_heap hE
  have HE := hid hE
  have HC := hid hC
  clear hE hC h h10 h11 h20 h21
  go_enter Yba.func10, Yba.ntmps10
  go_wp2
  go_region_with (go_at_call 9; refine (A _).mono ?_; rintro e w1 ⟨rfl, hU1⟩)
  all_goals
    have hE1 := hU1.heap (show (w.alloc (.cells #[.int .u64 0, .int .i64 0, .pointer none] 39)).heap[E]? = _ from (Below.heap_alloc _ _ _ hlt).trans HE.out) (by simp)
    have hr1 := hU1.heap (show (w.alloc (.cells #[.int .u64 0, .int .i64 0, .pointer none] 39)).heap[w.heap.size]? = _ from heap_alloc_new w _) (by simp)
    have HU : Hid (Upd w w1 []) := (((Upd.refl w []).alloc _).drew).trans hU1
    clear c0 c1 c2 c3 c4 c5 hU1 A
    have c0 := cell_of hE1 (entry_at HC.out 27 (by omega))
    have c1 := cell_of hE1 (entry_at HC.out 28 (by omega))
    have c2 := cell_of hE1 (entry_at HC.out 29 (by omega))
    have r0 := cell_of (j := 0) hr1 rfl
    have r1 := cell_of (j := 1) hr1 rfl
    have r2 := cell_of (j := 2) hr1 rfl
    have f0 := free_of hr1 0
    have f1 := free_of hr1 1
    have f2 := free_of hr1 2
    clear hE1 hr1
    go_wp2
    refine bodyPost_ret (v := .agg #[.int .u64 Nq, .int .i64 sq, .pointer none]) (by simp [results, Yba.results10, go_sem, r0, r1, r2]) rfl ⟨rfl, ?_⟩
    exact ((HU.out.setCell _ _ (Or.inr (Nat.le_refl _))).setCell _ _ (Or.inr (Nat.le_refl _))).setCell _ _ (Or.inr (Nat.le_refl _))

set_option maxHeartbeats 400000 in
theorem lastSeen_a (E : Nat) (C : List Value) (hC : C.length = 24) (Na sa Nq sq : Int) (f : Value) (w : World) (h10 : 0 ≤ Na) (h11 : Na < 1000000000) (h20 : 0 ≤ Nq) (h21 : Nq < 1000000000) (h : ¬ laterP Nq sq Na sa)
    (hE : w.heap[E]? = some (.cells (entryCells C (.int .u64 Na) (.int .i64 sa) (.pointer none) (.int .u64 Nq) (.int .i64 sq) (.pointer none) f) 42 (0, 0))) :
    Calls Yba.prog 10 #[.pointer (some ⟨E, 0, none⟩)] w fun e w' => e = .returned (.agg #[.int .u64 Na, .int .i64 sa, .pointer none]) ∧ Upd w w' [] := by
  have A := fun W => after_lno Nq sq Na sa W h20 h21 h10 h11 h
  have c0 := cell_of hE (entry_at hC 24 (by omega))
  have c1 := cell_of hE (entry_at hC 25 (by omega))
  have c2 := cell_of hE (entry_at hC 26 (by omega))
  have c3 := cell_of hE (entry_at hC 27 (by omega))
  have c4 := cell_of hE (entry_at hC 28 (by omega))
  have c5 := cell_of hE (entry_at hC 29 (by omega))
  have hlt := lt_of_heap hE
  have HE := hid hE
  have HC := hid hC
  clear hE hC h h10 h11 h20 h21
  go_enter Yba.func10, Yba.ntmps10
  go_wp2
  go_region_with (go_at_call 9; refine (A _).mono ?_; rintro e w1 ⟨rfl, hU1⟩)
  all_goals
    have hE1 := hU1.heap (show (w.alloc (.cells #[.int .u64 0, .int .i64 0, .pointer none] 39)).heap[E]? = _ from (Below.heap_alloc _ _ _ hlt).trans HE.out) (by simp)
    have hr1 := hU1.heap (show (w.alloc (.cells #[.int .u64 0, .int .i64 0, .pointer none] 39)).heap[w.heap.size]? = _ from heap_alloc_new w _) (by simp)
    have HU : Hid (Upd w w1 []) := (((Upd.refl w []).alloc _).drew).trans hU1
    clear c0 c1 c2 c3 c4 c5 hU1 A
    have c0 := cell_of hE1 (entry_at HC.out 24 (by omega))
    have c1 := cell_of hE1 (entry_at HC.out 25 (by omega))
    have c2 := cell_of hE1 (entry_at HC.out 26 (by omega))
    have r0 := cell_of (j := 0) hr1 rfl
    have r1 := cell_of (j := 1) hr1 rfl
    have r2 := cell_of (j := 2) hr1 rfl
    have f0 := free_of hr1 0
    have f1 := free_of hr1 1
    have f2 := free_of hr1 2
    clear hE1 hr1
    go_wp2
    refine bodyPost_ret (v := .agg #[.int .u64 Na, .int .i64 sa, .pointer none]) (by simp [results, Yba.results10, go_sem, r0, r1, r2]) rfl ⟨rfl, ?_⟩
    exact ((HU.out.setCell _ _ (Or.inr (Nat.le_refl _))).setCell _ _ (Or.inr (Nat.le_refl _))).setCell _ _ (Or.inr (Nat.le_refl _))
end Go.Proofs.Ybulkjnq
