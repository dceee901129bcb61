import Derived.Test.YbulkjncSwap
namespace Go.Proofs.Ybulkjnc
open Go.RowKit

/-- One entry of the store: its block, its key's number, its value, when it expires, whether it is a mark. -/
structure Ent where
  b : Nat
  k : Nat
  v : Value
  d : Int
  del : Bool

/-- The keys' bytes: a, b, c, d. -/
def kb : Nat → ByteArray
  | 0 => ⟨#[97]⟩
  | 1 => ⟨#[98]⟩
  | 2 => ⟨#[99]⟩
  | _ => ⟨#[100]⟩

def Ent.cells (e : Ent) (at' : Int) : Array Value :=
  #[.string (kb e.k), e.v, .int .u64 (nsOf e.d), .int .i64 (scOf e.d), .pointer none, .int .i64 0, .string ⟨#[]⟩, .bool e.del, .int .i64 at']

/-- The store at block S holds the map value mv, the queue of n entries x 0 .. in block g, and the count lv. -/
structure Qu (w : World) (S g n cap : Nat) (x : Nat → Ent) (mv : Value) (lv : Int) : Prop where
  st : w.heap[S]? = some (.cells #[mv, .slice (some ⟨g, 0, none⟩) n cap, .int .i64 lv] 50 (0, 0))
  row : ∃ cs, w.heap[g]? = some (.cells cs 53 (0, 0)) ∧ cs.size = cap ∧ ∀ i, i < n → cs[i]? = some (.pointer (some ⟨(x i).b, 0, none⟩))
  caps : n ≤ cap ∧ cap ≤ maxLen
  ent : ∀ i, i < n → w.heap[(x i).b]? = some (.cells ((x i).cells i) 52 (0, 0))

def swp (x : Nat → Ent) (i j : Nat) : Nat → Ent := fun k => if k = i then x j else if k = j then x i else x k

section
variable {w w' : World} {S g n cap : Nat} {x : Nat → Ent} {mv : Value} {lv : Int}
theorem Qu.ne_g (q : Qu w S g n cap x mv lv) {i : Nat} (hi : i < n) : ¬ g = (x i).b := by
  intro e
  obtain ⟨cs, h, _, _⟩ := q.row
  have h2 := q.ent i hi
  rw [← e, h] at h2
  simp at h2
theorem Qu.ne_S (q : Qu w S g n cap x mv lv) {i : Nat} (hi : i < n) : ¬ S = (x i).b := by
  intro e
  have h2 := q.ent i hi
  rw [← e, q.st] at h2
  simp at h2
theorem Qu.ne_gS (q : Qu w S g n cap x mv lv) : ¬ g = S := by
  intro e
  obtain ⟨cs, h, _, _⟩ := q.row
  rw [e, q.st] at h
  simp at h
theorem Qu.inj (q : Qu w S g n cap x mv lv) {i j : Nat} (hi : i < n) (hj : j < n) (e : (x i).b = (x j).b) : i = j := by
  have h1 := q.ent i hi
  have h2 := q.ent j hj
  rw [e, h2] at h1
  simp [Ent.cells] at h1
  omega
theorem Qu.upd (q : Qu w S g n cap x mv lv) (hU : Upd w w' []) : Qu w' S g n cap x mv lv := by
  refine ⟨hU.heap q.st (by simp), ?_, q.caps, fun i hi => hU.heap (q.ent i hi) (by simp)⟩
  obtain ⟨cs, h, z, k⟩ := q.row
  exact ⟨cs, hU.heap h (by simp), z, k⟩
theorem Qu.row_cell (q : Qu w S g n cap x mv lv) {i : Nat} (hi : i < n) : w.cell? ⟨g, i, none⟩ = some (.pointer (some ⟨(x i).b, 0, none⟩)) := by
  obtain ⟨cs, h, z, k⟩ := q.row
  exact cell_of h (k i hi)
theorem Qu.row_free (q : Qu w S g n cap x mv lv) (i : Nat) : w.frozen? ⟨g, i, none⟩ = false := by
  obtain ⟨cs, h, z, k⟩ := q.row
  exact free_of h i

theorem Qu.less (q : Qu w S g n cap x mv lv) {i j : Nat} (hi : i < n) (hj : j < n) :
    Calls Yba.prog 50 #[.slice (some ⟨g, 0, none⟩) n cap, .int .i64 i, .int .i64 j] w fun e w' => e = .returned (.bool (decide ((x i).d < (x j).d))) ∧ Upd w w' [] :=
  less_walk g n cap i j (x i).b (x j).b (x i).d (x j).d w hi hj (q.row_cell hi) (q.row_cell hj)
    (cell_of (q.ent i hi) rfl) (cell_of (q.ent i hi) rfl) (cell_of (q.ent i hi) rfl) (cell_of (q.ent j hj) rfl) (cell_of (q.ent j hj) rfl) (cell_of (q.ent j hj) rfl)

theorem Qu.swapped (q : Qu w S g n cap x mv lv) {i j : Nat} (hi : i < n) (hj : j < n) (hne : ¬ i = j) (m : Nat) (xs : List Nat) (hg : g ∈ xs) (hx : ∀ k, k < n → (x k).b ∈ xs)
    (hw : w' = ((((w.setCell ⟨g, i, none⟩ (.pointer (some ⟨(x j).b, 0, none⟩))).setCell ⟨g, j, none⟩ (.pointer (some ⟨(x i).b, 0, none⟩))).setCell ⟨(x j).b, 8, none⟩ (.int .i64 i)).setCell ⟨(x i).b, 8, none⟩ (.int .i64 j)).drewN m) :
    Qu w' S g n cap (swp x i j) mv lv ∧ Upd w w' xs := by
  subst hw
  have U : ∀ k, ¬ k = g → ¬ k = (x i).b → ¬ k = (x j).b → (((((w.setCell ⟨g, i, none⟩ (.pointer (some ⟨(x j).b, 0, none⟩))).setCell ⟨g, j, none⟩ (.pointer (some ⟨(x i).b, 0, none⟩))).setCell ⟨(x j).b, 8, none⟩ (.int .i64 i)).setCell ⟨(x i).b, 8, none⟩ (.int .i64 j)).drewN m).heap[k]? = w.heap[k]? := by
    intro k h1 h2 h3
    refine (Below.heap_setCell _ _ _ k h2).trans ?_
    refine (Below.heap_setCell _ _ _ k h3).trans ?_
    refine (Below.heap_setCell _ _ _ k h1).trans ?_
    exact Below.heap_setCell _ _ _ k h1
  have nij : ¬ (x i).b = (x j).b := fun e => hne (q.inj hi hj e)
  refine ⟨⟨?_, ?_, q.caps, ?_⟩, ?_⟩
  · exact (U S (fun e => q.ne_gS e.symm) (q.ne_S hi) (q.ne_S hj)).trans q.st
  · obtain ⟨cs, h, z, k⟩ := q.row
    refine ⟨(cs.setIfInBounds i (.pointer (some ⟨(x j).b, 0, none⟩))).setIfInBounds j (.pointer (some ⟨(x i).b, 0, none⟩)), ?_, by simpa using z, ?_⟩
    · refine (Below.heap_setCell _ _ _ g (q.ne_g hi)).trans ?_
      refine (Below.heap_setCell _ _ _ g (q.ne_g hj)).trans ?_
      exact heap_set (heap_set h)
    · intro r hr
      have k1 := k r hr
      have lr : r < cs.size := by
        rcases Array.getElem?_eq_some_iff.1 k1 with ⟨a, _⟩; exact a
      unfold swp
      by_cases e1 : r = i
      · subst e1
        simp only [if_true]
        rw [Array.getElem?_setIfInBounds_ne (fun e => hne e.symm), Array.getElem?_setIfInBounds_self_of_lt lr]
      · rw [if_neg e1]
        by_cases e2 : r = j
        · subst e2
          simp only [if_true]
          rw [Array.getElem?_setIfInBounds_self_of_lt (by simpa using lr)]
        · rw [if_neg e2, Array.getElem?_setIfInBounds_ne (fun e => e2 e.symm), Array.getElem?_setIfInBounds_ne (fun e => e1 e.symm)]
          exact k1
  · intro r hr
    unfold swp
    by_cases e1 : r = i
    · subst e1
      simp only [if_true]
      refine (Below.heap_setCell _ _ _ (x j).b (fun e => nij e.symm)).trans ?_
      refine (heap_set (t := 52) (cs := (x j).cells j) ?_).trans ?_
      · refine (Below.heap_setCell _ _ _ _ (fun e => q.ne_g hj e.symm)).trans ?_
        exact (Below.heap_setCell _ _ _ _ (fun e => q.ne_g hj e.symm)).trans (q.ent j hj)
      · simp [Ent.cells]
    · rw [if_neg e1]
      by_cases e2 : r = j
      · subst e2
        simp only [if_true]
        refine (heap_set (t := 52) (cs := (x i).cells i) ?_).trans ?_
        · refine (Below.heap_setCell _ _ _ _ nij).trans ?_
          refine (Below.heap_setCell _ _ _ _ (fun e => q.ne_g hi e.symm)).trans ?_
          exact (Below.heap_setCell _ _ _ _ (fun e => q.ne_g hi e.symm)).trans (q.ent i hi)
        · simp [Ent.cells]
      · rw [if_neg e2]
        exact (U _ (fun e => q.ne_g hr e.symm) (fun e => e1 (q.inj hr hi e)) (fun e => e2 (q.inj hr hj e))).trans (q.ent r hr)
  · exact (((((Upd.refl w xs).setCell _ _ (.inl hg)).setCell _ _ (.inl hg)).setCell _ _ (.inl (hx j hj))).setCell _ _ (.inl (hx i hi))).drewN m

theorem Qu.swap (q : Qu w S g n cap x mv lv) {i j : Nat} (hi : i < n) (hj : j < n) (hne : ¬ i = j) (xs : List Nat) (hg : g ∈ xs) (hx : ∀ k, k < n → (x k).b ∈ xs) :
    Calls Yba.prog 51 #[.slice (some ⟨g, 0, none⟩) n cap, .int .i64 i, .int .i64 j] w fun e w' => e = .returned (.tuple #[]) ∧ Qu w' S g n cap (swp x i j) mv lv ∧ Upd w w' xs := by
  refine (swap_walk g n cap i j (x i).b (x j).b w hi hj hne (q.ne_g hi) (q.ne_g hj) (fun e => hne (q.inj hi hj e)) (q.row_cell hi) (q.row_cell hj) (q.row_free i) (q.row_free j)
    ⟨_, cell_of (q.ent i hi) rfl⟩ ⟨_, cell_of (q.ent j hj) rfl⟩ (free_of (q.ent i hi) 8) (free_of (q.ent j hj) 8)).mono ?_
  rintro e w1 ⟨rfl, m, h⟩
  exact ⟨rfl, q.swapped hi hj hne m xs hg hx h⟩
end
end Go.Proofs.Ybulkjnc
