import Derived.Test.YbulkjncDown
namespace Go.Proofs.Ybulkjnc
open Go.RowKit

/-- A block of the store's own: the store, an entry, the queue's row. -/
def Obj.own (o : Obj) : Prop := ∃ cs t fz, o = .cells cs t fz ∧ (t = 50 ∨ t = 52 ∨ t = 53)

/-- From w to w' nothing below B is written, and no block but the store's own, and M. -/
structure Kin (B M : Nat) (w w' : World) : Prop where
  os : w'.os = w.os
  tape : w'.tape = w.tape
  output : w'.output = w.output
  size : w.heap.size ≤ w'.heap.size
  low : ∀ k, k < w.heap.size → k < B → w'.heap[k]? = w.heap[k]?
  keep : ∀ k o, ¬ k = M → w.heap[k]? = some o → ¬ Obj.own o → w'.heap[k]? = some o

theorem Kin.refl (B M : Nat) (w : World) : Kin B M w w := ⟨rfl, rfl, rfl, Nat.le_refl _, fun _ _ _ => rfl, fun _ _ _ h _ => h⟩
theorem Kin.trans {B M : Nat} {a b c : World} (h : Kin B M a b) (k : Kin B M b c) : Kin B M a c :=
  ⟨k.os.trans h.os, k.tape.trans h.tape, k.output.trans h.output, Nat.le_trans h.size k.size, fun i hi hB => (k.low i (Nat.lt_of_lt_of_le hi h.size) hB).trans (h.low i hi hB),
    fun i o hm ho hn => k.keep i o hm (h.keep i o hm ho hn) hn⟩
theorem Kin.below {B M : Nat} {a b : World} (h : Kin B M a b) (hB : B ≤ a.heap.size) : Below B a b :=
  ⟨h.os, h.tape, h.output, h.size, fun k hk => h.low k (by omega) hk⟩
theorem Kin.of {B M : Nat} {a b : World} {xs : List Nat} (h : Upd a b xs) (hx : ∀ y ∈ xs, B ≤ y ∧ (y = M ∨ ∀ o, a.heap[y]? = some o → Obj.own o)) : Kin B M a b :=
  ⟨h.os, h.tape, h.output, h.size, fun k hk hB => h.block k hk fun hm => by have := (hx k hm).1; omega,
    fun k o hM ho hn => h.heap ho fun hm => (hx k hm).2.elim hM fun h2 => hn (h2 o ho)⟩
theorem Kin.cells {B M : Nat} {a b : World} (h : Kin B M a b) {k : Nat} {cs : Array Value} {t : TypeId} {fz : Nat × Nat} (ho : a.heap[k]? = some (.cells cs t fz)) (hM : ¬ k = M) (h1 : t ≠ 50) (h2 : t ≠ 52) (h3 : t ≠ 53) : b.heap[k]? = some (.cells cs t fz) :=
  h.keep k _ hM ho (by
    rintro ⟨cs', t', fz', e, h⟩
    simp at e
    obtain ⟨_, rfl, _⟩ := e
    rcases h with h | h | h <;> contradiction)

/-- The queue's blocks. -/
def blks (g n : Nat) (x : Nat → Ent) : List Nat := g :: (List.range n).map fun i => (x i).b
theorem mem_blks (g n : Nat) (x : Nat → Ent) : ∀ k, k < n → (x k).b ∈ blks g n x := fun k hk => by
  unfold blks
  simp only [List.mem_cons, List.mem_map, List.mem_range]
  exact .inr ⟨k, hk, rfl⟩
theorem g_blks (g n : Nat) (x : Nat → Ent) : g ∈ blks g n x := by simp [blks]

section
variable {B M : Nat} {w w' : World} {S g n cap : Nat} {x : Nat → Ent} {mv : Value} {lv : Int}
theorem Qu.kin (q : Qu w S g n cap x mv lv) (hg : B ≤ g) (hx : ∀ i, i < n → B ≤ (x i).b) (hU : Upd w w' (blks g n x)) : Kin B M w w' := by
  refine Kin.of hU fun y hy => ?_
  unfold blks at hy
  simp only [List.mem_cons, List.mem_map, List.mem_range] at hy
  rcases hy with rfl | ⟨i, hi, rfl⟩
  · refine ⟨hg, .inr fun o ho => ?_⟩
    obtain ⟨cs, h, _, _⟩ := q.row
    rw [h] at ho
    simp at ho
    exact ⟨cs, 53, (0, 0), ho.symm, .inr (.inr rfl)⟩
  · refine ⟨hx i hi, .inr fun o ho => ?_⟩
    rw [q.ent i hi] at ho
    simp at ho
    exact ⟨_, 52, (0, 0), ho.symm, .inr (.inl rfl)⟩
theorem Same.low {y : Nat → Ent} (h : Same x y n) (hx : ∀ i, i < n → B ≤ (x i).b) : ∀ i, i < n → B ≤ (y i).b := by
  intro k hk
  obtain ⟨i, hi, e⟩ := (h (y k)).2 ⟨k, hk, rfl⟩
  rw [← e]
  exact hx i hi

theorem len_walk (a : Option Addr) (n cap : Nat) (w : World) : Calls Yba.prog 49 #[.slice a n cap] w fun e w' => e = .returned (.int .i64 n) ∧ w = w' := by
  go_enter Yba.func49, Yba.ntmps49
  go_wp2
  go_ret
  exact ⟨rfl, rfl⟩

set_option maxHeartbeats 400000 in
theorem fix_walk (q : Qu w S g n cap x mv lv) (hg : B ≤ g) (hx : ∀ i, i < n → B ≤ (x i).b) (i : Nat) (hi : i < n) (hn : n ≤ 4) (hN : Near x n i) :
    Calls Yba.prog 20 #[.iface 60 (.pointer (some ⟨S, 1, none⟩)), .int .i64 i] w fun e w' => e = .returned (.tuple #[]) ∧ ∃ x', Qu w' S g n cap x' mv lv ∧ Same x x' n ∧ HeapOK x' n ∧ Kin B M w w' := by
  have hM := meth_len S _ w (cell_of q.st rfl)
  have hD := down_walk n i w q hi (Nat.le_refl _) hn hN (blks g n x) (g_blks g n x) (mem_blks g n x)
  go_enter Yba.func20, Yba.ntmps20
  go_wp2_with fail
  refine (len_walk _ n cap w).mono ?_
  rintro e w1 ⟨rfl, rfl⟩
  clear hM
  go_wp2_with fail
  refine hD.mono ?_
  rintro e w1 ⟨r, rfl, x1, q1, hs1, hU1, ht, hf⟩
  clear hD
  have HK : Kin B M w w1 := q.kin hg hx hU1
  cases r
  · have hI := hf rfl
    clear ht hf
    have hUp := up_walk n i w1 q1 hi (Nat.le_refl _) hn hI (blks g n x1) (g_blks g n x1) (mem_blks g n x1)
    go_wp2_with fail
    refine hUp.mono ?_
    rintro e w2 ⟨rfl, x2, q2, hs2, hh, hU2⟩
    clear hUp
    go_wp2
    go_end0
    exact ⟨rfl, x2, q2, hs1.1.trans hs2.1, hh, HK.trans (q1.kin hg (hs1.1.low hx) hU2)⟩
  · have hh := ht rfl
    clear ht hf
    go_wp2
    go_end0
    exact ⟨rfl, x1, q1, hs1.1, hh, HK⟩
end
end Go.Proofs.Ybulkjnc
