import Derived.Test.YbulkjncRows
import Derived.WalkKit
import Derived.WalkSpells
import Derived.WalkLawsBesides
import Derived.Deep.QuietTactic
import Derived.BigQuiet
import Derived.Deep.RegionWith
import Derived.Maps.OwnOps
namespace Go.Proofs.Ybulkjnc
open Go.RowKit

/-- w' is w with new blocks, and with writes to the blocks that 'xs' lists alone. -/
structure Upd (w w' : World) (xs : List Nat) : Prop where
  os : w'.os = w.os
  tape : w'.tape = w.tape
  output : w'.output = w.output
  size : w.heap.size ≤ w'.heap.size
  block : ∀ k, k < w.heap.size → k ∉ xs → w'.heap[k]? = w.heap[k]?

theorem Upd.refl (w : World) (xs : List Nat) : Upd w w xs := ⟨rfl, rfl, rfl, Nat.le_refl _, fun _ _ _ => rfl⟩
theorem Upd.trans {a b c : World} {xs ys : List Nat} (h : Upd a b xs) (k : Upd b c ys) : Upd a c (xs ++ ys) :=
  ⟨k.os.trans h.os, k.tape.trans h.tape, k.output.trans h.output, Nat.le_trans h.size k.size, fun i hi hn => by
    simp only [List.mem_append, not_or] at hn
    exact (k.block i (Nat.lt_of_lt_of_le hi h.size) hn.2).trans (h.block i hi hn.1)⟩
/-- Blocks that are new since 'a' need not be listed. -/
theorem Upd.trans' {a b c : World} {xs ys : List Nat} (h : Upd a b xs) (k : Upd b c ys) (hy : ∀ y ∈ ys, y ∈ xs ∨ a.heap.size ≤ y) : Upd a c xs :=
  ⟨k.os.trans h.os, k.tape.trans h.tape, k.output.trans h.output, Nat.le_trans h.size k.size, fun i hi hn => by
    have : i ∉ ys := fun hm => by
      rcases hy i hm with h1 | h1
      · exact hn h1
      · omega
    exact (k.block i (Nat.lt_of_lt_of_le hi h.size) this).trans (h.block i hi hn)⟩
theorem Upd.mono {a b : World} {xs ys : List Nat} (h : Upd a b xs) (hx : ∀ x ∈ xs, x ∈ ys ∨ a.heap.size ≤ x) : Upd a b ys :=
  ⟨h.os, h.tape, h.output, h.size, fun i hi hn => h.block i hi fun hm => by
    rcases hx i hm with h1 | h1
    · exact hn h1
    · omega⟩
theorem Upd.alloc {a b : World} {xs : List Nat} (h : Upd a b xs) (o : Obj) : Upd a (b.alloc o) xs :=
  ⟨h.os, h.tape, h.output, by have := h.size; simp; omega, fun i hi hn => (Below.heap_alloc b o i (by have := h.size; omega)).trans (h.block i hi hn)⟩
theorem Upd.drewN {a b : World} {xs : List Nat} (h : Upd a b xs) (n : Nat) : Upd a (b.drewN n) xs := ⟨h.os, h.tape, h.output, h.size, h.block⟩
theorem Upd.drew {a b : World} {xs : List Nat} (h : Upd a b xs) : Upd a b.drew xs := ⟨h.os, h.tape, h.output, h.size, h.block⟩
theorem Upd.setCell {a b : World} {xs : List Nat} (h : Upd a b xs) (p : Addr) (v : Value) (hp : p.block ∈ xs ∨ a.heap.size ≤ p.block) : Upd a (b.setCell p v) xs :=
  ⟨h.os, h.tape, h.output, by simpa [World.setCell] using h.size, fun i hi hn => (Below.heap_setCell b p v i (fun e => by
    rcases hp with h1 | h1
    · exact hn (e ▸ h1)
    · omega)).trans (h.block i hi hn)⟩
theorem Upd.setRow {a b : World} {xs : List Nat} (h : Upd a b xs) (g : Nat) (cs : Array Value) (hp : g ∈ xs ∨ a.heap.size ≤ g) : Upd a (b.setRow g cs) xs :=
  ⟨h.os, h.tape, h.output, by simpa [World.setRow] using h.size, fun i hi hn => (setRow_other b g i cs (fun e => by
    rcases hp with h1 | h1
    · exact hn (e ▸ h1)
    · omega)).trans (h.block i hi hn)⟩
theorem Upd.grown {a b c : World} {xs : List Nat} {row : Option Nat} (h : Upd a b xs) (hg : b.grownBy c row) (hr : ∀ k, row = some k → k ∈ xs ∨ a.heap.size ≤ k) : Upd a c xs :=
  ⟨hg.os.trans h.os, hg.tape.trans h.tape, hg.output.trans h.output, Nat.le_trans h.size hg.size, fun i hi hn => (hg.block i (Nat.lt_of_lt_of_le hi h.size) (fun e => by
    rcases hr i e.symm with h1 | h1
    · exact hn h1
    · omega)).trans (h.block i hi hn)⟩
theorem Upd.below {a b : World} {xs : List Nat} (h : Upd a b xs) {B : Nat} (hB : B ≤ a.heap.size) (hx : ∀ x ∈ xs, B ≤ x) : Below B a b :=
  ⟨h.os, h.tape, h.output, h.size, fun k hk => h.block k (by omega) fun hm => by have := hx k hm; omega⟩
theorem Upd.heap {a b : World} {xs : List Nat} (h : Upd a b xs) {k : Nat} {o : Obj} (hk : a.heap[k]? = some o) (hn : k ∉ xs) : b.heap[k]? = some o :=
  (h.block k (Array.getElem?_eq_some_iff.1 hk).1 hn).trans hk

theorem hid {p : Prop} (h : p) : Hid p := h
theorem lt_of_heap {w : World} {k : Nat} {o : Obj} (h : w.heap[k]? = some o) : k < w.heap.size := (Array.getElem?_eq_some_iff.1 h).1
theorem cell_of {w : World} {g j : Nat} {cs : Array Value} {t : TypeId} {fz : Nat × Nat} {v : Value} (h : w.heap[g]? = some (.cells cs t fz)) (hv : cs[j]? = some v) : w.cell? ⟨g, j, none⟩ = some v := by
  simp [World.cell?, h, hv]
theorem free_of {w : World} {g : Nat} {cs : Array Value} {t : TypeId} (h : w.heap[g]? = some (.cells cs t (0, 0))) (j : Nat) : w.frozen? ⟨g, j, none⟩ = false :=
  frozen_of_row w g j cs t h
theorem heap_set {w : World} {g j : Nat} {cs : Array Value} {t : TypeId} {v : Value} (h : w.heap[g]? = some (.cells cs t (0, 0))) : (w.setCell ⟨g, j, none⟩ v).heap[g]? = some (.cells (cs.setIfInBounds j v) t (0, 0)) :=
  heap_setCell_same w g j cs t v h

end Go.Proofs.Ybulkjnc
