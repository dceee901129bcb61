import Derived.Test.YbulkjncExpire
import Derived.Test.YbulkjncSetNew
import Derived.Test.YbulkjncSetOld
namespace Go.Proofs.Ybulkjnc
open Go.RowKit

/-- The law's own arrays: which keys there are, which are marks, when each expires; and the zero time. -/
structure Arr (w : World) (B : Nat) (hv : Nat → Bool) (E : Nat → Ent) : Prop where
  h6 : w.heap[B]? = some (.cells #[.bool (hv 0), .bool (hv 1), .bool (hv 2), .bool (hv 3)] 26 (0, 0))
  h7 : w.heap[B + 1]? = some (.cells #[.bool (E 0).del, .bool (E 1).del, .bool (E 2).del, .bool (E 3).del] 26 (0, 0))
  h8 : w.heap[B + 1 + 1]? = some (.cells #[.int .u64 (nsOf (E 0).d), .int .i64 (scOf (E 0).d), .pointer none, .int .u64 (nsOf (E 1).d), .int .i64 (scOf (E 1).d), .pointer none,
    .int .u64 (nsOf (E 2).d), .int .i64 (scOf (E 2).d), .pointer none, .int .u64 (nsOf (E 3).d), .int .i64 (scOf (E 3).d), .pointer none] 31 (0, 0))
  h9 : w.heap[B + 1 + 1 + 1]? = some (.cells #[.int .u64 0, .int .i64 0, .pointer none] 30 (0, 0))

theorem Arr.kept {w w' : World} {B : Nat} {hv : Nat → Bool} {E : Nat → Ent} (h : Arr w B hv E) (hk : ∀ (k : Nat) cs t, w.heap[k]? = some (.cells cs t (0, 0)) → (t = 26 ∨ t = 31 ∨ t = 30) → w'.heap[k]? = some (.cells cs t (0, 0))) : Arr w' B hv E :=
  ⟨hk _ _ _ h.h6 (.inl rfl), hk _ _ _ h.h7 (.inl rfl), hk _ _ _ h.h8 (.inr (.inl rfl)), hk _ _ _ h.h9 (.inr (.inr rfl))⟩
theorem Arr.upd {w w' : World} {B : Nat} {hv : Nat → Bool} {E : Nat → Ent} (h : Arr w B hv E) (hU : Upd w w' []) : Arr w' B hv E := h.kept fun _ _ _ hk _ => hU.heap hk (by simp)
theorem Arr.kin {w w' : World} {B C M S n : Nat} {x : Nat → Ent} {sl : Value} {hv : Nat → Bool} {E : Nat → Ent} {hv0 : Nat → Bool} {E0 : Nat → Ent} (h : Arr w B hv E) (s : Sto C w S M n x sl hv0 E0) (hK : Kin C M w w') : Arr w' B hv E :=
  h.kept fun _ _ t hk ht => hK.cells hk (s.ne_M hk) (by rcases ht with rfl | rfl | rfl <;> decide) (by rcases ht with rfl | rfl | rfl <;> decide) (by rcases ht with rfl | rfl | rfl <;> decide)

def noE : Nat → Ent := fun k => { b := 0, k := k, v := .slice none 0 0, d := 0, del := false }
def noH : Nat → Bool := fun _ => false

/-- The worlds ahead of the script. -/
theorem law_start (W w1 : World) (hw : w1 = (((((((W.alloc (.cells #[.bool false, .bool false, .bool false, .bool false] 26 (0, 0))).alloc (.cells #[.bool false, .bool false, .bool false, .bool false] 26 (0, 0))).alloc
      (.cells #[.int .u64 0, .int .i64 0, .pointer none, .int .u64 0, .int .i64 0, .pointer none, .int .u64 0, .int .i64 0, .pointer none, .int .u64 0, .int .i64 0, .pointer none] 31 (0, 0))).alloc (.cells #[.int .u64 0, .int .i64 0, .pointer none] 30 (0, 0))).alloc (.map #[] 0)).alloc
      (.cells #[.map (some (((((W.alloc (.cells #[.bool false, .bool false, .bool false, .bool false] 26 (0, 0))).alloc (.cells #[.bool false, .bool false, .bool false, .bool false] 26 (0, 0))).alloc
      (.cells #[.int .u64 0, .int .i64 0, .pointer none, .int .u64 0, .int .i64 0, .pointer none, .int .u64 0, .int .i64 0, .pointer none, .int .u64 0, .int .i64 0, .pointer none] 31 (0, 0))).alloc (.cells #[.int .u64 0, .int .i64 0, .pointer none] 30 (0, 0))).heap.size)), .slice none 0 0, .int .i64 0] 50 (0, 0))))) :
    Sto W.heap.size w1 (W.heap.size + 4 + 1) (W.heap.size + 4) 0 noE (.slice none 0 0) noH noE ∧ Arr w1 W.heap.size noH noE ∧ Below W.heap.size W w1 := by
  have hU : Upd W w1 [] := by subst hw; exact ((((((Upd.refl W []).alloc _).alloc _).alloc _).alloc _).alloc _).alloc _
  have hsz : (((((W.alloc (.cells #[.bool false, .bool false, .bool false, .bool false] 26 (0, 0))).alloc (.cells #[.bool false, .bool false, .bool false, .bool false] 26 (0, 0))).alloc
      (.cells #[.int .u64 0, .int .i64 0, .pointer none, .int .u64 0, .int .i64 0, .pointer none, .int .u64 0, .int .i64 0, .pointer none, .int .u64 0, .int .i64 0, .pointer none] 31 (0, 0))).alloc (.cells #[.int .u64 0, .int .i64 0, .pointer none] 30 (0, 0))).heap.size) = W.heap.size + 4 := by simp
  rw [hsz] at hw
  have hheap : w1.heap = (((((W.heap.push (.cells #[.bool false, .bool false, .bool false, .bool false] 26 (0, 0))).push (.cells #[.bool false, .bool false, .bool false, .bool false] 26 (0, 0))).push
      (.cells #[.int .u64 0, .int .i64 0, .pointer none, .int .u64 0, .int .i64 0, .pointer none, .int .u64 0, .int .i64 0, .pointer none, .int .u64 0, .int .i64 0, .pointer none] 31 (0, 0))).push (.cells #[.int .u64 0, .int .i64 0, .pointer none] 30 (0, 0))).push (.map #[] 0)).push
      (.cells #[.map (some (W.heap.size + 4)), .slice none 0 0, .int .i64 0] 50 (0, 0)) := by rw [hw]; rfl
  refine ⟨⟨⟨?_, World.ownsRow_nil _ _ _ _, fun i hi => absurd hi (Nat.not_lt_zero _)⟩, ⟨#[], 0, ?_, by simp [cnt, noH], by simp, by simp, fun k _ h => by simp [noH] at h⟩, by omega, by omega, fun i hi => absurd hi (Nat.not_lt_zero _), by unfold HeapOK; omega, by simp [cnt, noH], fun e => ?_, fun k _ h => by simp [noH] at h⟩, ⟨?_, ?_, ?_, ?_⟩, hU.below (Nat.le_refl _) (by simp)⟩
  · rw [hheap]; simp only [Array.getElem?_push, Array.size_push]; (repeat (first | rw [if_pos trivial] | rw [if_pos (by omega)] | rw [if_neg (by omega)])); simp [lvc, one, noH]
  · rw [hheap]; simp only [Array.getElem?_push, Array.size_push]; (repeat (first | rw [if_pos trivial] | rw [if_pos (by omega)] | rw [if_neg (by omega)]))
  · constructor
    · rintro ⟨i, hi, _⟩; exact absurd hi (Nat.not_lt_zero _)
    · rintro ⟨k, _, h, _⟩; simp [noH] at h
  · rw [hheap]; simp only [Array.getElem?_push, Array.size_push]; (repeat (first | rw [if_pos trivial] | rw [if_pos (by omega)] | rw [if_neg (by omega)])); simp [noH]
  · rw [hheap]; simp only [Array.getElem?_push, Array.size_push]; (repeat (first | rw [if_pos trivial] | rw [if_pos (by omega)] | rw [if_neg (by omega)])); simp [noE]
  · rw [hheap]; simp only [Array.getElem?_push, Array.size_push]; (repeat (first | rw [if_pos trivial] | rw [if_pos (by omega)] | rw [if_neg (by omega)])); simp [noE, nsOf, scOf]
  · rw [hheap]; simp only [Array.getElem?_push, Array.size_push]; (repeat (first | rw [if_pos trivial] | rw [if_pos (by omega)] | rw [if_neg (by omega)]))
end Go.Proofs.Ybulkjnc
