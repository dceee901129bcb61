import Derived.Test.YbulkjncRemove
import Derived.Test.YbulkjncMap
import Derived.Test.YbulkjncSmall
namespace Go.Proofs.Ybulkjnc
open Go.RowKit

def one (h d : Bool) : Int := if h = true ∧ d = false then 1 else 0
/-- How many of the keys hold a value, not a mark. -/
def lvc (hv : Nat → Bool) (E : Nat → Ent) : Int := one (hv 0) (E 0).del + one (hv 1) (E 1).del + one (hv 2) (E 2).del + one (hv 3) (E 3).del
theorem one_le (h d : Bool) : 0 ≤ one h d ∧ one h d ≤ 1 := by
  cases h <;> cases d <;> decide
theorem lvc_le (hv : Nat → Bool) (E : Nat → Ent) : 0 ≤ lvc hv E ∧ lvc hv E ≤ 4 := by
  unfold lvc
  have h0 := one_le (hv 0) (E 0).del
  have h1 := one_le (hv 1) (E 1).del
  have h2 := one_le (hv 2) (E 2).del
  have h3 := one_le (hv 3) (E 3).del
  omega
theorem lvc_set (hv : Nat → Bool) (E : Nat → Ent) (k : Nat) (hk : k < 4) (h : Bool) (e : Ent) : lvc (setk hv k h) (setk E k e) = lvc hv E - one (hv k) (E k).del + one h e.del := by
  have : k = 0 ∨ k = 1 ∨ k = 2 ∨ k = 3 := by omega
  rcases this with rfl | rfl | rfl | rfl <;> simp [lvc, setk] <;> omega
theorem lvc_drop (hv : Nat → Bool) (E : Nat → Ent) (k : Nat) (hk : k < 4) : lvc (setk hv k false) E = lvc hv E - one (hv k) (E k).del := by
  have e : setk E k (E k) = E := by funext i; unfold setk; split <;> simp_all
  have := lvc_set hv E k hk false (E k)
  rw [e] at this
  rw [this]
  simp [one]

/-- The whole store. -/
structure Sto (B : Nat) (w : World) (S M n : Nat) (x : Nat → Ent) (sl : Value) (hv : Nat → Bool) (E : Nat → Ent) : Prop where
  q : Qn B w S n x (.map (some M)) sl (lvc hv E)
  m : Mp w M hv E
  bS : B ≤ S
  bM : B ≤ M
  bx : ∀ i, i < n → B ≤ (x i).b
  heap : HeapOK x n
  num : n = cnt hv
  mem : ∀ e, (∃ i, i < n ∧ x i = e) ↔ ∃ k, k < 4 ∧ hv k = true ∧ E k = e
  key : ∀ k, k < 4 → hv k = true → (E k).k = k

theorem Qn.kept {B : Nat} {w w' : World} {S n : Nat} {x : Nat → Ent} {mv sl : Value} {lv : Int} (q : Qn B w S n x mv sl lv) (h : ∀ (k : Nat) (o : Obj), w.heap[k]? = some o → Obj.own o → w'.heap[k]? = some o) : Qn B w' S n x mv sl lv := by
  refine ⟨h _ _ q.st ⟨_, 50, _, rfl, .inl rfl⟩, ?_, fun i hi => h _ _ (q.ent i hi) ⟨_, 52, _, rfl, .inr (.inl rfl)⟩⟩
  obtain ⟨h1, ⟨h2, h3⟩ | ⟨g, cap, cur, h2, h3, h4, h5⟩⟩ := q.own
  · exact ⟨h1, .inl ⟨h2, h3⟩⟩
  · exact ⟨h1, .inr ⟨g, cap, cur, h2, h3, h _ _ h4 ⟨_, 53, _, rfl, .inr (.inr rfl)⟩, h5⟩⟩
theorem Mp.block {w : World} {M : Nat} {hv : Nat → Bool} {E : Nat → Ent} (h : Mp w M hv E) : ∃ es c, w.heap[M]? = some (.map es c) := by
  obtain ⟨es, c, hb, _⟩ := h
  exact ⟨es, c, hb⟩
theorem Sto.kept {B : Nat} {w w' : World} {S M n : Nat} {x : Nat → Ent} {sl : Value} {hv : Nat → Bool} {E : Nat → Ent} (s : Sto B w S M n x sl hv E) (h : ∀ (k : Nat) (o : Obj), w.heap[k]? = some o → (Obj.own o ∨ k = M) → w'.heap[k]? = some o) : Sto B w' S M n x sl hv E := by
  obtain ⟨es, c, hb⟩ := s.m.block
  exact ⟨s.q.kept (fun k o hk ho => h k o hk (.inl ho)), s.m.kept ((h M _ hb (.inr rfl)).trans hb.symm), s.bS, s.bM, s.bx, s.heap, s.num, s.mem, s.key⟩
/-- A write to a block that is not the store's. -/
theorem Sto.upd {B : Nat} {w w' : World} {S M n : Nat} {x : Nat → Ent} {sl : Value} {hv : Nat → Bool} {E : Nat → Ent} (s : Sto B w S M n x sl hv E) {xs : List Nat} (h : Upd w w' xs)
    (hx : ∀ y ∈ xs, ∃ cs t fz, w.heap[y]? = some (.cells cs t fz) ∧ t ≠ 50 ∧ t ≠ 52 ∧ t ≠ 53) : Sto B w' S M n x sl hv E := by
  refine s.kept fun k o hk ho => h.heap hk fun hm => ?_
  obtain ⟨cs, t, fz, hc, h1, h2, h3⟩ := hx k hm
  rw [hk] at hc
  simp at hc
  rcases ho with ⟨cs', t', fz', e, h⟩ | rfl
  · rw [e] at hc
    simp at hc
    obtain ⟨_, rfl, _⟩ := hc
    rcases h with h | h | h <;> contradiction
  · obtain ⟨es, c, hb⟩ := s.m.block
    rw [hk] at hb
    simp at hb
    rw [hb] at hc
    cases hc
def itemOf (k : Nat) (v : Value) (d : Int) (del : Bool) : Array Value := #[.string (kb k), v, .int .u64 (nsOf d), .int .i64 (scOf d), .pointer none, .int .i64 0, .string ⟨#[]⟩, .bool del]

theorem own_slice {w : World} {B n : Nat} {e : TypeId} {v : Value} {xs : List Value} (h : w.ownsRow B e 1 v n xs) : ∃ a c, v = .slice a n c := by
  obtain ⟨_, ⟨h, h0⟩ | ⟨g, cap, cur, h, _⟩⟩ := h
  · exact ⟨none, 0, by rw [h0]; exact h⟩
  · exact ⟨_, _, h⟩
def zero41 : Array Value := #[.string ⟨#[]⟩, .slice none 0 0, .int .u64 0, .int .i64 0, .pointer none, .int .i64 0, .string ⟨#[]⟩, .bool false]
/-- The worlds of 'set' up to its look-up. -/
theorem set_pre (w w2 : World) (k : Nat) (v v' : Value) (d : Int) (del : Bool) (zs : List Int)
    (hU : Upd ((w.alloc (.cells (itemOf k v d del) 41 (0, 0))).alloc (.cells zero41 41 (0, 0))) w2 []) (ho : w2.ownsRow ((w.alloc (.cells (itemOf k v d del) 41 (0, 0))).alloc (.cells zero41 41 (0, 0))).heap.size 5 1 v' zs.length (byteVals zs)) :
    w2.heap[w.heap.size]? = some (.cells (itemOf k v d del) 41 (0, 0)) ∧
    (w2.setCell ⟨w.heap.size, 1, none⟩ v').heap[w.heap.size]? = some (.cells (itemOf k v' d del) 41 (0, 0)) ∧ (w2.setCell ⟨w.heap.size, 1, none⟩ v').heap[w.heap.size + 1]? = some (.cells zero41 41 (0, 0)) ∧
    Upd w (w2.setCell ⟨w.heap.size, 1, none⟩ v') [] ∧ (w2.setCell ⟨w.heap.size, 1, none⟩ v').ownsRow w.heap.size 5 1 v' zs.length (byteVals zs) := by
  have e1 : ((w.alloc (.cells (itemOf k v d del) 41 (0, 0))).alloc (.cells zero41 41 (0, 0))).heap[w.heap.size]? = some (.cells (itemOf k v d del) 41 (0, 0)) := by
    rw [Below.heap_alloc _ _ _ (by simp)]
    exact heap_alloc_new w _
  have e2 : ((w.alloc (.cells (itemOf k v d del) 41 (0, 0))).alloc (.cells zero41 41 (0, 0))).heap[w.heap.size + 1]? = some (.cells zero41 41 (0, 0)) := by
    have := heap_alloc_new (w.alloc (.cells (itemOf k v d del) 41 (0, 0))) (.cells zero41 41 (0, 0))
    simpa using this
  have f1 := hU.heap e1 (by simp)
  have f2 := hU.heap e2 (by simp)
  refine ⟨f1, ?_, ?_, ?_, ?_⟩
  · refine (heap_set f1).trans ?_
    simp [itemOf]
  · exact (Below.heap_setCell _ _ _ _ (by simp)).trans f2
  · exact ((((Upd.refl w []).alloc _).alloc _).trans' hU (by simp)).setCell _ _ (.inr (Nat.le_refl _))
  · have hsz : ((w.alloc (.cells (itemOf k v d del) 41 (0, 0))).alloc (.cells zero41 41 (0, 0))).heap.size = w.heap.size + 2 := by simp
    rw [hsz] at ho
    obtain ⟨h1, ⟨h2, h3⟩ | ⟨g, cap, cur, h2, h3, h4, h5⟩⟩ := ho
    · exact ⟨h1, .inl ⟨h2, h3⟩⟩
    · exact ⟨h1, .inr ⟨g, cap, cur, h2, by omega, (Below.heap_setCell _ _ _ g (by simp; omega)).trans h4, h5⟩⟩
end Go.Proofs.Ybulkjnc
