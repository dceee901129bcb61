import Derived.Test.YbulkjncSto2
namespace Go.Proofs.Ybulkjnc
open Go.RowKit

theorem setk_id {α : Type} (f : Nat → α) (k : Nat) (v : α) (h : f k = v) : setk f k v = f := by
  funext i
  unfold setk
  split
  · rename_i e; rw [e, h]
  · rfl
theorem near_of (x : Nat → Ent) (n i : Nat) (E0 : Ent) (hn : n ≤ 4) (hi : i < n) (h : HeapOK x n) : Near (setk x i E0) n i := by
  unfold HeapOK at h
  unfold Near
  have : i = 0 ∨ i = 1 ∨ i = 2 ∨ i = 3 := by omega
  rcases this with rfl | rfl | rfl | rfl <;> simp [setk] <;> omega

theorem sto_old {B : Nat} {w w' : World} {S M n : Nat} {x : Nat → Ent} {sl : Value} {hv : Nat → Bool} {E : Nat → Ent} (s : Sto B w S M n x sl hv E) {k : Nat} (hk : k < 4) (hn : hv k = true) {i : Nat} (hi : i < n) (hxi : x i = E k) (E0 : Ent) (h0k : E0.k = k) (h0b : E0.b = (E k).b)
    {g cap : Nat} {x' : Nat → Ent} (q : Qu w' S g n cap x' (.map (some M)) (lvc hv E + (if (E k).del = true then 0 else -1) + if E0.del = true then 0 else 1)) (hg : B ≤ g) (hs : Same (setk x i E0) x' n) (hh : HeapOK x' n) (m : Mp w' M hv E) :
    Sto B w' S M n x' (.slice (some ⟨g, 0, none⟩) n cap) (setk hv k true) (setk E k E0) := by
  have hl : lvc (setk hv k true) (setk E k E0) = lvc hv E + (if (E k).del = true then 0 else -1) + if E0.del = true then 0 else 1 := by
    rw [lvc_set hv E k hk, hn]
    cases E0.del <;> cases (E k).del <;> simp [one] <;> omega
  have hhv : setk hv k true = hv := setk_id hv k true hn
  obtain ⟨g0, cap0, _, _, q0⟩ := s.q.qu (by omega)
  refine ⟨?_, ?_, s.bS, s.bM, hs.low fun j hj => ?_, hh, ?_, fun e => ?_, fun k' hk' hh' => ?_⟩
  · rw [hl]; exact q.qn hg
  · rw [hhv]
    refine m.congr fun k' => ?_
    by_cases e : k' = k
    · subst e; rw [setk_same]; exact h0b
    · rw [setk_other _ _ _ e]
  · by_cases e : j = i
    · subst e; rw [setk_same, h0b, ← hxi]; exact s.bx j hj
    · rw [setk_other _ _ _ e]; exact s.bx j hj
  · rw [hhv]; exact s.num
  · rw [← hs e]
    constructor
    · rintro ⟨j, hj, rfl⟩
      by_cases e : j = i
      · subst e
        exact ⟨k, hk, setk_same _ _ _, by rw [setk_same, setk_same]⟩
      · rw [setk_other _ _ _ e]
        obtain ⟨k', a, b, c⟩ := (s.mem (x j)).1 ⟨j, hj, rfl⟩
        have ne : ¬ k' = k := by
          rintro rfl
          exact e (q0.inj hj hi (by rw [← c, hxi]))
        exact ⟨k', a, by rw [setk_other _ _ _ ne]; exact b, by rw [setk_other _ _ _ ne]; exact c⟩
    · rintro ⟨k', a, b, rfl⟩
      by_cases e : k' = k
      · subst e
        exact ⟨i, hi, by rw [setk_same, setk_same]⟩
      · rw [setk_other _ _ _ e] at b
        obtain ⟨j, hj, h⟩ := (s.mem (E k')).2 ⟨k', a, b, rfl⟩
        have ne : ¬ j = i := by
          rintro rfl
          have h1 := s.key k' a b
          have h2 := s.key k hk hn
          rw [← h, hxi, h2] at h1
          exact e h1.symm
        exact ⟨j, hj, by rw [setk_other _ _ _ e, setk_other _ _ _ ne, h]⟩
  · by_cases e : k' = k
    · subst e; rw [setk_same]; exact h0k
    · rw [setk_other _ _ _ e] at hh' ⊢
      exact s.key k' hk' hh'

/-- The world behind an item's store at block b. -/
def put8 (w : World) (b k : Nat) (v : Value) (d : Int) (del : Bool) : World :=
  ((((((((w.setCell ⟨b, 0, none⟩ (.string (kb k))).setCell ⟨b, 1, none⟩ v).setCell ⟨b, 2, none⟩ (.int .u64 (nsOf d))).setCell ⟨b, 3, none⟩ (.int .i64 (scOf d))).setCell ⟨b, 4, none⟩ (.pointer none)).setCell ⟨b, 5, none⟩ (.int .i64 0)).setCell ⟨b, 6, none⟩ (.string ⟨#[]⟩)).setCell ⟨b, 7, none⟩ (.bool del))
theorem put8_upd (w : World) (b k : Nat) (v : Value) (d : Int) (del : Bool) : Upd w (put8 w b k v d del) [b] :=
  (((((((((Upd.refl w [b]).setCell _ _ (.inl (by simp))).setCell _ _ (.inl (by simp))).setCell _ _ (.inl (by simp))).setCell _ _ (.inl (by simp))).setCell _ _ (.inl (by simp))).setCell _ _ (.inl (by simp))).setCell _ _ (.inl (by simp))).setCell _ _ (.inl (by simp)))
theorem put8_ent (w : World) (b k : Nat) (v : Value) (d : Int) (del : Bool) (e : Ent) (i : Int) (h : w.heap[b]? = some (.cells (e.cells i) 52 (0, 0))) (E0 : Ent) (h0 : E0 = { b := b, k := k, v := v, d := d, del := del }) : (put8 w b k v d del).heap[b]? = some (.cells (E0.cells i) 52 (0, 0)) := by
  refine (heap_set (heap_set (heap_set (heap_set (heap_set (heap_set (heap_set (heap_set h)))))))).trans ?_
  subst h0
  simp [Ent.cells]

/-- The store into an entry: its item anew. -/
theorem Qu.stored {w w' : World} {S g n cap : Nat} {x : Nat → Ent} {mv : Value} {lv : Int} (q : Qu w S g n cap x mv lv) {i : Nat} (hi : i < n) (E0 : Ent) (h0b : E0.b = (x i).b) (hU : Upd w w' [(x i).b]) (he : w'.heap[(x i).b]? = some (.cells (E0.cells i) 52 (0, 0))) :
    Qu w' S g n cap (setk x i E0) mv lv := by
  refine ⟨hU.heap q.st (by have := q.ne_S hi; simpa using this), ?_, q.caps, fun j hj => ?_⟩
  · obtain ⟨cs, h, z, k⟩ := q.row
    refine ⟨cs, hU.heap h (by have := q.ne_g hi; simpa using this), z, fun j hj => ?_⟩
    by_cases e : j = i
    · subst e; rw [setk_same, h0b]; exact k j hj
    · rw [setk_other _ _ _ e]; exact k j hj
  · by_cases e : j = i
    · subst e; rw [setk_same, h0b]; exact he
    · rw [setk_other _ _ _ e]
      exact hU.heap (q.ent j hj) (by simp only [List.mem_singleton]; exact fun h => e (q.inj hj hi h))
end Go.Proofs.Ybulkjnc
