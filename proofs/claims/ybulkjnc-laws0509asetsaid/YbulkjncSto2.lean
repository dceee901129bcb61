import Derived.Test.YbulkjncSto
namespace Go.Proofs.Ybulkjnc
open Go.RowKit

theorem Kin.weak {B K M : Nat} {w w' : World} (h : Kin B K w w') (hK : w.heap.size ≤ K) : Kin B M w w' :=
  ⟨h.os, h.tape, h.output, h.size, h.low, fun k o _ ho hn => h.keep k o (by have := lt_of_heap ho; omega) ho hn⟩
theorem Kin.map {B K : Nat} {w w' : World} (h : Kin B K w w') (hK : w.heap.size ≤ K) {M : Nat} {es : Array MapEntry} {c : Nat} (hM : w.heap[M]? = some (.map es c)) : w'.heap[M]? = some (.map es c) :=
  h.keep M _ (by have := lt_of_heap hM; omega) hM (by rintro ⟨cs, t, fz, e, _⟩; cases e)
theorem Mp.kin {B K : Nat} {w w' : World} {M : Nat} {hv : Nat → Bool} {E : Nat → Ent} (m : Mp w M hv E) (h : Kin B K w w') (hK : w.heap.size ≤ K) : Mp w' M hv E := by
  obtain ⟨es, c, hb⟩ := m.block
  exact m.kept ((h.map hK hb).trans hb.symm)
theorem Kin.upd0 {B M : Nat} {w w' : World} (h : Upd w w' []) : Kin B M w w' := Kin.of h (by simp)
theorem Kin.updM {B M : Nat} {w w' : World} (h : Upd w w' [M]) (hB : B ≤ M) : Kin B M w w' := Kin.of h (by simp [hB])
theorem Kin.own1 {B M k : Nat} {w w' : World} (h : Upd w w' [k]) (hB : B ≤ k) {cs : Array Value} {t : TypeId} {fz : Nat × Nat} (hk : w.heap[k]? = some (.cells cs t fz)) (ht : t = 50 ∨ t = 52 ∨ t = 53) : Kin B M w w' := by
  refine Kin.of h fun y hy => ?_
  simp only [List.mem_singleton] at hy
  subst hy
  refine ⟨hB, .inr fun o ho => ?_⟩
  rw [hk] at ho
  simp at ho
  exact ⟨cs, t, fz, ho.symm, ht⟩

theorem Kin.trans_new {B M : Nat} {a b c : World} {xs : List Nat} (h : Kin B M a b) (k : Upd b c xs) (hx : ∀ y ∈ xs, a.heap.size ≤ y) : Kin B M a c :=
  ⟨k.os.trans h.os, k.tape.trans h.tape, k.output.trans h.output, Nat.le_trans h.size k.size, fun i hi hB => (k.block i (Nat.lt_of_lt_of_le hi h.size) (fun hm => by have := hx i hm; omega)).trans (h.low i hi hB),
    fun i o hm ho hn => k.heap (h.keep i o hm ho hn) (fun hm' => by have := hx i hm'; have := lt_of_heap ho; omega)⟩
theorem own_keep {B n : Nat} {w w' : World} {e : TypeId} {v : Value} {xs : List Value} (h : w.ownsRow B e 1 v n xs) (hk : ∀ (k : Nat) cs, w.heap[k]? = some (.cells cs e (0, 0)) → w'.heap[k]? = some (.cells cs e (0, 0))) : w'.ownsRow B e 1 v n xs := by
  obtain ⟨h1, ⟨h2, h3⟩ | ⟨g, cap, cur, h2, h3, h4, h5⟩⟩ := h
  · exact ⟨h1, .inl ⟨h2, h3⟩⟩
  · exact ⟨h1, .inr ⟨g, cap, cur, h2, h3, hk _ _ h4, h5⟩⟩
theorem Sto.ne_M {B : Nat} {w : World} {S M n : Nat} {x : Nat → Ent} {sl : Value} {hv : Nat → Bool} {E : Nat → Ent} (s : Sto B w S M n x sl hv E) {k : Nat} {cs : Array Value} {t : TypeId} {fz : Nat × Nat} (hk : w.heap[k]? = some (.cells cs t fz)) : ¬ k = M := by
  rintro rfl
  obtain ⟨es, c, hb⟩ := s.m.block
  rw [hk] at hb
  cases hb

/-- 'count' on a store. -/
theorem Qu.count {w w' : World} {S g n cap : Nat} {x : Nat → Ent} {mv : Value} {lv : Int} (q : Qu w S g n cap x mv lv) (del : Bool) (c : Int) (h : w' = if del = true then w else w.setCell ⟨S, 2, none⟩ (.int .i64 (lv + c))) :
    Qu w' S g n cap x mv (lv + if del = true then 0 else c) ∧ Upd w w' [S] := by
  cases del
  · simp only [Bool.false_eq_true, if_false] at h ⊢
    subst h
    have hU : Upd w (w.setCell ⟨S, 2, none⟩ (.int .i64 (lv + c))) [S] := (Upd.refl w [S]).setCell _ _ (.inl (by simp))
    refine ⟨⟨?_, ?_, q.caps, fun i hi => ?_⟩, hU⟩
    · refine (heap_set q.st).trans ?_
      simp
    · obtain ⟨cs, h, z, k⟩ := q.row
      exact ⟨cs, hU.heap h (by have := q.ne_gS; simpa using this), z, k⟩
    · exact hU.heap (q.ent i hi) (by have := q.ne_S hi; simpa using fun e => this e.symm)
  · simp only [if_true] at h ⊢
    subst h
    simp only [Int.add_zero]
    exact ⟨q, Upd.refl _ _⟩

theorem sto_new {B : Nat} {w w' : World} {S M n : Nat} {x : Nat → Ent} {sl : Value} {hv : Nat → Bool} {E : Nat → Ent} (s : Sto B w S M n x sl hv E) {k : Nat} (hk : k < 4) (hn : hv k = false) (E0 : Ent) (h0k : E0.k = k) (hBE : B ≤ E0.b)
    {g' cap' : Nat} {x' : Nat → Ent} (q : Qu w' S g' (n + 1) cap' x' (.map (some M)) (lvc hv E + if E0.del = true then 0 else 1)) (hg : B ≤ g') (hs : Same (ext x n E0) x' (n + 1)) (hh : HeapOK x' (n + 1)) (m : Mp w' M (setk hv k true) (setk E k E0)) :
    Sto B w' S M (n + 1) x' (.slice (some ⟨g', 0, none⟩) (n + 1) cap') (setk hv k true) (setk E k E0) := by
  have hl : lvc (setk hv k true) (setk E k E0) = lvc hv E + if E0.del = true then 0 else 1 := by
    rw [lvc_set hv E k hk, hn]
    cases E0.del <;> simp [one]
  refine ⟨?_, m, s.bS, s.bM, hs.low fun i hi => ?_, hh, ?_, fun e => ?_, fun k' hk' hh' => ?_⟩
  · rw [hl]; exact q.qn hg
  · unfold ext
    by_cases e : i = n
    · rw [if_pos e]; exact hBE
    · rw [if_neg e]; exact s.bx i (by omega)
  · rw [cnt_add hv k hk hn, s.num]
  · rw [← hs e]
    constructor
    · rintro ⟨i, hi, rfl⟩
      unfold ext
      by_cases e : i = n
      · rw [if_pos e]
        exact ⟨k, hk, setk_same _ _ _, setk_same _ _ _⟩
      · rw [if_neg e]
        obtain ⟨k', a, b, c⟩ := (s.mem (x i)).1 ⟨i, by omega, rfl⟩
        have ne : ¬ k' = k := by rintro rfl; rw [hn] at b; cases b
        exact ⟨k', a, by rw [setk_other _ _ _ ne]; exact b, by rw [setk_other _ _ _ ne]; exact c⟩
    · rintro ⟨k', a, b, rfl⟩
      by_cases e : k' = k
      · subst e
        exact ⟨n, by omega, by simp [ext, setk_same]⟩
      · rw [setk_other _ _ _ e] at b
        obtain ⟨i, hi, h⟩ := (s.mem (E k')).2 ⟨k', a, b, rfl⟩
        refine ⟨i, by omega, ?_⟩
        rw [setk_other _ _ _ e, ← h]
        simp [ext, Nat.ne_of_lt hi]
  · by_cases e : k' = k
    · subst e; rw [setk_same]; exact h0k
    · rw [setk_other _ _ _ e] at hh' ⊢
      exact s.key k' hk' hh'
end Go.Proofs.Ybulkjnc
