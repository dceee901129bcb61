import Derived.Test.YbulkjncQu
import Derived.MapKept
namespace Go.Proofs.Ybulkjnc
open Go.RowKit Go.MapKept

def setk {α : Type} (f : Nat → α) (k : Nat) (v : α) : Nat → α := fun i => if i = k then v else f i
theorem setk_same {α : Type} (f : Nat → α) (k : Nat) (v : α) : setk f k v k = v := by simp [setk]
theorem setk_other {α : Type} (f : Nat → α) (k : Nat) (v : α) {i : Nat} (h : ¬ i = k) : setk f k v i = f i := by simp [setk, h]

/-- How many of the four keys are there. -/
def cnt (hv : Nat → Bool) : Nat := (hv 0).toNat + (hv 1).toNat + (hv 2).toNat + (hv 3).toNat
theorem cnt_le (hv : Nat → Bool) : cnt hv ≤ 4 := by
  unfold cnt
  cases hv 0 <;> cases hv 1 <;> cases hv 2 <;> cases hv 3 <;> decide
theorem cnt_add (hv : Nat → Bool) (k : Nat) (hk : k < 4) (h : hv k = false) : cnt (setk hv k true) = cnt hv + 1 := by
  have : k = 0 ∨ k = 1 ∨ k = 2 ∨ k = 3 := by omega
  rcases this with rfl | rfl | rfl | rfl <;> simp [cnt, setk, h] <;> omega
theorem cnt_sub (hv : Nat → Bool) (k : Nat) (hk : k < 4) (h : hv k = true) : cnt (setk hv k false) + 1 = cnt hv := by
  have : k = 0 ∨ k = 1 ∨ k = 2 ∨ k = 3 := by omega
  rcases this with rfl | rfl | rfl | rfl <;> simp [cnt, setk, h] <;> omega
theorem kb_inj {i j : Nat} (hi : i < 4) (hj : j < 4) (h : kb i = kb j) : i = j := by
  have h1 : i = 0 ∨ i = 1 ∨ i = 2 ∨ i = 3 := by omega
  have h2 : j = 0 ∨ j = 1 ∨ j = 2 ∨ j = 3 := by omega
  rcases h1 with rfl | rfl | rfl | rfl <;> rcases h2 with rfl | rfl | rfl | rfl <;> first | rfl | (simp [kb] at h)

/-- Block M is the store's map: the keys that 'hv' names, each with its entry's pointer. -/
def Mp (w : World) (M : Nat) (hv : Nat → Bool) (E : Nat → Ent) : Prop :=
  ∃ es clock, w.heap[M]? = some (.map es clock) ∧ es.size = cnt hv ∧ (es.toList.map (·.key)).Nodup ∧
    (∀ x ∈ es.toList, ∃ k, k < 4 ∧ hv k = true ∧ x.key = .string (kb k) ∧ x.val = .pointer (some ⟨(E k).b, 0, none⟩)) ∧
    (∀ k, k < 4 → hv k = true → ∃ x ∈ es.toList, x.key = .string (kb k))

section
variable {w w' : World} {M : Nat} {hv : Nat → Bool} {E : Nat → Ent}
theorem Mp.kept (h : Mp w M hv E) (e : w'.heap[M]? = w.heap[M]?) : Mp w' M hv E := by
  obtain ⟨es, c, hb, r⟩ := h
  exact ⟨es, c, e.trans hb, r⟩
theorem Mp.congr {E' : Nat → Ent} (h : Mp w M hv E) (e : ∀ k, (E' k).b = (E k).b) : Mp w M hv E' := by
  obtain ⟨es, c, hb, h1, h2, h3, h4⟩ := h
  refine ⟨es, c, hb, h1, h2, fun x hx => ?_, h4⟩
  obtain ⟨k, a, b, c, d⟩ := h3 x hx
  exact ⟨k, a, b, c, by rw [e]; exact d⟩
theorem Mp.len (h : Mp w M hv E) (ty : TypeId) : (Builtin.len_ #[46] ty #[.map (some M)]).run Yba.prog w = .ok (.int .i64 (cnt hv)) w := by
  obtain ⟨es, c, hb, h1, _⟩ := h
  simp [Builtin.len_, run_underlying Yba.underlying46, MapKept.run_getObj_map hb, Result.andThen, goInt, h1]

theorem find_it (h : Mp w M hv E) {k : Nat} (hk : k < 4) : ∃ es c, w.heap[M]? = some (.map es c) ∧
    ((hv k = false ∧ Instr.findNow .string (.string (kb k)) es.toList 0 = some none ∧ ∀ x ∈ es.toList, x.key ≠ .string (kb k)) ∨
     (hv k = true ∧ ∃ j x, Instr.findNow .string (.string (kb k)) es.toList 0 = some (some (j, .pointer (some ⟨(E k).b, 0, none⟩))) ∧ es.toList[j]? = some x ∧ x.key = .string (kb k))) ∧
    es.size = cnt hv ∧ (es.toList.map (·.key)).Nodup ∧
    (∀ x ∈ es.toList, ∃ k, k < 4 ∧ hv k = true ∧ x.key = .string (kb k) ∧ x.val = .pointer (some ⟨(E k).b, 0, none⟩)) ∧
    (∀ k, k < 4 → hv k = true → ∃ x ∈ es.toList, x.key = .string (kb k)) := by
  obtain ⟨es, c, hb, h1, h2, h3, h4⟩ := h
  refine ⟨es, c, hb, ?_, h1, h2, h3, h4⟩
  have hks : ∀ x ∈ es.toList, IsKey .string x.key := fun x hx => by
    obtain ⟨k', _, _, e, _⟩ := h3 x hx
    rw [e]; trivial
  rcases findNow_spec (d := .string) (k := .string (kb k)) trivial es.toList 0 hks with ⟨f1, f2⟩ | ⟨j, e, f1, f2, f3⟩
  · refine .inl ⟨?_, f1, f2⟩
    cases hh : hv k with
    | false => rfl
    | true =>
      obtain ⟨x, hx, e⟩ := h4 k hk hh
      exact absurd e (f2 x hx)
  · have hm : e ∈ es.toList := List.mem_of_getElem? f2
    obtain ⟨k', a, b, c', d⟩ := h3 e hm
    have ek : k' = k := kb_inj a hk (by rw [c'] at f3; simpa using f3)
    subst ek
    refine .inr ⟨b, j, e, ?_, f2, f3⟩
    rw [f1, d]; simp

theorem Mp.look_no (h : Mp w M hv E) {k : Nat} (hk : k < 4) (hn : hv k = false) : (Instr.lookup 46 (.map (some M)) (.string (kb k)) true).run Yba.prog w = .ok (.tuple #[.pointer none, .bool false]) w := by
  obtain ⟨es, c, hb, ⟨_, f1, _⟩ | ⟨h2, _⟩, _⟩ := find_it h hk
  · have hz : (zeroValue 53).run Yba.prog w = .ok (.pointer none) w := by kernel_rfl
    simp [Instr.lookup, run_underlying Yba.underlying46, MapKept.run_getObj_map hb, run_checkKey (d := .string) (k := .string (kb k)) Yba.underlying9 trivial, run_findKey Yba.underlying9 f1, Result.andThen, hz]
  · rw [hn] at h2; cases h2
theorem Mp.look_yes (h : Mp w M hv E) {k : Nat} (hk : k < 4) (hn : hv k = true) : (Instr.lookup 46 (.map (some M)) (.string (kb k)) true).run Yba.prog w = .ok (.tuple #[.pointer (some ⟨(E k).b, 0, none⟩), .bool true]) w := by
  obtain ⟨es, c, hb, ⟨h2, _⟩ | ⟨_, j, x, f1, _, _⟩, _⟩ := find_it h hk
  · rw [hn] at h2; cases h2
  · simp [Instr.lookup, run_underlying Yba.underlying46, MapKept.run_getObj_map hb, run_checkKey (d := .string) (k := .string (kb k)) Yba.underlying9 trivial, run_findKey Yba.underlying9 f1, Result.andThen]

theorem upd_map (w : World) (M : Nat) (es' : Array MapEntry) (c' : Nat) : Upd w { w with heap := w.heap.setIfInBounds M (.map es' c') } [M] :=
  ⟨rfl, rfl, rfl, by simp, fun k hk hn => by
    simp only [List.mem_singleton] at hn
    simp only [Array.getElem?_setIfInBounds]
    rw [if_neg (by omega)]⟩

/-- A new key. -/
theorem Mp.put (h : Mp w M hv E) {k : Nat} (hk : k < 4) (hn : hv k = false) (e : Ent) :
    ∃ w', (Instr.mapUpdate 46 (.map (some M)) (.string (kb k)) (.pointer (some ⟨e.b, 0, none⟩))).run Yba.prog w = .ok () w' ∧ Mp w' M (setk hv k true) (setk E k e) ∧ Upd w w' [M] ∧ w'.heap.size = w.heap.size := by
  obtain ⟨es, c, hb, ⟨_, f1, f2⟩ | ⟨hh, _⟩, h1, h2, h3, h4⟩ := find_it h hk
  · refine ⟨{ w with heap := w.heap.setIfInBounds M (.map (es.push { key := .string (kb k), val := .pointer (some ⟨e.b, 0, none⟩), born := c }) (c + 1)) }, ?_, ?_, upd_map w M _ _, by simp⟩
    · simp [Instr.mapUpdate, run_underlying Yba.underlying46, MapKept.run_getObj_map hb, run_checkKey (d := .string) (k := .string (kb k)) Yba.underlying9 trivial, run_findKey Yba.underlying9 f1, run_setObj_map _ hb, Result.andThen]
    · refine ⟨_, _, (MapKept.heap_set hb).1, ?_, ?_, ?_, ?_⟩
      · rw [cnt_add hv k hk hn]; simp [h1]
      · simp only [Array.toList_push, List.map_append, List.map_cons, List.map_nil]
        rw [List.nodup_append]
        refine ⟨h2, by simp, ?_⟩
        intro a ha b hb2
        simp only [List.mem_singleton] at hb2
        subst hb2
        obtain ⟨x, hx, rfl⟩ := List.mem_map.1 ha
        exact f2 x hx
      · intro x hx
        simp only [Array.toList_push, List.mem_append, List.mem_singleton] at hx
        rcases hx with hx | rfl
        · obtain ⟨k', a, b, c', d⟩ := h3 x hx
          have ne : ¬ k' = k := by rintro rfl; rw [hn] at b; cases b
          exact ⟨k', a, by rw [setk_other _ _ _ ne]; exact b, c', by rw [setk_other _ _ _ ne]; exact d⟩
        · exact ⟨k, hk, setk_same _ _ _, rfl, by rw [setk_same]⟩
      · intro k' hk' hh
        simp only [Array.toList_push, List.mem_append, List.mem_singleton]
        by_cases ek : k' = k
        · subst ek
          exact ⟨_, .inr rfl, rfl⟩
        · rw [setk_other _ _ _ ek] at hh
          obtain ⟨x, hx, e⟩ := h4 k' hk' hh
          exact ⟨x, .inl hx, e⟩
  · rw [hn] at hh; cases hh

/-- A key goes. -/
theorem Mp.drop (h : Mp w M hv E) {k : Nat} (hk : k < 4) (hn : hv k = true) (ty : TypeId) :
    ∃ w', (Builtin.delete_ #[46, 9] ty #[.map (some M), .string (kb k)]).run Yba.prog w = .ok (.tuple #[]) w' ∧ Mp w' M (setk hv k false) E ∧ Upd w w' [M] ∧ w'.heap.size = w.heap.size := by
  obtain ⟨es, c, hb, ⟨hh, _⟩ | ⟨_, j, x0, f1, f2, f3⟩, h1, h2, h3, h4⟩ := find_it h hk
  · rw [hn] at hh; cases hh
  · have hj : j < es.size := by
      have := (List.getElem?_eq_some_iff.1 f2).1
      simpa using this
    have el : (es.eraseIdxIfInBounds j).toList = es.toList.eraseIdx j := by
      unfold Array.eraseIdxIfInBounds
      rw [dif_pos hj]
      simp
    have uniq : ∀ i x, es.toList[i]? = some x → x.key = .string (kb k) → i = j := by
      intro i x hx e
      have hi : i < (es.toList.map (·.key)).length := by
        have := (List.getElem?_eq_some_iff.1 hx).1
        simpa using this
      refine (List.getElem?_inj hi h2).1 ?_
      simp only [List.getElem?_map, hx, f2, Option.map_some, e, f3]
    refine ⟨{ w with heap := w.heap.setIfInBounds M (.map (es.eraseIdxIfInBounds j) c) }, ?_, ?_, upd_map w M _ _, by simp⟩
    · simp [Builtin.delete_, run_underlying Yba.underlying46, MapKept.run_getObj_map hb, run_checkKey (d := .string) (k := .string (kb k)) Yba.underlying9 trivial, run_findKey Yba.underlying9 f1, run_setObj_map _ hb, Result.andThen]
    · refine ⟨_, _, (MapKept.heap_set hb).1, ?_, ?_, ?_, ?_⟩
      · have := cnt_sub hv k hk hn
        have e2 : (es.eraseIdxIfInBounds j).size = (es.eraseIdxIfInBounds j).toList.length := Array.length_toList.symm
        rw [e2, el, List.length_eraseIdx_of_lt (by simpa using hj)]
        simp
        omega
      · rw [el]
        exact ((List.eraseIdx_sublist _ _).map _).nodup h2
      · intro x hx
        rw [el] at hx
        obtain ⟨i, hi, hxi⟩ := List.mem_eraseIdx_iff_getElem?.1 hx
        obtain ⟨k', a, b, c', d⟩ := h3 x (List.mem_of_getElem? hxi)
        have ne : ¬ k' = k := by rintro rfl; exact hi (uniq i x hxi c')
        exact ⟨k', a, by rw [setk_other _ _ _ ne]; exact b, c', d⟩
      · intro k' hk' hh
        by_cases ek : k' = k
        · subst ek
          rw [setk_same] at hh; cases hh
        · rw [setk_other _ _ _ ek] at hh
          obtain ⟨x, hx, e⟩ := h4 k' hk' hh
          refine ⟨x, ?_, e⟩
          rw [el]
          obtain ⟨i, hi⟩ := List.getElem?_of_mem hx
          refine List.mem_eraseIdx_iff_getElem?.2 ⟨i, ?_, hi⟩
          rintro rfl
          rw [f2] at hi
          simp at hi
          subst hi
          rw [f3] at e
          exact ek (kb_inj hk' hk (by simpa using e.symm))
end
end Go.Proofs.Ybulkjnc
