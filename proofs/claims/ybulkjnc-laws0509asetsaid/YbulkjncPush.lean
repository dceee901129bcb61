import Derived.Test.YbulkjncKin
namespace Go.Proofs.Ybulkjnc
open Go.RowKit

theorem Yba.info53 : (Yba.prog.info? 53).map (fun i => (i.zero, i.size, i.bytes)) = some (some (.pointer none), 1, 8) := by kernel_rfl

def ext (x : Nat → Ent) (n : Nat) (E : Ent) : Nat → Ent := fun i => if i = n then E else x i
def ptrs (x : Nat → Ent) (n : Nat) : List Value := (List.range n).map fun i => .pointer (some ⟨(x i).b, 0, none⟩)
theorem ptrs_length (x : Nat → Ent) (n : Nat) : (ptrs x n).length = n := by simp [ptrs]
theorem ptrs_get (x : Nat → Ent) (n i : Nat) (h : i < n) : (ptrs x n)[i]? = some (.pointer (some ⟨(x i).b, 0, none⟩)) := by simp [ptrs, h]
theorem ptrs_ext (x : Nat → Ent) (n : Nat) (E : Ent) : ptrs x n ++ [.pointer (some ⟨E.b, 0, none⟩)] = ptrs (ext x n E) (n + 1) := by
  unfold ptrs
  rw [List.range_succ, List.map_append]
  congr 1
  · apply List.map_congr_left
    intro i hi
    simp only [List.mem_range] at hi
    simp [ext, Nat.ne_of_lt hi]
  · simp [ext]

theorem ta_entry (a : Option Addr) (w : World) : (Instr.typeAssert (.iface 53 (.pointer a)) 20 53 false).run Yba.prog w = .ok (.pointer a) w := by kernel_rfl

/-- The store's queue, nil or not: n entries x 0 .. . -/
structure Qn (B : Nat) (w : World) (S n : Nat) (x : Nat → Ent) (mv sl : Value) (lv : Int) : Prop where
  st : w.heap[S]? = some (.cells #[mv, sl, .int .i64 lv] 50 (0, 0))
  own : w.ownsRow B 53 1 sl n (ptrs x n)
  ent : ∀ i, i < n → w.heap[(x i).b]? = some (.cells ((x i).cells i) 52 (0, 0))

section
variable {B M : Nat} {w w' : World} {S g n cap : Nat} {x : Nat → Ent} {mv sl : Value} {lv : Int} {xs : List Value}
theorem Qu.qn (q : Qu w S g n cap x mv lv) (hg : B ≤ g) : Qn B w S n x mv (.slice (some ⟨g, 0, none⟩) n cap) lv := by
  refine ⟨q.st, ⟨by rw [ptrs_length]; omega, .inr ?_⟩, q.ent⟩
  obtain ⟨cs, h, z, k⟩ := q.row
  refine ⟨g, cap, cs, rfl, hg, h, q.caps.1, q.caps.2, by omega, ?_⟩
  apply List.ext_getElem?
  intro i
  by_cases hi : i < n
  · rw [ptrs_get x n i hi, List.getElem?_take, if_pos (by omega)]
    simpa using k i hi
  · rw [List.getElem?_eq_none (l := ptrs x n) (by rw [ptrs_length]; omega), List.getElem?_eq_none (by simp; omega)]
theorem Qn.qu (q : Qn B w S n x mv sl lv) (hn : 0 < n) : ∃ g cap, sl = .slice (some ⟨g, 0, none⟩) n cap ∧ B ≤ g ∧ Qu w S g n cap x mv lv := by
  obtain ⟨_, ⟨_, h⟩ | ⟨g, cap, cur, rfl, hb, hh, h1, h2, h3, h4⟩⟩ := q.own
  · omega
  · refine ⟨g, cap, rfl, hb, q.st, ⟨cur, hh, by omega, fun i hi => ?_⟩, ⟨h1, h2⟩, q.ent⟩
    have := ptrs_get x n i hi
    rw [← h4, List.getElem?_take, if_pos (by omega)] at this
    simpa using this

theorem own_block (h : w.ownsRow B 53 1 sl n xs) {k : Nat} (hk : sl.ownBlock = some k) : B ≤ k ∧ ∃ cs, w.heap[k]? = some (.cells cs 53 (0, 0)) := by
  obtain ⟨_, ⟨rfl, _⟩ | ⟨g, cap, cur, rfl, hb, hh, _⟩⟩ := h
  · simp [Value.ownBlock] at hk
  · simp [Value.ownBlock] at hk
    subst hk
    exact ⟨hb, cur, hh⟩
theorem own_ne (h : w.ownsRow B 53 1 sl n xs) {k : Nat} {cs : Array Value} {t : TypeId} {fz : Nat × Nat} (hk : w.heap[k]? = some (.cells cs t fz)) (ht : t ≠ 53) : some k ≠ sl.ownBlock := by
  intro e
  obtain ⟨_, cs', h2⟩ := own_block h e.symm
  rw [hk] at h2
  simp at h2
  exact ht h2.2.1
theorem own_set (h : w.ownsRow B 53 1 sl n xs) {k : Nat} {cs : Array Value} {t : TypeId} {fz : Nat × Nat} (hk : w.heap[k]? = some (.cells cs t fz)) (ht : t ≠ 53) (j : Nat) (v : Value) : (w.setCell ⟨k, j, none⟩ v).ownsRow B 53 1 sl n xs :=
  h.kept (row := some k) ⟨rfl, rfl, rfl, by simp [World.setCell], fun i hi hne => Below.heap_setCell w _ _ i (fun e => hne (by rw [e]))⟩ (.inr fun e => own_ne h hk ht e.symm)

/-- What 'Push' leaves. -/
theorem qpush_end (q : Qn B w S n x mv sl lv) (E : Ent) (a0 : Int) (hE : w.heap[E.b]? = some (.cells (E.cells a0) 52 (0, 0))) (hBS : B ≤ S) (hBE : B ≤ E.b) (hne : ∀ i, i < n → ¬ (x i).b = E.b) (hSE : ¬ S = E.b)
    (o : Obj) (w1 : World) (v' : Value) (ho : w1.ownsRow B 53 1 v' (n + 1) (ptrs x n ++ [.pointer (some ⟨E.b, 0, none⟩)])) (hg : ((w.setCell ⟨E.b, 8, none⟩ (.int .i64 n)).alloc o).grownBy w1 sl.ownBlock) :
    Qn B (w1.setCell ⟨S, 1, none⟩ v') S (n + 1) (ext x n E) mv v' lv ∧ Kin B M w (w1.setCell ⟨S, 1, none⟩ v') ∧ w1.heap[S]? = some (.cells #[mv, sl, .int .i64 lv] 50 (0, 0)) := by
  have keep : ∀ k cs t fz, w.heap[k]? = some (.cells cs t fz) → t ≠ 53 → ¬ k = E.b → w1.heap[k]? = some (.cells cs t fz) := by
    intro k cs t fz hk ht hn
    have lt := lt_of_heap hk
    refine (hg.block k (by simp; omega) (own_ne q.own hk ht)).trans ?_
    refine (Below.heap_alloc _ o k (by simpa [World.setCell] using lt)).trans ?_
    exact (Below.heap_setCell w _ _ k hn).trans hk
  have hS := keep S _ 50 _ q.st (by decide) hSE
  have hEE : w1.heap[E.b]? = some (.cells (E.cells n) 52 (0, 0)) := by
    have lt := lt_of_heap hE
    refine (hg.block E.b (by simp; omega) (own_ne q.own hE (by decide))).trans ?_
    refine (Below.heap_alloc _ o E.b (by simpa [World.setCell] using lt)).trans ?_
    refine (heap_set hE).trans ?_
    simp [Ent.cells]
  refine ⟨⟨?_, ?_, ?_⟩, ?_, hS⟩
  · refine (heap_set hS).trans ?_
    simp
  · rw [← ptrs_ext]
    exact own_set ho hS (by decide) 1 v'
  · intro i hi
    unfold ext
    by_cases e : i = n
    · subst e
      rw [if_pos rfl]
      exact (Below.heap_setCell _ _ _ _ (fun e => hSE e.symm)).trans hEE
    · rw [if_neg e]
      have hx := q.ent i (by omega)
      refine (Below.heap_setCell _ _ _ _ (fun e => ?_)).trans (keep _ _ 52 _ hx (by decide) (hne i (by omega)))
      have h := q.st
      rw [← show (x i).b = S from e, hx] at h
      simp at h
  · have hU : Upd w (w1.setCell ⟨S, 1, none⟩ v') (S :: E.b :: sl.ownBlock.toList) := by
      refine (Upd.grown (((Upd.refl w _).setCell _ _ (.inl (by simp))).alloc o) hg (fun k hk => .inl (by simp [hk]))).setCell _ _ (.inl (by simp))
    refine Kin.of hU fun y hy => ?_
    simp only [List.mem_cons, Option.mem_toList] at hy
    rcases hy with rfl | rfl | hy
    · refine ⟨hBS, .inr fun o ho => ?_⟩
      rw [q.st] at ho
      simp at ho
      exact ⟨_, 50, (0, 0), ho.symm, .inl rfl⟩
    · refine ⟨hBE, .inr fun o ho => ?_⟩
      rw [hE] at ho
      simp at ho
      exact ⟨_, 52, (0, 0), ho.symm, .inr (.inl rfl)⟩
    · obtain ⟨hb, cs, hc⟩ := own_block q.own (Option.mem_def.1 hy)
      refine ⟨hb, .inr fun o ho => ?_⟩
      rw [hc] at ho
      simp at ho
      exact ⟨_, 53, (0, 0), ho.symm, .inr (.inr rfl)⟩

set_option maxHeartbeats 400000 in
theorem qpush_walk (q : Qn B w S n x mv sl lv) (hn : n ≤ 3) (E : Ent) (a0 : Int) (hE : w.heap[E.b]? = some (.cells (E.cells a0) 52 (0, 0))) (hBS : B ≤ S) (hBE : B ≤ E.b) (hne : ∀ i, i < n → ¬ (x i).b = E.b) (hB : B ≤ w.heap.size) :
    Calls Yba.prog 53 #[.pointer (some ⟨S, 1, none⟩), .iface 53 (.pointer (some ⟨E.b, 0, none⟩))] w fun e w' => e = .returned (.tuple #[]) ∧ ∃ sl', Qn B w' S (n + 1) (ext x n E) mv sl' lv ∧ Kin B M w w' := by
  obtain ⟨len, hlen⟩ : ∃ a cap, sl = .slice a n cap := by
    obtain ⟨_, ⟨h, h0⟩ | ⟨g, cap, cur, h, _⟩⟩ := q.own
    · exact ⟨none, 0, by rw [h0]; exact h⟩
    · exact ⟨_, _, h⟩
  obtain ⟨cap, rfl⟩ := hlen
  obtain ⟨i0, hi, hz0, hz1, hz2⟩ := info_parts Yba.info53
  have c1 : w.cell? ⟨S, 1, none⟩ = some (.slice len n cap) := cell_of q.st rfl
  have f1 : w.frozen? ⟨S, 1, none⟩ = false := free_of q.st 1
  have c2 : w.cell? ⟨E.b, 8, none⟩ = some (.int .i64 a0) := cell_of hE rfl
  have hta := ta_entry (some ⟨E.b, 0, none⟩) w
  have f2 : w.frozen? ⟨E.b, 8, none⟩ = false := free_of hE 8
  have hSE : ¬ S = E.b := by
    intro e
    have h := q.st
    rw [e, hE] at h
    simp at h
  have hES : ¬ E.b = S := fun e => hSE e.symm
  have HQ := hid q
  have HE := hid hE
  clear q hE
  go_enter Yba.func53, Yba.ntmps53
  go_wp2_with (at_builtin; refine wpList_append_own _ rfl (.tmp 17) (.tmp 19) 48 rfl B 53 i0 (.pointer none) 1 8 Yba.underlying48 hi hz0 hz1 hz2 rfl (by decide) _ n (ptrs x n) rfl ?c6 ⟨w.heap.size, 0, none⟩ 1 1 [.pointer (some ⟨E.b, 0, none⟩)] rfl ?c0 ?c1 ?c2 ?c3 ?c4 ?c5 ?_)
  case c0 => rfl
  case c1 =>
    intro j u hj
    cases j with
    | zero =>
      simp at hj; subst hj
      have e : (w.setCell ⟨E.b, 8, none⟩ (.int .i64 n)).heap.size = w.heap.size := by simp [World.setCell]
      have h := heap_alloc_new (w.setCell ⟨E.b, 8, none⟩ (.int .i64 n)) (.cells #[.pointer (some ⟨E.b, 0, none⟩)] 53 (0, 0))
      rw [e] at h
      exact cell_of h rfl
    | succ j => simp at hj
  case c2 => simp [Value.oneCell']
  case c3 => unfold maxLen; omega
  case c4 => omega
  case c5 => simp; omega
  case c6 => exact (own_set HQ.out.own HE.out (by decide) 8 _).alloc _
  intro v' w1 ho hg hnn
  have HZ := hid (qpush_end (M := M) HQ.out E a0 HE.out hBS hBE hne hSE _ w1 v' ho hg)
  obtain ⟨g', cap', rfl⟩ : ∃ g' c', v' = .slice (some ⟨g', 0, none⟩) (n + 1) c' := by
    obtain ⟨_, ⟨_, h⟩ | ⟨g, c, cur, h, _⟩⟩ := ho
    · omega
    · exact ⟨g, c, h⟩
  have c3 : w1.cell? ⟨S, 1, none⟩ = some (.slice len n cap) := cell_of HZ.out.2.2 rfl
  have f3 : w1.frozen? ⟨S, 1, none⟩ = false := free_of HZ.out.2.2 1
  clear ho hg hnn
  go_wp2
  go_end0
  exact ⟨rfl, _, HZ.out.1, HZ.out.2.1⟩
end
end Go.Proofs.Ybulkjnc
