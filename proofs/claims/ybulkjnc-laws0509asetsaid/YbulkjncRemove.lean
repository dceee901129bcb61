import Derived.Test.YbulkjncHPush
namespace Go.Proofs.Ybulkjnc
open Go.RowKit
section
variable {B M : Nat} {w w' : World} {S g n cap : Nat} {x : Nat → Ent} {mv sl : Value} {lv : Int}
theorem qpop_is (q : Qu w S g (n + 1) cap x mv lv) (hn : n ≤ 3) (hBS : B ≤ S) (hBg : B ≤ g) :
    Calls Yba.prog 52 #[.pointer (some ⟨S, 1, none⟩)] w fun e w' => (∃ v, e = .returned v) ∧ Qu w' S g n cap x mv lv ∧ Kin B M w w' ∧ w'.heap[(x n).b]? = some (.cells ((x n).cells n) 52 (0, 0)) := by
  refine (qpop_walk q hn).mono ?_
  rintro e w1 ⟨he, rfl⟩
  have hent : ∀ i, i < n + 1 → ((w.setCell ⟨g, n, none⟩ (.pointer none)).setCell ⟨S, 1, none⟩ (.slice (some ⟨g, 0, none⟩) n cap)).heap[(x i).b]? = some (.cells ((x i).cells i) 52 (0, 0)) := by
    intro i hi
    refine (Below.heap_setCell _ _ _ _ (fun e => q.ne_S hi e.symm)).trans ?_
    exact (Below.heap_setCell _ _ _ _ (fun e => q.ne_g hi e.symm)).trans (q.ent i hi)
  refine ⟨he, ⟨?_, ?_, ⟨by have := q.caps.1; omega, q.caps.2⟩, fun i hi => hent i (by omega)⟩, ?_, hent n (by omega)⟩
  · refine (heap_set ((Below.heap_setCell _ _ _ S (fun e => q.ne_gS e.symm)).trans q.st)).trans ?_
    simp
  · obtain ⟨cs, h, z, k⟩ := q.row
    refine ⟨cs.setIfInBounds n (.pointer none), (Below.heap_setCell _ _ _ g q.ne_gS).trans (heap_set h), by simpa using z, fun i hi => ?_⟩
    rw [Array.getElem?_setIfInBounds_ne (by omega)]
    exact k i (by omega)
  · have hU : Upd w ((w.setCell ⟨g, n, none⟩ (.pointer none)).setCell ⟨S, 1, none⟩ (.slice (some ⟨g, 0, none⟩) n cap)) [g, S] := ((Upd.refl w _).setCell _ _ (.inl (by simp))).setCell _ _ (.inl (by simp))
    refine Kin.of hU fun y hy => ?_
    simp only [List.mem_cons, List.not_mem_nil, or_false] at hy
    rcases hy with rfl | rfl
    · refine ⟨hBg, .inr fun o ho => ?_⟩
      obtain ⟨cs, h, _, _⟩ := q.row
      rw [h] at ho
      simp at ho
      exact ⟨_, 53, (0, 0), ho.symm, .inr (.inr rfl)⟩
    · refine ⟨hBS, .inr fun o ho => ?_⟩
      rw [q.st] at ho
      simp at ho
      exact ⟨_, 50, (0, 0), ho.symm, .inl rfl⟩

theorem Qu.drop_last (q : Qu w S g (n + 1) cap x mv lv) (e : Ent) : (∃ i, i < n ∧ x i = e) ↔ (∃ i, i < n + 1 ∧ x i = e) ∧ ¬ e = x n := by
  constructor
  · rintro ⟨i, hi, rfl⟩
    refine ⟨⟨i, by omega, rfl⟩, fun h => ?_⟩
    have := q.inj (i := i) (j := n) (by omega) (by omega) (by rw [h])
    omega
  · rintro ⟨⟨i, hi, rfl⟩, h⟩
    refine ⟨i, ?_, rfl⟩
    by_cases e : i = n
    · subst e; exact absurd rfl h
    · omega
theorem Qu.drop_first (q : Qu w S g (n + 1) cap x mv lv) (e : Ent) : (∃ i, i < n + 1 ∧ ¬ i = 0 ∧ x i = e) ↔ (∃ i, i < n + 1 ∧ x i = e) ∧ ¬ e = x 0 := by
  constructor
  · rintro ⟨i, hi, h0, rfl⟩
    refine ⟨⟨i, by omega, rfl⟩, fun h => ?_⟩
    have := q.inj (i := i) (j := 0) (by omega) (by omega) (by rw [h])
    omega
  · rintro ⟨⟨i, hi, rfl⟩, h⟩
    refine ⟨i, hi, ?_, rfl⟩
    rintro rfl
    exact absurd rfl h

theorem near_top (x : Nat → Ent) (m : Nat) (hm : m ≤ 3) : Near x m 0 := by
  unfold Near
  omega

set_option maxHeartbeats 400000 in
theorem hremove_walk (q : Qu w S g (n + 1) cap x mv lv) (hh : HeapOK x (n + 1)) (hn : n ≤ 3) (hBS : B ≤ S) (hBg : B ≤ g) (hBx : ∀ i, i < n + 1 → B ≤ (x i).b) :
    Calls Yba.prog 25 #[.iface 60 (.pointer (some ⟨S, 1, none⟩)), .int .i64 0] w fun e w' => (∃ v, e = .returned v) ∧ ∃ x' at', Qu w' S g n cap x' mv lv ∧ (∀ e, (∃ i, i < n ∧ x' i = e) ↔ (∃ i, i < n + 1 ∧ x i = e) ∧ ¬ e = x 0) ∧ HeapOK x' n ∧ Kin B M w w' ∧
      w'.heap[(x 0).b]? = some (.cells ((x 0).cells at') 52 (0, 0)) := by
  have hM := meth_len S _ w (cell_of q.st rfl)
  go_enter Yba.func25, Yba.ntmps25
  go_wp2_with fail
  refine (len_walk _ (n + 1) cap w).mono ?_
  rintro e w2 ⟨rfl, rfl⟩
  clear hM
  by_cases h0 : n = 0
  · subst h0
    have hM := meth_pop ⟨S, 1, none⟩ w
    have hP := qpop_is (M := M) q hn hBS hBg
    go_wp2_with fail
    refine hP.mono ?_
    rintro e w1 ⟨⟨v, rfl⟩, q1, hK, he⟩
    clear hP hM
    go_wp2
    go_ret
    exact ⟨⟨_, rfl⟩, x, _, q1, q.drop_last, by unfold HeapOK; omega, hK, he⟩
  · have hM := meth_swap S _ w (cell_of q.st rfl)
    have h0' : ¬ (n : Int) = 0 := by omega
    have hS := q.swap (i := 0) (j := n) (by omega) (by omega) (by omega) (blks g (n + 1) x) (g_blks _ _ _) (mem_blks _ _ _)
    go_wp2_with fail
    refine hS.mono ?_
    rintro e w1 ⟨rfl, q1, hU1⟩
    clear hS hM
    have hs1 : Same x (swp x 0 n) (n + 1) := Same.swp x (by omega) (by omega)
    have hx1 : swp x 0 n n = x 0 := by unfold swp; rw [if_neg h0, if_pos rfl]
    have hK1 : Kin B M w w1 := q.kin hBg hBx hU1
    have hBx1 := hs1.low hBx
    obtain ⟨y, hy⟩ : ∃ y, y = swp x 0 n := ⟨_, rfl⟩
    rw [← hy] at q1 hs1 hx1 hBx1
    clear hy
    have hD := down_walk n 0 w1 q1 (by omega) (by omega) (by omega) (near_top y n hn) (blks g (n + 1) y) (g_blks _ _ _) (mem_blks _ _ _)
    go_wp2_with fail
    refine hD.mono ?_
    rintro e w2 ⟨r, rfl, x2, q2, hs2, hU2, ht, hf⟩
    clear hD
    have hK2 : Kin B M w w2 := hK1.trans (q1.kin hBg hBx1 hU2)
    have hBx2 := hs2.1.low hBx1
    have fin : ∀ x3 : Nat → Ent, Sm x2 x3 (n + 1) n → x3 n = x 0 ∧ Same x x3 (n + 1) := fun x3 h3 =>
      ⟨by rw [h3.2 n (Nat.le_refl _), hs2.2 n (Nat.le_refl _), hx1], (hs1.trans hs2.1).trans h3.1⟩
    cases r
    · have hI := hf rfl
      clear ht hf
      have hUp := up_walk n 0 w2 q2 (by omega) (by omega) (by omega) hI (blks g (n + 1) x2) (g_blks _ _ _) (mem_blks _ _ _)
      go_wp2_with fail
      refine hUp.mono ?_
      rintro e w3 ⟨rfl, x3, q3, hs3, hh3, hU3⟩
      clear hUp
      have hK3 := hK2.trans (q2.kin hBg hBx2 hU3)
      obtain ⟨e3, s3⟩ := fin x3 hs3
      have hM := meth_pop ⟨S, 1, none⟩ w3
      have hP := qpop_is (M := M) q3 hn hBS hBg
      go_wp2_with fail
      refine hP.mono ?_
      rintro e w4 ⟨⟨v, rfl⟩, q4, hK4, he⟩
      clear hP hM
      go_wp2
      go_ret
      refine ⟨⟨_, rfl⟩, x3, _, q4, fun e => ?_, hh3, hK3.trans hK4, e3 ▸ he⟩
      rw [q3.drop_last, ← s3 e, e3]
    · have hh3 := ht rfl
      clear ht hf
      obtain ⟨e3, s3⟩ := fin x2 (Sm.refl _ _ _)
      have hM := meth_pop ⟨S, 1, none⟩ w2
      have hP := qpop_is (M := M) q2 hn hBS hBg
      go_wp2_with fail
      refine hP.mono ?_
      rintro e w4 ⟨⟨v, rfl⟩, q4, hK4, he⟩
      clear hP hM
      go_wp2
      go_ret
      refine ⟨⟨_, rfl⟩, x2, _, q4, fun e => ?_, hh3, hK2.trans hK4, e3 ▸ he⟩
      rw [q2.drop_last, ← s3 e, e3]
end
end Go.Proofs.Ybulkjnc
