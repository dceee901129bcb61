import Derived.Test.YbulkjncPush
namespace Go.Proofs.Ybulkjnc
open Go.RowKit

theorem ext_up (x : Nat → Ent) (n : Nat) (E : Ent) (hn : n ≤ 3) (h : HeapOK x n) : UpInv (ext x n E) (n + 1) n := by
  unfold HeapOK at h
  unfold UpInv
  have : n = 0 ∨ n = 1 ∨ n = 2 ∨ n = 3 := by omega
  rcases this with rfl | rfl | rfl | rfl <;> simp [ext] at * <;> omega
theorem meth_push (a : Addr) (w : World) : Sem.run Yba.prog (method 208 60 (.pointer (some a)) "Push") w = .ok (53, .pointer (some a)) w := by kernel_rfl
theorem meth_pop (a : Addr) (w : World) : Sem.run Yba.prog (method 208 60 (.pointer (some a)) "Pop") w = .ok (52, .pointer (some a)) w := by kernel_rfl

section
variable {B M : Nat} {w w' : World} {S g n cap : Nat} {x : Nat → Ent} {mv sl : Value} {lv : Int}
set_option maxHeartbeats 400000 in
theorem hpush_walk (q : Qn B w S n x mv sl lv) (hh : HeapOK x n) (hn : n ≤ 3) (E : Ent) (a0 : Int) (hE : w.heap[E.b]? = some (.cells (E.cells a0) 52 (0, 0))) (hBS : B ≤ S) (hBE : B ≤ E.b) (hBx : ∀ i, i < n → B ≤ (x i).b) (hne : ∀ i, i < n → ¬ (x i).b = E.b) (hB : B ≤ w.heap.size) :
    Calls Yba.prog 18 #[.iface 60 (.pointer (some ⟨S, 1, none⟩)), .iface 53 (.pointer (some ⟨E.b, 0, none⟩))] w fun e w' => e = .returned (.tuple #[]) ∧ ∃ g' cap' x', Qu w' S g' (n + 1) cap' x' mv lv ∧ B ≤ g' ∧ Same (ext x n E) x' (n + 1) ∧ HeapOK x' (n + 1) ∧ Kin B M w w' := by
  have hM := meth_push ⟨S, 1, none⟩ w
  have hP := qpush_walk (M := M) q hn E a0 hE hBS hBE hne hB
  have hI := ext_up x n E hn hh
  go_enter Yba.func18, Yba.ntmps18
  go_wp2_with fail
  refine hP.mono ?_
  rintro e w1 ⟨rfl, sl', q1, hK⟩
  clear hP hM
  obtain ⟨g1, cap1, rfl, hg1, q2⟩ := q1.qu (by omega)
  have hM := meth_len S _ w1 (cell_of q2.st rfl)
  have hUp := up_walk (n + 1) n w1 q2 (by omega) (Nat.le_refl _) (by omega) hI (blks g1 (n + 1) (ext x n E)) (g_blks _ _ _) (mem_blks _ _ _)
  go_wp2_with fail
  refine (len_walk _ (n + 1) cap1 w1).mono ?_
  rintro e w2 ⟨rfl, rfl⟩
  clear hM
  go_wp2_with fail
  refine hUp.mono ?_
  rintro e w2 ⟨rfl, x2, q3, hs, hh2, hU⟩
  clear hUp
  go_wp2
  go_end0
  refine ⟨rfl, g1, cap1, x2, q3, hg1, hs.1, hh2, hK.trans (q2.kin hg1 (fun i hi => ?_) hU)⟩
  unfold ext
  by_cases e : i = n
  · rw [if_pos e]; exact hBE
  · rw [if_neg e]; exact hBx i (by omega)

set_option maxHeartbeats 400000 in
theorem qpop_walk (q : Qu w S g (n + 1) cap x mv lv) (hn : n ≤ 3) :
    Calls Yba.prog 52 #[.pointer (some ⟨S, 1, none⟩)] w fun e w' => (∃ v, e = .returned v) ∧ w' = (w.setCell ⟨g, n, none⟩ (.pointer none)).setCell ⟨S, 1, none⟩ (.slice (some ⟨g, 0, none⟩) n cap) := by
  have c1 : w.cell? ⟨S, 1, none⟩ = some (.slice (some ⟨g, 0, none⟩) (n + 1) cap) := cell_of q.st rfl
  have f1 : w.frozen? ⟨S, 1, none⟩ = false := free_of q.st 1
  have c2 := q.row_cell (i := n) (by omega)
  have f2 := q.row_free n
  have hne := q.ne_gS
  have hne2 : ¬ S = g := fun e => hne e.symm
  have hcap := q.caps.1
  have hcap2 : (n : Int) ≤ (cap : Int) := by omega
  clear q
  go_enter Yba.func52, Yba.ntmps52
  go_wp2
  go_ret
  exact ⟨⟨_, rfl⟩, rfl⟩
end
end Go.Proofs.Ybulkjnc
