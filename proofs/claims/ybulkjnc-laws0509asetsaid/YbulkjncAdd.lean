import Derived.Test.YbulkjncTime
namespace Go.Proofs.Ybulkjnc
open Go.RowKit

theorem two_boxes (w : World) (c1 c2 : Array Value) (t1 t2 : TypeId) :
    ((w.alloc (.cells c1 t1)).alloc (.cells c2 t2)).heap[w.heap.size]? = some (.cells c1 t1 (0, 0)) ∧ ((w.alloc (.cells c1 t1)).alloc (.cells c2 t2)).heap[w.heap.size + 1]? = some (.cells c2 t2 (0, 0)) ∧ Upd w ((w.alloc (.cells c1 t1)).alloc (.cells c2 t2)) [] := by
  refine ⟨?_, ?_, ((Upd.refl w []).alloc _).alloc _⟩
  · rw [Below.heap_alloc _ _ _ (by simp)]; exact heap_alloc_new w _
  · have := heap_alloc_new (w.alloc (.cells c1 t1)) (.cells c2 t2)
    simpa using this

set_option maxHeartbeats 400000 in
theorem add_pos (d Q N : Int) (w : World) (hn0 : 0 ≤ N) (hn : N < 1000000000) (hq : d.tdiv 1000000000 = Q) (hr : d.tmod 1000000000 = N) (h1 : -10000000000 ≤ Q) (h2 : Q ≤ 10000000000) :
    Calls Yba.prog 7 #[.agg #[.int .u64 0, .int .i64 0, .pointer none], .int .i64 d] w fun e w' => e = .returned (.agg #[.int .u64 N, .int .i64 Q, .pointer none]) ∧ Upd w w' [] := by
  have ho := or_zero' N hn0 hn
  have ht := and_top' N hn0 hn
  have hw := wrap32_id N (by omega) (by omega)
  go_enter Yba.func7, Yba.ntmps7
  go_wp2_with fail
  obtain ⟨b1, b2, hU⟩ := two_boxes w #[.int .u64 0, .int .i64 0, .pointer none] #[.int .u64 0, .int .i64 0, .pointer none] 30 30
  refine (nsec_walk w.heap.size 0 _ (by omega) (by omega) (cell_of b1 rfl)).mono ?_
  rintro e w1 ⟨rfl, rfl⟩
  clear b1 b2 hU
  go_wp2_with fail
  obtain ⟨b1, b2, hU⟩ := two_boxes w #[.int .u64 N, .int .i64 0, .pointer none] #[.int .u64 0, .int .i64 0, .pointer none] 30 30
  refine (addSec_walk w.heap.size N Q _ hn0 hn (by omega) (by omega) (cell_of b1 rfl) (cell_of b1 rfl) (free_of b1 1)).mono ?_
  rintro e w2 ⟨rfl, rfl⟩
  have k1 := heap_set (j := 1) (v := .int .i64 (Q)) b1
  have k2 := (Below.heap_setCell _ ⟨w.heap.size, 1, none⟩ (.int .i64 (Q)) (w.heap.size + 1) (by simp)).trans b2
  have HU : Hid (Upd w (((w.alloc (.cells #[.int .u64 N, .int .i64 0, .pointer none] 30)).alloc (.cells #[.int .u64 0, .int .i64 0, .pointer none] 30)).setCell ⟨w.heap.size, 1, none⟩ (.int .i64 (Q))) []) := hU.setCell _ _ (Or.inr (Nat.le_refl _))
  revert k1 k2 HU
  generalize (((w.alloc (.cells #[.int .u64 N, .int .i64 0, .pointer none] 30)).alloc (.cells #[.int .u64 0, .int .i64 0, .pointer none] 30)).setCell ⟨w.heap.size, 1, none⟩ (.int .i64 (Q))) = w3
  intro k1 k2 HU
  have c0 := cell_of (j := 0) k1 rfl
  have c1 := cell_of (j := 1) k1 rfl
  have c2 := cell_of (j := 2) k1 rfl
  have r0 := cell_of (j := 0) k2 rfl
  have r1 := cell_of (j := 1) k2 rfl
  have r2 := cell_of (j := 2) k2 rfl
  have f0 := free_of k2 0
  have f1 := free_of k2 1
  have f2 := free_of k2 2
  clear b1 b2 hU k1 k2
  go_wp2
  refine bodyPost_ret (v := .agg #[.int .u64 N, .int .i64 (Q), .pointer none]) (by simp [results, Yba.results7, go_sem, r0, r1, r2]) rfl ⟨rfl, ?_⟩
  exact ((HU.out.setCell _ _ (Or.inr (Nat.le_succ _))).setCell _ _ (Or.inr (Nat.le_succ _))).setCell _ _ (Or.inr (Nat.le_succ _))

set_option maxHeartbeats 400000 in
theorem add_neg (d Q R N : Int) (w : World) (hn0 : 0 ≤ N) (hn : N < 1000000000) (hR : R < 0) (hRN : R + 1000000000 = N) (hq : d.tdiv 1000000000 = Q) (hr : d.tmod 1000000000 = R) (h1 : -9000000000 - 1000000000 ≤ Q - 1) (h2 : Q ≤ 10000000000) :
    Calls Yba.prog 7 #[.agg #[.int .u64 0, .int .i64 0, .pointer none], .int .i64 d] w fun e w' => e = .returned (.agg #[.int .u64 N, .int .i64 (Q - 1), .pointer none]) ∧ Upd w w' [] := by
  have ho := or_zero' N hn0 hn
  have ht := and_top' N hn0 hn
  have hw := wrap32_id N (by omega) (by omega)
  have hw2 := wrap32_id R (by omega) (by omega)
  go_enter Yba.func7, Yba.ntmps7
  go_wp2_with fail
  obtain ⟨b1, b2, hU⟩ := two_boxes w #[.int .u64 0, .int .i64 0, .pointer none] #[.int .u64 0, .int .i64 0, .pointer none] 30 30
  refine (nsec_walk w.heap.size 0 _ (by omega) (by omega) (cell_of b1 rfl)).mono ?_
  rintro e w1 ⟨rfl, rfl⟩
  clear b1 b2 hU
  go_wp2_with fail
  obtain ⟨b1, b2, hU⟩ := two_boxes w #[.int .u64 N, .int .i64 0, .pointer none] #[.int .u64 0, .int .i64 0, .pointer none] 30 30
  refine (addSec_walk w.heap.size N (Q - 1) _ hn0 hn (by omega) (by omega) (cell_of b1 rfl) (cell_of b1 rfl) (free_of b1 1)).mono ?_
  rintro e w2 ⟨rfl, rfl⟩
  have k1 := heap_set (j := 1) (v := .int .i64 ((Q - 1))) b1
  have k2 := (Below.heap_setCell _ ⟨w.heap.size, 1, none⟩ (.int .i64 ((Q - 1))) (w.heap.size + 1) (by simp)).trans b2
  have HU : Hid (Upd w (((w.alloc (.cells #[.int .u64 N, .int .i64 0, .pointer none] 30)).alloc (.cells #[.int .u64 0, .int .i64 0, .pointer none] 30)).setCell ⟨w.heap.size, 1, none⟩ (.int .i64 ((Q - 1)))) []) := hU.setCell _ _ (Or.inr (Nat.le_refl _))
  revert k1 k2 HU
  generalize (((w.alloc (.cells #[.int .u64 N, .int .i64 0, .pointer none] 30)).alloc (.cells #[.int .u64 0, .int .i64 0, .pointer none] 30)).setCell ⟨w.heap.size, 1, none⟩ (.int .i64 ((Q - 1)))) = w3
  intro k1 k2 HU
  have c0 := cell_of (j := 0) k1 rfl
  have c1 := cell_of (j := 1) k1 rfl
  have c2 := cell_of (j := 2) k1 rfl
  have r0 := cell_of (j := 0) k2 rfl
  have r1 := cell_of (j := 1) k2 rfl
  have r2 := cell_of (j := 2) k2 rfl
  have f0 := free_of k2 0
  have f1 := free_of k2 1
  have f2 := free_of k2 2
  clear b1 b2 hU k1 k2
  go_wp2
  refine bodyPost_ret (v := .agg #[.int .u64 N, .int .i64 ((Q - 1)), .pointer none]) (by simp [results, Yba.results7, go_sem, r0, r1, r2]) rfl ⟨rfl, ?_⟩
  exact ((HU.out.setCell _ _ (Or.inr (Nat.le_succ _))).setCell _ _ (Or.inr (Nat.le_succ _))).setCell _ _ (Or.inr (Nat.le_succ _))


/-- What 'time.Time{}.Add(d)' is. -/
def tv (d : Int) : Value := .agg #[.int .u64 (d % 1000000000), .int .i64 (d / 1000000000), .pointer none]

theorem add_walk (d : Int) (w : World) (h1 : -9223372036854775808 ≤ d) (h2 : d ≤ 9223372036854775807) :
    Calls Yba.prog 7 #[.agg #[.int .u64 0, .int .i64 0, .pointer none], .int .i64 d] w fun e w' => e = .returned (tv d) ∧ Upd w w' [] := by
  have hm : 0 ≤ d % 1000000000 ∧ d % 1000000000 < 1000000000 := by omega
  have ht := Int.tdiv_eq_ediv (a := d) (b := 1000000000)
  have hmod := Int.tmod_eq_emod (a := d) (b := 1000000000)
  by_cases hs : 0 ≤ d ∨ (1000000000 : Int) ∣ d
  · rw [if_pos hs] at ht hmod
    exact add_pos d (d / 1000000000) (d % 1000000000) w hm.1 hm.2 (by omega) (by omega) (by omega) (by omega)
  · rw [if_neg hs] at ht hmod
    have hne : d % 1000000000 ≠ 0 := fun e => hs (Or.inr (Int.dvd_of_emod_eq_zero e))
    have e : d.tdiv 1000000000 = d / 1000000000 + 1 := by rw [ht]; rfl
    have e2 : d.tmod 1000000000 = d % 1000000000 - 1000000000 := by rw [hmod]; rfl
    have h := add_neg d (d / 1000000000 + 1) (d % 1000000000 - 1000000000) (d % 1000000000) w hm.1 hm.2 (by omega) (by omega) e e2 (by omega) (by omega)
    rw [show d / 1000000000 + 1 - 1 = d / 1000000000 by omega] at h
    exact h
end Go.Proofs.Ybulkjnc
