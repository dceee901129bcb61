import Derived.Test.YbulkjnqEntry
namespace Go.Proofs.Ybulkjnq
open Go.RowKit

theorem at_any (d : Int) (h1 : -9223372036854775808 ≤ d) (h2 : d ≤ 9223372036854775807) : ∃ N s : Int, 0 ≤ N ∧ N < 1000000000 ∧ ∀ W, Calls Yba.prog 6 #[.int .i64 d] W fun e w' => e = .returned (.agg #[.int .u64 N, .int .i64 s, .pointer none]) ∧ Upd W w' [] :=
  ⟨d % 1000000000, d / 1000000000, by omega, by omega, fun W => at_walk d W h1 h2⟩

set_option maxHeartbeats 400000 in
theorem seen_yes (a q n f : Int) (Na sa Nq sq Nn sn : Int) (q0 : 0 ≤ Nq) (q1 : Nq < 1000000000) (n0 : 0 ≤ Nn) (n1 : Nn < 1000000000) 
    (A : ∀ W, Calls Yba.prog 6 #[.int .i64 a] W fun e w' => e = .returned (.agg #[.int .u64 Na, .int .i64 sa, .pointer none]) ∧ Upd W w' [])
    (Q : ∀ W, Calls Yba.prog 6 #[.int .i64 q] W fun e w' => e = .returned (.agg #[.int .u64 Nq, .int .i64 sq, .pointer none]) ∧ Upd W w' [])
    (N : ∀ W, Calls Yba.prog 6 #[.int .i64 n] W fun e w' => e = .returned (.agg #[.int .u64 Nn, .int .i64 sn, .pointer none]) ∧ Upd W w' [])
    (hl : laterP Nq sq Nn sn) (w : World) :
    Calls Yba.prog 4 #[.bool true, .int .i64 a, .int .i64 q, .int .i64 n, .int .i64 f] w fun e w' => e = .returned (.bool true) ∧ Below w.heap.size w w' := by
  go_enter Yba.func4, Yba.ntmps4
  go_wp2_with fail
  refine (A _).mono ?_
  rintro e w1 ⟨rfl, hU1⟩
  go_wp2_with fail
  refine (Q _).mono ?_
  rintro e w2 ⟨rfl, hU2⟩
  have HU2 : Hid (Upd w w2 []) := hU1.trans hU2
  clear hU1 hU2
  go_wp2_with (first | (refine wpList_build_is rfl 42 #[(1, .tmp 16), (2, .tmp 18), (3, .tmp 19)] rfl (entryCells zeroContact (.int .u64 Na) (.int .i64 sa) (.pointer none) (.int .u64 Nq) (.int .i64 sq) (.pointer none) (.int .i64 f)) (by kernel_rfl) ?_) | (refine wpList_store_whole rfl 42 (.tmp 11) (.tmp 20) rfl w2.heap.size (entryCells zeroContact (.int .u64 Na) (.int .i64 sa) (.pointer none) (.int .u64 Nq) (.int .i64 sq) (.pointer none) (.int .i64 f)) rfl rfl 42 _ (heap_alloc_new w2 _) (by kernel_rfl) (by kernel_rfl) (by kernel_rfl) ?_; intro w3 hE hU3 hs3))
  have HU3 : Hid (Upd w w3 []) := (HU2.out.alloc _).trans' hU3 (by have := HU2.out.size; simpa using this)
  have HE := hid hE
  have hw2 : w.heap.size ≤ w2.heap.size := HU2.out.size
  clear hE hU3 hs3 HU2
  refine (N _).mono ?_
  rintro e w4 ⟨rfl, hU4⟩
  have HU4 : Hid (Upd w w4 []) := HU3.out.trans hU4
  have HE4 := hid (hU4.heap HE.out (by simp))
  clear hU4 HE HU3
  go_wp2_with fail
  refine (A _).mono ?_
  rintro e w5 ⟨rfl, hU5⟩
  have HU5 : Hid (Upd w w5 []) := (HU4.out.alloc _).trans hU5
  have hl4 := lt_of_heap HE4.out
  have HE5 := hid (hU5.heap ((Below.heap_alloc _ _ _ hl4).trans HE4.out) (by simp))
  have HT5 := hid (hU5.heap (heap_alloc_new w4 _) (by simp))
  have s5 : w4.heap.size < w5.heap.size := lt_of_heap HT5.out
  clear hU5 HE4 HU4
  go_wp2_with fail
  refine (Q _).mono ?_
  rintro e w6 ⟨rfl, hU6⟩
  have HU6 : Hid (Upd w w6 []) := (HU5.out.alloc _).trans hU6
  have HE6 := hid (hU6.heap ((Below.heap_alloc _ _ _ (by omega)).trans HE5.out) (by simp))
  have hT6 := hU6.heap ((Below.heap_alloc _ _ _ s5).trans HT5.out) (by simp)
  have hO6 := hU6.heap (heap_alloc_new w5 _) (by simp)
  have s6 : w5.heap.size < w6.heap.size := lt_of_heap hO6
  have t0 := cell_of (j := 0) hT6 rfl
  have t1 := cell_of (j := 1) hT6 rfl
  have t2 := cell_of (j := 2) hT6 rfl
  have o0 := cell_of (j := 0) hO6 rfl
  have o1 := cell_of (j := 1) hO6 rfl
  have o2 := cell_of (j := 2) hO6 rfl
  have g0 := free_of hO6 0
  have g1 := free_of hO6 1
  have g2 := free_of hO6 2
  have HT6 := hid hT6
  have HO6 := hid hO6
  have hne : ¬ w5.heap.size = w4.heap.size := by omega
  have hw5 : w.heap.size ≤ w5.heap.size := HU5.out.size
  clear hU6 HE5 HU5 HT5 hT6 hO6
  go_wp2_with fail
  have hO7 := heap_set (j := 2) (v := .pointer none) (heap_set (j := 1) (v := .int .i64 sq) (heap_set (j := 0) (v := .int .u64 Nq) HO6.out))
  have hT7 : (((w6.setCell ⟨w5.heap.size, 0, none⟩ (.int .u64 Nq)).setCell ⟨w5.heap.size, 1, none⟩ (.int .i64 sq)).setCell ⟨w5.heap.size, 2, none⟩ (.pointer none)).heap[w4.heap.size]? = _ := (Below.heap_setCell _ _ _ _ (by simp; omega)).trans ((Below.heap_setCell _ _ _ _ (by simp; omega)).trans ((Below.heap_setCell _ _ _ _ (by simp; omega)).trans HT6.out))
  have hE7 : (((w6.setCell ⟨w5.heap.size, 0, none⟩ (.int .u64 Nq)).setCell ⟨w5.heap.size, 1, none⟩ (.int .i64 sq)).setCell ⟨w5.heap.size, 2, none⟩ (.pointer none)).heap[w2.heap.size]? = _ := (Below.heap_setCell _ _ _ _ (by simp; omega)).trans ((Below.heap_setCell _ _ _ _ (by simp; omega)).trans ((Below.heap_setCell _ _ _ _ (by simp; omega)).trans HE6.out))
  have HU7 : Hid (Upd w (((w6.setCell ⟨w5.heap.size, 0, none⟩ (.int .u64 Nq)).setCell ⟨w5.heap.size, 1, none⟩ (.int .i64 sq)).setCell ⟨w5.heap.size, 2, none⟩ (.pointer none)) []) := ((HU6.out.setCell _ _ (Or.inr hw5)).setCell _ _ (Or.inr hw5)).setCell _ _ (Or.inr hw5)
  refine (hear_yes w2.heap.size zeroContact rfl _ _ _ _ _ _ _ Nn sn _ hE7).mono ?_
  rintro e w7 ⟨rfl, hE8, hU8⟩
  have hT8 := hU8.heap hT7 (by simp; omega)
  have hO8 := hU8.heap hO7 (by simp; omega)
  have HU8 : Hid (Upd w w7 []) := HU7.out.trans' hU8 (by simpa using hw2)
  clear t0 t1 t2 o0 o1 o2 g0 g1 g2 hO7 hT7 hE7 HU7 hU8 HO6 HT6 HE6 HU6
  have t0 := cell_of (j := 0) hT8 rfl
  have t1 := cell_of (j := 1) hT8 rfl
  have t2 := cell_of (j := 2) hT8 rfl
  have o0 := cell_of (j := 0) hO8 rfl
  have o1 := cell_of (j := 1) hO8 rfl
  have o2 := cell_of (j := 2) hO8 rfl
  have l1 := lt_of_heap hT8
  have l2 := lt_of_heap hO8
  have l3 := lt_of_heap hE8
  have HT8 := hid hT8
  have HO8 := hid hO8
  have HE8 := hid hE8
  clear hT8 hO8 hE8
  go_wp2_with fail
  refine (after_lyes Nq sq Nn sn _ q0 q1 n0 n1 hl).mono ?_
  rintro e w8 ⟨rfl, hU9⟩
  have HU9 : Hid (Upd w w8 []) := (HU8.out.alloc _).trans hU9
  have hT9 := hU9.heap ((Below.heap_alloc _ _ _ l1).trans HT8.out) (by simp)
  have hO9 := hU9.heap ((Below.heap_alloc _ _ _ l2).trans HO8.out) (by simp)
  have hE9 := hU9.heap ((Below.heap_alloc _ _ _ l3).trans HE8.out) (by simp)
  have hW9 := hU9.heap (heap_alloc_new w7 _) (by simp)
  clear t0 t1 t2 o0 o1 o2
  have o0 := cell_of (j := 0) hO9 rfl
  have o1 := cell_of (j := 1) hO9 rfl
  have o2 := cell_of (j := 2) hO9 rfl
  have v0 := cell_of (j := 0) hW9 rfl
  have v1 := cell_of (j := 1) hW9 rfl
  have v2 := cell_of (j := 2) hW9 rfl
  have g0 := free_of hW9 0
  have g1 := free_of hW9 1
  have g2 := free_of hW9 2
  have HW9 := hid hW9
  have HE9 := hid hE9
  clear hU9 hT9 hO9 hE9 hW9 HT8 HO8 HE8
  have hne2 : ¬ w7.heap.size = w5.heap.size := by omega
  go_wp2
  have hw7 : w.heap.size ≤ w7.heap.size := HU8.out.size
  have k1 := heap_set (j := 2) (v := .pointer none) (heap_set (j := 1) (v := .int .i64 sq) (heap_set (j := 0) (v := .int .u64 Nq) HW9.out))
  have k2 : (((w8.setCell ⟨w7.heap.size, 0, none⟩ (.int .u64 Nq)).setCell ⟨w7.heap.size, 1, none⟩ (.int .i64 sq)).setCell ⟨w7.heap.size, 2, none⟩ (.pointer none)).heap[w2.heap.size]? = _ := (Below.heap_setCell _ _ _ _ (by simp; omega)).trans ((Below.heap_setCell _ _ _ _ (by simp; omega)).trans ((Below.heap_setCell _ _ _ _ (by simp; omega)).trans HE9.out))
  have k3 : Hid (Upd w (((w8.setCell ⟨w7.heap.size, 0, none⟩ (.int .u64 Nq)).setCell ⟨w7.heap.size, 1, none⟩ (.int .i64 sq)).setCell ⟨w7.heap.size, 2, none⟩ (.pointer none)) []) := ((HU9.out.setCell _ _ (Or.inr hw7)).setCell _ _ (Or.inr hw7)).setCell _ _ (Or.inr hw7)
  clear o0 o1 o2 v0 v1 v2 g0 g1 g2 HW9 HE9 HU9
  revert k1 k2 k3
  generalize (((w8.setCell ⟨w7.heap.size, 0, none⟩ (.int .u64 Nq)).setCell ⟨w7.heap.size, 1, none⟩ (.int .i64 sq)).setCell ⟨w7.heap.size, 2, none⟩ (.pointer none)) = w9
  intro k1 k2 k3
  have y0 := cell_of (j := 0) k1 rfl
  have y1 := cell_of (j := 1) k1 rfl
  have y2 := cell_of (j := 2) k1 rfl
  have K1 := hid k1
  have K2 := hid k2
  clear k1 k2
  go_region_with (first | (go_at_call 10; refine (lastSeen_q w2.heap.size zeroContact rfl Nn sn Nq sq (.int .i64 0) _ n0 n1 q0 q1 hl (by exact K2.out)).mono ?_; rintro e w10 ⟨rfl, hU10⟩; have k4 := hU10.heap (show w9.drew.heap[w7.heap.size]? = _ from K1.out) (by simp); have x0 := cell_of (j := 0) k4 rfl; have x1 := cell_of (j := 1) k4 rfl; have x2 := cell_of (j := 2) k4 rfl; clear k4) | (go_at_call 8; refine (equal_same Nq sq _ q0 q1).mono ?_; rintro e w11 ⟨rfl, hU11⟩))
  all_goals
    go_wp2
    go_ret
    exact ⟨rfl, (((k3.out.drew).trans' hU10 (by simp)).trans' hU11 (by simp)).below (Nat.le_refl _) (by simp)⟩

set_option maxHeartbeats 400000 in
theorem seen_yes_no (a q n f : Int) (Na sa Nq sq Nn sn : Int) (q0 : 0 ≤ Nq) (q1 : Nq < 1000000000) (n0 : 0 ≤ Nn) (n1 : Nn < 1000000000) 
    (A : ∀ W, Calls Yba.prog 6 #[.int .i64 a] W fun e w' => e = .returned (.agg #[.int .u64 Na, .int .i64 sa, .pointer none]) ∧ Upd W w' [])
    (Q : ∀ W, Calls Yba.prog 6 #[.int .i64 q] W fun e w' => e = .returned (.agg #[.int .u64 Nq, .int .i64 sq, .pointer none]) ∧ Upd W w' [])
    (N : ∀ W, Calls Yba.prog 6 #[.int .i64 n] W fun e w' => e = .returned (.agg #[.int .u64 Nn, .int .i64 sn, .pointer none]) ∧ Upd W w' [])
    (hl : ¬ laterP Nq sq Nn sn) (w : World) :
    Calls Yba.prog 4 #[.bool true, .int .i64 a, .int .i64 q, .int .i64 n, .int .i64 f] w fun e w' => e = .returned (.bool true) ∧ Below w.heap.size w w' := by
  go_enter Yba.func4, Yba.ntmps4
  go_wp2_with fail
  refine (A _).mono ?_
  rintro e w1 ⟨rfl, hU1⟩
  go_wp2_with fail
  refine (Q _).mono ?_
  rintro e w2 ⟨rfl, hU2⟩
  have HU2 : Hid (Upd w w2 []) := hU1.trans hU2
  clear hU1 hU2
  go_wp2_with (first | (refine wpList_build_is rfl 42 #[(1, .tmp 16), (2, .tmp 18), (3, .tmp 19)] rfl (entryCells zeroContact (.int .u64 Na) (.int .i64 sa) (.pointer none) (.int .u64 Nq) (.int .i64 sq) (.pointer none) (.int .i64 f)) (by kernel_rfl) ?_) | (refine wpList_store_whole rfl 42 (.tmp 11) (.tmp 20) rfl w2.heap.size (entryCells zeroContact (.int .u64 Na) (.int .i64 sa) (.pointer none) (.int .u64 Nq) (.int .i64 sq) (.pointer none) (.int .i64 f)) rfl rfl 42 _ (heap_alloc_new w2 _) (by kernel_rfl) (by kernel_rfl) (by kernel_rfl) ?_; intro w3 hE hU3 hs3))
  have HU3 : Hid (Upd w w3 []) := (HU2.out.alloc _).trans' hU3 (by have := HU2.out.size; simpa using this)
  have HE := hid hE
  have hw2 : w.heap.size ≤ w2.heap.size := HU2.out.size
  clear hE hU3 hs3 HU2
  refine (N _).mono ?_
  rintro e w4 ⟨rfl, hU4⟩
  have HU4 : Hid (Upd w w4 []) := HU3.out.trans hU4
  have HE4 := hid (hU4.heap HE.out (by simp))
  clear hU4 HE HU3
  go_wp2_with fail
  refine (A _).mono ?_
  rintro e w5 ⟨rfl, hU5⟩
  have HU5 : Hid (Upd w w5 []) := (HU4.out.alloc _).trans hU5
  have hl4 := lt_of_heap HE4.out
  have HE5 := hid (hU5.heap ((Below.heap_alloc _ _ _ hl4).trans HE4.out) (by simp))
  have HT5 := hid (hU5.heap (heap_alloc_new w4 _) (by simp))
  have s5 : w4.heap.size < w5.heap.size := lt_of_heap HT5.out
  clear hU5 HE4 HU4
  go_wp2_with fail
  refine (Q _).mono ?_
  rintro e w6 ⟨rfl, hU6⟩
  have HU6 : Hid (Upd w w6 []) := (HU5.out.alloc _).trans hU6
  have HE6 := hid (hU6.heap ((Below.heap_alloc _ _ _ (by omega)).trans HE5.out) (by simp))
  have hT6 := hU6.heap ((Below.heap_alloc _ _ _ s5).trans HT5.out) (by simp)
  have hO6 := hU6.heap (heap_alloc_new w5 _) (by simp)
  have s6 : w5.heap.size < w6.heap.size := lt_of_heap hO6
  have t0 := cell_of (j := 0) hT6 rfl
  have t1 := cell_of (j := 1) hT6 rfl
  have t2 := cell_of (j := 2) hT6 rfl
  have o0 := cell_of (j := 0) hO6 rfl
  have o1 := cell_of (j := 1) hO6 rfl
  have o2 := cell_of (j := 2) hO6 rfl
  have g0 := free_of hO6 0
  have g1 := free_of hO6 1
  have g2 := free_of hO6 2
  have HT6 := hid hT6
  have HO6 := hid hO6
  have hne : ¬ w5.heap.size = w4.heap.size := by omega
  have hw5 : w.heap.size ≤ w5.heap.size := HU5.out.size
  clear hU6 HE5 HU5 HT5 hT6 hO6
  go_wp2_with fail
  have hO7 := heap_set (j := 2) (v := .pointer none) (heap_set (j := 1) (v := .int .i64 sq) (heap_set (j := 0) (v := .int .u64 Nq) HO6.out))
  have hT7 : (((w6.setCell ⟨w5.heap.size, 0, none⟩ (.int .u64 Nq)).setCell ⟨w5.heap.size, 1, none⟩ (.int .i64 sq)).setCell ⟨w5.heap.size, 2, none⟩ (.pointer none)).heap[w4.heap.size]? = _ := (Below.heap_setCell _ _ _ _ (by simp; omega)).trans ((Below.heap_setCell _ _ _ _ (by simp; omega)).trans ((Below.heap_setCell _ _ _ _ (by simp; omega)).trans HT6.out))
  have hE7 : (((w6.setCell ⟨w5.heap.size, 0, none⟩ (.int .u64 Nq)).setCell ⟨w5.heap.size, 1, none⟩ (.int .i64 sq)).setCell ⟨w5.heap.size, 2, none⟩ (.pointer none)).heap[w2.heap.size]? = _ := (Below.heap_setCell _ _ _ _ (by simp; omega)).trans ((Below.heap_setCell _ _ _ _ (by simp; omega)).trans ((Below.heap_setCell _ _ _ _ (by simp; omega)).trans HE6.out))
  have HU7 : Hid (Upd w (((w6.setCell ⟨w5.heap.size, 0, none⟩ (.int .u64 Nq)).setCell ⟨w5.heap.size, 1, none⟩ (.int .i64 sq)).setCell ⟨w5.heap.size, 2, none⟩ (.pointer none)) []) := ((HU6.out.setCell _ _ (Or.inr hw5)).setCell _ _ (Or.inr hw5)).setCell _ _ (Or.inr hw5)
  refine (hear_yes w2.heap.size zeroContact rfl _ _ _ _ _ _ _ Nn sn _ hE7).mono ?_
  rintro e w7 ⟨rfl, hE8, hU8⟩
  have hT8 := hU8.heap hT7 (by simp; omega)
  have hO8 := hU8.heap hO7 (by simp; omega)
  have HU8 : Hid (Upd w w7 []) := HU7.out.trans' hU8 (by simpa using hw2)
  clear t0 t1 t2 o0 o1 o2 g0 g1 g2 hO7 hT7 hE7 HU7 hU8 HO6 HT6 HE6 HU6
  have t0 := cell_of (j := 0) hT8 rfl
  have t1 := cell_of (j := 1) hT8 rfl
  have t2 := cell_of (j := 2) hT8 rfl
  have o0 := cell_of (j := 0) hO8 rfl
  have o1 := cell_of (j := 1) hO8 rfl
  have o2 := cell_of (j := 2) hO8 rfl
  have l1 := lt_of_heap hT8
  have l2 := lt_of_heap hO8
  have l3 := lt_of_heap hE8
  have HT8 := hid hT8
  have HO8 := hid hO8
  have HE8 := hid hE8
  clear hT8 hO8 hE8
  go_wp2_with fail
  refine (after_lno Nq sq Nn sn _ q0 q1 n0 n1 hl).mono ?_
  rintro e w8 ⟨rfl, hU9⟩
  have k3 : Hid (Upd w w8 []) := (HU8.out.alloc _).trans hU9
  have k2 := hU9.heap ((Below.heap_alloc _ _ _ l3).trans HE8.out) (by simp)
  have k1 := hU9.heap (heap_alloc_new w7 _) (by simp)
  clear t0 t1 t2 o0 o1 o2 hU9 HT8 HO8 HE8
  have y0 := cell_of (j := 0) k1 rfl
  have y1 := cell_of (j := 1) k1 rfl
  have y2 := cell_of (j := 2) k1 rfl
  have K1 := hid k1
  have K2 := hid k2
  clear k1 k2
  go_wp2
  go_region_with (first | (go_at_call 10; refine (lastSeen_a w2.heap.size zeroContact rfl Nn sn Nq sq (.int .i64 0) _ n0 n1 q0 q1 hl (by exact K2.out)).mono ?_; rintro e w10 ⟨rfl, hU10⟩; have k4 := hU10.heap (show w8.drew.heap[w7.heap.size]? = _ from K1.out) (by simp); have x0 := cell_of (j := 0) k4 rfl; have x1 := cell_of (j := 1) k4 rfl; have x2 := cell_of (j := 2) k4 rfl; clear k4) | (go_at_call 8; refine (equal_same Nn sn _ n0 n1).mono ?_; rintro e w11 ⟨rfl, hU11⟩))
  all_goals
    go_wp2
    go_ret
    exact ⟨rfl, (((k3.out.drew).trans' hU10 (by simp)).trans' hU11 (by simp)).below (Nat.le_refl _) (by simp)⟩

set_option maxHeartbeats 400000 in
theorem seen_no_n (a q n f : Int) (Na sa Nq sq Nn sn : Int) (a0 : 0 ≤ Na) (a1 : Na < 1000000000) (n0 : 0 ≤ Nn) (n1 : Nn < 1000000000) 
    (A : ∀ W, Calls Yba.prog 6 #[.int .i64 a] W fun e w' => e = .returned (.agg #[.int .u64 Na, .int .i64 sa, .pointer none]) ∧ Upd W w' [])
    (Q : ∀ W, Calls Yba.prog 6 #[.int .i64 q] W fun e w' => e = .returned (.agg #[.int .u64 Nq, .int .i64 sq, .pointer none]) ∧ Upd W w' [])
    (N : ∀ W, Calls Yba.prog 6 #[.int .i64 n] W fun e w' => e = .returned (.agg #[.int .u64 Nn, .int .i64 sn, .pointer none]) ∧ Upd W w' [])
    (hl : ¬ laterP Na sa Nn sn) (hl2 : laterP Nn sn Na sa) (w : World) :
    Calls Yba.prog 4 #[.bool false, .int .i64 a, .int .i64 q, .int .i64 n, .int .i64 f] w fun e w' => e = .returned (.bool true) ∧ Below w.heap.size w w' := by
  go_enter Yba.func4, Yba.ntmps4
  go_wp2_with fail
  refine (A _).mono ?_
  rintro e w1 ⟨rfl, hU1⟩
  go_wp2_with fail
  refine (Q _).mono ?_
  rintro e w2 ⟨rfl, hU2⟩
  have HU2 : Hid (Upd w w2 []) := hU1.trans hU2
  clear hU1 hU2
  go_wp2_with (first | (refine wpList_build_is rfl 42 #[(1, .tmp 16), (2, .tmp 18), (3, .tmp 19)] rfl (entryCells zeroContact (.int .u64 Na) (.int .i64 sa) (.pointer none) (.int .u64 Nq) (.int .i64 sq) (.pointer none) (.int .i64 f)) (by kernel_rfl) ?_) | (refine wpList_store_whole rfl 42 (.tmp 11) (.tmp 20) rfl w2.heap.size (entryCells zeroContact (.int .u64 Na) (.int .i64 sa) (.pointer none) (.int .u64 Nq) (.int .i64 sq) (.pointer none) (.int .i64 f)) rfl rfl 42 _ (heap_alloc_new w2 _) (by kernel_rfl) (by kernel_rfl) (by kernel_rfl) ?_; intro w3 hE hU3 hs3))
  have HU3 : Hid (Upd w w3 []) := (HU2.out.alloc _).trans' hU3 (by have := HU2.out.size; simpa using this)
  have HE := hid hE
  have hw2 : w.heap.size ≤ w2.heap.size := HU2.out.size
  clear hE hU3 hs3 HU2
  refine (N _).mono ?_
  rintro e w4 ⟨rfl, hU4⟩
  have HU4 : Hid (Upd w w4 []) := HU3.out.trans hU4
  have HE4 := hid (hU4.heap HE.out (by simp))
  clear hU4 HE HU3
  go_wp2_with fail
  refine (A _).mono ?_
  rintro e w5 ⟨rfl, hU5⟩
  have HU5 : Hid (Upd w w5 []) := (HU4.out.alloc _).trans hU5
  have hl4 := lt_of_heap HE4.out
  have HE5 := hid (hU5.heap ((Below.heap_alloc _ _ _ hl4).trans HE4.out) (by simp))
  have HT5 := hid (hU5.heap (heap_alloc_new w4 _) (by simp))
  have s5 : w4.heap.size < w5.heap.size := lt_of_heap HT5.out
  have hw5 : w.heap.size ≤ w5.heap.size := HU5.out.size
  have t0 := cell_of (j := 0) HT5.out rfl
  have t1 := cell_of (j := 1) HT5.out rfl
  have t2 := cell_of (j := 2) HT5.out rfl
  clear hU5 HE4 HU4
  go_wp2_with fail
  have hO7 := heap_alloc_new w5 (.cells #[.int .u64 Na, .int .i64 sa, .pointer none] 39)
  have hT7 := (Below.heap_alloc w5 (.cells #[.int .u64 Na, .int .i64 sa, .pointer none] 39) _ s5).trans HT5.out
  have hE7 := (Below.heap_alloc w5 (.cells #[.int .u64 Na, .int .i64 sa, .pointer none] 39) w2.heap.size (by omega)).trans HE5.out
  have HU7 : Hid (Upd w (w5.alloc (.cells #[.int .u64 Na, .int .i64 sa, .pointer none] 39)) []) := HU5.out.alloc _
  refine (hear_no w2.heap.size zeroContact rfl _ _ _ _ _ _ _ Nn sn _ hE7).mono ?_
  rintro e w7 ⟨rfl, hE8, hU8⟩
  have hT8 := hU8.heap hT7 (by simp; omega)
  have hO8 := hU8.heap hO7 (by simp; omega)
  have HU8 : Hid (Upd w w7 []) := HU7.out.trans' hU8 (by simpa using hw2)
  clear t0 t1 t2 hO7 hT7 hE7 HU7 hU8 HE5 HT5
  have t0 := cell_of (j := 0) hT8 rfl
  have t1 := cell_of (j := 1) hT8 rfl
  have t2 := cell_of (j := 2) hT8 rfl
  have o0 := cell_of (j := 0) hO8 rfl
  have o1 := cell_of (j := 1) hO8 rfl
  have o2 := cell_of (j := 2) hO8 rfl
  have l1 := lt_of_heap hT8
  have l2 := lt_of_heap hO8
  have l3 := lt_of_heap hE8
  have HT8 := hid hT8
  have HO8 := hid hO8
  have HE8 := hid hE8
  clear hT8 hO8 hE8
  go_wp2_with fail
  refine (after_lno Na sa Nn sn _ a0 a1 n0 n1 hl).mono ?_
  rintro e w8 ⟨rfl, hU9⟩
  have k3 : Hid (Upd w w8 []) := (HU8.out.alloc _).trans hU9
  have k2 := hU9.heap ((Below.heap_alloc _ _ _ l3).trans HE8.out) (by simp)
  have k1 := hU9.heap (heap_alloc_new w7 _) (by simp)
  clear t0 t1 t2 o0 o1 o2 hU9 HT8 HO8 HE8
  have y0 := cell_of (j := 0) k1 rfl
  have y1 := cell_of (j := 1) k1 rfl
  have y2 := cell_of (j := 2) k1 rfl
  have K1 := hid k1
  have K2 := hid k2
  clear k1 k2
  go_wp2
  go_region_with (first | (go_at_call 10; refine (lastSeen_q w2.heap.size zeroContact rfl Na sa Nn sn (.int .i64 f) _ a0 a1 n0 n1 hl2 (by exact K2.out)).mono ?_; rintro e w10 ⟨rfl, hU10⟩; have k4 := hU10.heap (show w8.drew.heap[w7.heap.size]? = _ from K1.out) (by simp); have x0 := cell_of (j := 0) k4 rfl; have x1 := cell_of (j := 1) k4 rfl; have x2 := cell_of (j := 2) k4 rfl; clear k4) | (go_at_call 8; refine (equal_same Nn sn _ n0 n1).mono ?_; rintro e w11 ⟨rfl, hU11⟩))
  all_goals
    go_wp2
    go_ret
    exact ⟨rfl, (((k3.out.drew).trans' hU10 (by simp)).trans' hU11 (by simp)).below (Nat.le_refl _) (by simp)⟩

set_option maxHeartbeats 400000 in
theorem seen_no_e (a q n f : Int) (Na sa Nq sq : Int) (a0 : 0 ≤ Na) (a1 : Na < 1000000000) 
    (A : ∀ W, Calls Yba.prog 6 #[.int .i64 a] W fun e w' => e = .returned (.agg #[.int .u64 Na, .int .i64 sa, .pointer none]) ∧ Upd W w' [])
    (Q : ∀ W, Calls Yba.prog 6 #[.int .i64 q] W fun e w' => e = .returned (.agg #[.int .u64 Nq, .int .i64 sq, .pointer none]) ∧ Upd W w' [])
    (N : ∀ W, Calls Yba.prog 6 #[.int .i64 n] W fun e w' => e = .returned (.agg #[.int .u64 Na, .int .i64 sa, .pointer none]) ∧ Upd W w' [])
    (hl : ¬ laterP Na sa Na sa) (w : World) :
    Calls Yba.prog 4 #[.bool false, .int .i64 a, .int .i64 q, .int .i64 n, .int .i64 f] w fun e w' => e = .returned (.bool true) ∧ Below w.heap.size w w' := by
  go_enter Yba.func4, Yba.ntmps4
  go_wp2_with fail
  refine (A _).mono ?_
  rintro e w1 ⟨rfl, hU1⟩
  go_wp2_with fail
  refine (Q _).mono ?_
  rintro e w2 ⟨rfl, hU2⟩
  have HU2 : Hid (Upd w w2 []) := hU1.trans hU2
  clear hU1 hU2
  go_wp2_with (first | (refine wpList_build_is rfl 42 #[(1, .tmp 16), (2, .tmp 18), (3, .tmp 19)] rfl (entryCells zeroContact (.int .u64 Na) (.int .i64 sa) (.pointer none) (.int .u64 Nq) (.int .i64 sq) (.pointer none) (.int .i64 f)) (by kernel_rfl) ?_) | (refine wpList_store_whole rfl 42 (.tmp 11) (.tmp 20) rfl w2.heap.size (entryCells zeroContact (.int .u64 Na) (.int .i64 sa) (.pointer none) (.int .u64 Nq) (.int .i64 sq) (.pointer none) (.int .i64 f)) rfl rfl 42 _ (heap_alloc_new w2 _) (by kernel_rfl) (by kernel_rfl) (by kernel_rfl) ?_; intro w3 hE hU3 hs3))
  have HU3 : Hid (Upd w w3 []) := (HU2.out.alloc _).trans' hU3 (by have := HU2.out.size; simpa using this)
  have HE := hid hE
  have hw2 : w.heap.size ≤ w2.heap.size := HU2.out.size
  clear hE hU3 hs3 HU2
  refine (N _).mono ?_
  rintro e w4 ⟨rfl, hU4⟩
  have HU4 : Hid (Upd w w4 []) := HU3.out.trans hU4
  have HE4 := hid (hU4.heap HE.out (by simp))
  clear hU4 HE HU3
  go_wp2_with fail
  refine (A _).mono ?_
  rintro e w5 ⟨rfl, hU5⟩
  have HU5 : Hid (Upd w w5 []) := (HU4.out.alloc _).trans hU5
  have hl4 := lt_of_heap HE4.out
  have HE5 := hid (hU5.heap ((Below.heap_alloc _ _ _ hl4).trans HE4.out) (by simp))
  have HT5 := hid (hU5.heap (heap_alloc_new w4 _) (by simp))
  have s5 : w4.heap.size < w5.heap.size := lt_of_heap HT5.out
  have hw5 : w.heap.size ≤ w5.heap.size := HU5.out.size
  have t0 := cell_of (j := 0) HT5.out rfl
  have t1 := cell_of (j := 1) HT5.out rfl
  have t2 := cell_of (j := 2) HT5.out rfl
  clear hU5 HE4 HU4
  go_wp2_with fail
  have hO7 := heap_alloc_new w5 (.cells #[.int .u64 Na, .int .i64 sa, .pointer none] 39)
  have hT7 := (Below.heap_alloc w5 (.cells #[.int .u64 Na, .int .i64 sa, .pointer none] 39) _ s5).trans HT5.out
  have hE7 := (Below.heap_alloc w5 (.cells #[.int .u64 Na, .int .i64 sa, .pointer none] 39) w2.heap.size (by omega)).trans HE5.out
  have HU7 : Hid (Upd w (w5.alloc (.cells #[.int .u64 Na, .int .i64 sa, .pointer none] 39)) []) := HU5.out.alloc _
  refine (hear_no w2.heap.size zeroContact rfl _ _ _ _ _ _ _ Na sa _ hE7).mono ?_
  rintro e w7 ⟨rfl, hE8, hU8⟩
  have hT8 := hU8.heap hT7 (by simp; omega)
  have hO8 := hU8.heap hO7 (by simp; omega)
  have HU8 : Hid (Upd w w7 []) := HU7.out.trans' hU8 (by simpa using hw2)
  clear t0 t1 t2 hO7 hT7 hE7 HU7 hU8 HE5 HT5
  have t0 := cell_of (j := 0) hT8 rfl
  have t1 := cell_of (j := 1) hT8 rfl
  have t2 := cell_of (j := 2) hT8 rfl
  have o0 := cell_of (j := 0) hO8 rfl
  have o1 := cell_of (j := 1) hO8 rfl
  have o2 := cell_of (j := 2) hO8 rfl
  have l1 := lt_of_heap hT8
  have l2 := lt_of_heap hO8
  have l3 := lt_of_heap hE8
  have HT8 := hid hT8
  have HO8 := hid hO8
  have HE8 := hid hE8
  clear hT8 hO8 hE8
  go_wp2_with fail
  refine (after_lno Na sa Na sa _ a0 a1 a0 a1 hl).mono ?_
  rintro e w8 ⟨rfl, hU9⟩
  have k3 : Hid (Upd w w8 []) := (HU8.out.alloc _).trans hU9
  have k2 := hU9.heap ((Below.heap_alloc _ _ _ l3).trans HE8.out) (by simp)
  have k1 := hU9.heap (heap_alloc_new w7 _) (by simp)
  clear t0 t1 t2 o0 o1 o2 hU9 HT8 HO8 HE8
  have y0 := cell_of (j := 0) k1 rfl
  have y1 := cell_of (j := 1) k1 rfl
  have y2 := cell_of (j := 2) k1 rfl
  have K1 := hid k1
  have K2 := hid k2
  clear k1 k2
  go_wp2
  go_region_with (first | (go_at_call 10; refine (lastSeen_a w2.heap.size zeroContact rfl Na sa Na sa (.int .i64 f) _ a0 a1 a0 a1 hl (by exact K2.out)).mono ?_; rintro e w10 ⟨rfl, hU10⟩; have k4 := hU10.heap (show w8.drew.heap[w7.heap.size]? = _ from K1.out) (by simp); have x0 := cell_of (j := 0) k4 rfl; have x1 := cell_of (j := 1) k4 rfl; have x2 := cell_of (j := 2) k4 rfl; clear k4) | (go_at_call 8; refine (equal_same Na sa _ a0 a1).mono ?_; rintro e w11 ⟨rfl, hU11⟩))
  all_goals
    go_wp2
    go_ret
    exact ⟨rfl, (((k3.out.drew).trans' hU10 (by simp)).trans' hU11 (by simp)).below (Nat.le_refl _) (by simp)⟩

set_option maxHeartbeats 400000 in
theorem seen_no_a (a q n f : Int) (Na sa Nq sq Nn sn : Int) (a0 : 0 ≤ Na) (a1 : Na < 1000000000) (n0 : 0 ≤ Nn) (n1 : Nn < 1000000000) 
    (A : ∀ W, Calls Yba.prog 6 #[.int .i64 a] W fun e w' => e = .returned (.agg #[.int .u64 Na, .int .i64 sa, .pointer none]) ∧ Upd W w' [])
    (Q : ∀ W, Calls Yba.prog 6 #[.int .i64 q] W fun e w' => e = .returned (.agg #[.int .u64 Nq, .int .i64 sq, .pointer none]) ∧ Upd W w' [])
    (N : ∀ W, Calls Yba.prog 6 #[.int .i64 n] W fun e w' => e = .returned (.agg #[.int .u64 Nn, .int .i64 sn, .pointer none]) ∧ Upd W w' [])
    (hl : laterP Na sa Nn sn) (hl2 : ¬ laterP Nn sn Na sa) (w : World) :
    Calls Yba.prog 4 #[.bool false, .int .i64 a, .int .i64 q, .int .i64 n, .int .i64 f] w fun e w' => e = .returned (.bool true) ∧ Below w.heap.size w w' := by
  go_enter Yba.func4, Yba.ntmps4
  go_wp2_with fail
  refine (A _).mono ?_
  rintro e w1 ⟨rfl, hU1⟩
  go_wp2_with fail
  refine (Q _).mono ?_
  rintro e w2 ⟨rfl, hU2⟩
  have HU2 : Hid (Upd w w2 []) := hU1.trans hU2
  clear hU1 hU2
  go_wp2_with (first | (refine wpList_build_is rfl 42 #[(1, .tmp 16), (2, .tmp 18), (3, .tmp 19)] rfl (entryCells zeroContact (.int .u64 Na) (.int .i64 sa) (.pointer none) (.int .u64 Nq) (.int .i64 sq) (.pointer none) (.int .i64 f)) (by kernel_rfl) ?_) | (refine wpList_store_whole rfl 42 (.tmp 11) (.tmp 20) rfl w2.heap.size (entryCells zeroContact (.int .u64 Na) (.int .i64 sa) (.pointer none) (.int .u64 Nq) (.int .i64 sq) (.pointer none) (.int .i64 f)) rfl rfl 42 _ (heap_alloc_new w2 _) (by kernel_rfl) (by kernel_rfl) (by kernel_rfl) ?_; intro w3 hE hU3 hs3))
  have HU3 : Hid (Upd w w3 []) := (HU2.out.alloc _).trans' hU3 (by have := HU2.out.size; simpa using this)
  have HE := hid hE
  have hw2 : w.heap.size ≤ w2.heap.size := HU2.out.size
  clear hE hU3 hs3 HU2
  refine (N _).mono ?_
  rintro e w4 ⟨rfl, hU4⟩
  have HU4 : Hid (Upd w w4 []) := HU3.out.trans hU4
  have HE4 := hid (hU4.heap HE.out (by simp))
  clear hU4 HE HU3
  go_wp2_with fail
  refine (A _).mono ?_
  rintro e w5 ⟨rfl, hU5⟩
  have HU5 : Hid (Upd w w5 []) := (HU4.out.alloc _).trans hU5
  have hl4 := lt_of_heap HE4.out
  have HE5 := hid (hU5.heap ((Below.heap_alloc _ _ _ hl4).trans HE4.out) (by simp))
  have HT5 := hid (hU5.heap (heap_alloc_new w4 _) (by simp))
  have s5 : w4.heap.size < w5.heap.size := lt_of_heap HT5.out
  have hw5 : w.heap.size ≤ w5.heap.size := HU5.out.size
  have t0 := cell_of (j := 0) HT5.out rfl
  have t1 := cell_of (j := 1) HT5.out rfl
  have t2 := cell_of (j := 2) HT5.out rfl
  clear hU5 HE4 HU4
  go_wp2_with fail
  have hO7 := heap_alloc_new w5 (.cells #[.int .u64 Na, .int .i64 sa, .pointer none] 39)
  have hT7 := (Below.heap_alloc w5 (.cells #[.int .u64 Na, .int .i64 sa, .pointer none] 39) _ s5).trans HT5.out
  have hE7 := (Below.heap_alloc w5 (.cells #[.int .u64 Na, .int .i64 sa, .pointer none] 39) w2.heap.size (by omega)).trans HE5.out
  have HU7 : Hid (Upd w (w5.alloc (.cells #[.int .u64 Na, .int .i64 sa, .pointer none] 39)) []) := HU5.out.alloc _
  refine (hear_no w2.heap.size zeroContact rfl _ _ _ _ _ _ _ Nn sn _ hE7).mono ?_
  rintro e w7 ⟨rfl, hE8, hU8⟩
  have hT8 := hU8.heap hT7 (by simp; omega)
  have hO8 := hU8.heap hO7 (by simp; omega)
  have HU8 : Hid (Upd w w7 []) := HU7.out.trans' hU8 (by simpa using hw2)
  clear t0 t1 t2 hO7 hT7 hE7 HU7 hU8 HE5 HT5
  have t0 := cell_of (j := 0) hT8 rfl
  have t1 := cell_of (j := 1) hT8 rfl
  have t2 := cell_of (j := 2) hT8 rfl
  have o0 := cell_of (j := 0) hO8 rfl
  have o1 := cell_of (j := 1) hO8 rfl
  have o2 := cell_of (j := 2) hO8 rfl
  have l1 := lt_of_heap hT8
  have l2 := lt_of_heap hO8
  have l3 := lt_of_heap hE8
  have HT8 := hid hT8
  have HO8 := hid hO8
  have HE8 := hid hE8
  clear hT8 hO8 hE8
  go_wp2_with fail
  refine (after_lyes Na sa Nn sn _ a0 a1 n0 n1 hl).mono ?_
  rintro e w8 ⟨rfl, hU9⟩
  have HU9 : Hid (Upd w w8 []) := (HU8.out.alloc _).trans hU9
  have hT9 := hU9.heap ((Below.heap_alloc _ _ _ l1).trans HT8.out) (by simp)
  have hO9 := hU9.heap ((Below.heap_alloc _ _ _ l2).trans HO8.out) (by simp)
  have hE9 := hU9.heap ((Below.heap_alloc _ _ _ l3).trans HE8.out) (by simp)
  have hW9 := hU9.heap (heap_alloc_new w7 _) (by simp)
  clear t0 t1 t2 o0 o1 o2
  have o0 := cell_of (j := 0) hO9 rfl
  have o1 := cell_of (j := 1) hO9 rfl
  have o2 := cell_of (j := 2) hO9 rfl
  have v0 := cell_of (j := 0) hW9 rfl
  have v1 := cell_of (j := 1) hW9 rfl
  have v2 := cell_of (j := 2) hW9 rfl
  have g0 := free_of hW9 0
  have g1 := free_of hW9 1
  have g2 := free_of hW9 2
  have HW9 := hid hW9
  have HE9 := hid hE9
  clear hU9 hT9 hO9 hE9 hW9 HT8 HO8 HE8
  have hne2 : ¬ w7.heap.size = w5.heap.size := by omega
  go_wp2
  have hw7 : w.heap.size ≤ w7.heap.size := HU8.out.size
  have k1 := heap_set (j := 2) (v := .pointer none) (heap_set (j := 1) (v := .int .i64 sa) (heap_set (j := 0) (v := .int .u64 Na) HW9.out))
  have k2 : (((w8.setCell ⟨w7.heap.size, 0, none⟩ (.int .u64 Na)).setCell ⟨w7.heap.size, 1, none⟩ (.int .i64 sa)).setCell ⟨w7.heap.size, 2, none⟩ (.pointer none)).heap[w2.heap.size]? = _ := (Below.heap_setCell _ _ _ _ (by simp; omega)).trans ((Below.heap_setCell _ _ _ _ (by simp; omega)).trans ((Below.heap_setCell _ _ _ _ (by simp; omega)).trans HE9.out))
  have k3 : Hid (Upd w (((w8.setCell ⟨w7.heap.size, 0, none⟩ (.int .u64 Na)).setCell ⟨w7.heap.size, 1, none⟩ (.int .i64 sa)).setCell ⟨w7.heap.size, 2, none⟩ (.pointer none)) []) := ((HU9.out.setCell _ _ (Or.inr hw7)).setCell _ _ (Or.inr hw7)).setCell _ _ (Or.inr hw7)
  clear o0 o1 o2 v0 v1 v2 g0 g1 g2 HW9 HE9 HU9
  revert k1 k2 k3
  generalize (((w8.setCell ⟨w7.heap.size, 0, none⟩ (.int .u64 Na)).setCell ⟨w7.heap.size, 1, none⟩ (.int .i64 sa)).setCell ⟨w7.heap.size, 2, none⟩ (.pointer none)) = w9
  intro k1 k2 k3
  have y0 := cell_of (j := 0) k1 rfl
  have y1 := cell_of (j := 1) k1 rfl
  have y2 := cell_of (j := 2) k1 rfl
  have K1 := hid k1
  have K2 := hid k2
  clear k1 k2
  go_region_with (first | (go_at_call 10; refine (lastSeen_a w2.heap.size zeroContact rfl Na sa Nn sn (.int .i64 f) _ a0 a1 n0 n1 hl2 (by exact K2.out)).mono ?_; rintro e w10 ⟨rfl, hU10⟩; have k4 := hU10.heap (show w9.drew.heap[w7.heap.size]? = _ from K1.out) (by simp); have x0 := cell_of (j := 0) k4 rfl; have x1 := cell_of (j := 1) k4 rfl; have x2 := cell_of (j := 2) k4 rfl; clear k4) | (go_at_call 8; refine (equal_same Na sa _ a0 a1).mono ?_; rintro e w11 ⟨rfl, hU11⟩))
  all_goals
    go_wp2
    go_ret
    exact ⟨rfl, (((k3.out.drew).trans' hU10 (by simp)).trans' hU11 (by simp)).below (Nat.le_refl _) (by simp)⟩

theorem seen_walk (b : Bool) (a q n f : Int) (ha1 : -9223372036854775808 ≤ a) (ha2 : a ≤ 9223372036854775807) (hq1 : -9223372036854775808 ≤ q) (hq2 : q ≤ 9223372036854775807) (hn1 : -9223372036854775808 ≤ n) (hn2 : n ≤ 9223372036854775807) (w : World) :
    Calls Yba.prog 4 #[.bool b, .int .i64 a, .int .i64 q, .int .i64 n, .int .i64 f] w fun e w' => e = .returned (.bool true) ∧ Below w.heap.size w w' := by
  obtain ⟨Na, sa, a0, a1, A⟩ := at_any a ha1 ha2
  obtain ⟨Nq, sq, q0, q1, Q⟩ := at_any q hq1 hq2
  obtain ⟨Nn, sn, n0, n1, N⟩ := at_any n hn1 hn2
  cases b with
  | true =>
    by_cases hl : laterP Nq sq Nn sn
    · exact seen_yes a q n f Na sa Nq sq Nn sn q0 q1 n0 n1 A Q N hl w
    · exact seen_yes_no a q n f Na sa Nq sq Nn sn q0 q1 n0 n1 A Q N hl w
  | false =>
    by_cases hl : laterP Na sa Nn sn
    · exact seen_no_a a q n f Na sa Nq sq Nn sn a0 a1 n0 n1 A Q N hl (by unfold laterP at hl ⊢; omega) w
    · by_cases hl2 : laterP Nn sn Na sa
      · exact seen_no_n a q n f Na sa Nq sq Nn sn a0 a1 n0 n1 A Q N hl hl2 w
      · have e1 : sn = sa := by unfold laterP at hl hl2; omega
        have e2 : Nn = Na := by unfold laterP at hl hl2; omega
        rw [e1, e2] at N hl
        exact seen_no_e a q n f Na sa Nq sq a0 a1 A Q N hl w
end Go.Proofs.Ybulkjnq
