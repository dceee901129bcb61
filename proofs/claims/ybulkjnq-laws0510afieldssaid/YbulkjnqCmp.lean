import Derived.Test.YbulkjnqAdd
namespace Go.Proofs.Ybulkjnq
open Go.RowKit

set_option maxHeartbeats 400000 in
theorem equal_same (N s : Int) (w : World) (h0 : 0 ≤ N) (h1 : N < 1000000000) :
    Calls Yba.prog 8 #[.agg #[.int .u64 N, .int .i64 s, .pointer none], .agg #[.int .u64 N, .int .i64 s, .pointer none]] w fun e w' => e = .returned (.bool true) ∧ Upd w w' [] := by
  have ht := and_and_top' N N h0 h1 h0 h1
  obtain ⟨b1, b2, hU⟩ := two_boxes w #[.int .u64 N, .int .i64 s, .pointer none] #[.int .u64 N, .int .i64 s, .pointer none] 39 39
  have S1 := sec_walk w.heap.size N s _ h0 h1 (cell_of b1 rfl) (cell_of b1 rfl)
  have S2 := sec_walk (w.heap.size + 1) N s _ h0 h1 (cell_of b2 rfl) (cell_of b2 rfl)
  have T1 := nsec_walk w.heap.size N _ h0 h1 (cell_of b1 rfl)
  have T2 := nsec_walk (w.heap.size + 1) N _ h0 h1 (cell_of b2 rfl)
  have HU := hid hU
  clear b1 b2 hU
  go_enter Yba.func8, Yba.ntmps8
  go_wp2_with fail
  refine S1.mono ?_
  rintro e w1 ⟨rfl, rfl⟩
  go_wp2_with fail
  refine S2.mono ?_
  rintro e w1 ⟨rfl, rfl⟩
  go_wp2_with fail
  refine T1.mono ?_
  rintro e w1 ⟨rfl, rfl⟩
  go_wp2_with fail
  refine T2.mono ?_
  rintro e w1 ⟨rfl, rfl⟩
  clear S1 S2 T1 T2
  go_wp2
  go_ret
  exact ⟨rfl, HU.out⟩

set_option maxHeartbeats 400000 in
theorem after_gt (N1 N2 s1 s2 : Int) (w : World) (h10 : 0 ≤ N1) (h11 : N1 < 1000000000) (h20 : 0 ≤ N2) (h21 : N2 < 1000000000) (h : s2 < s1) :
    Calls Yba.prog 9 #[.agg #[.int .u64 N1, .int .i64 s1, .pointer none], .agg #[.int .u64 N2, .int .i64 s2, .pointer none]] w fun e w' => e = .returned (.bool true) ∧ Upd w w' [] := by
  have ht := and_and_top' N1 N2 h10 h11 h20 h21
  obtain ⟨b1, b2, hU⟩ := two_boxes w #[.int .u64 N1, .int .i64 s1, .pointer none] #[.int .u64 N2, .int .i64 s2, .pointer none] 39 39
  have S1 := sec_walk w.heap.size N1 s1 _ h10 h11 (cell_of b1 rfl) (cell_of b1 rfl)
  have S2 := sec_walk (w.heap.size + 1) N2 s2 _ h20 h21 (cell_of b2 rfl) (cell_of b2 rfl)
  have HU := hid hU
  clear b1 b2 hU
  go_enter Yba.func9, Yba.ntmps9
  go_wp2_with fail
  refine S1.mono ?_
  rintro e w1 ⟨rfl, rfl⟩
  go_wp2_with fail
  refine S2.mono ?_
  rintro e w1 ⟨rfl, rfl⟩
  clear S1 S2 
  go_wp2
  go_ret
  exact ⟨rfl, HU.out⟩

set_option maxHeartbeats 400000 in
theorem after_lt (N1 N2 s1 s2 : Int) (w : World) (h10 : 0 ≤ N1) (h11 : N1 < 1000000000) (h20 : 0 ≤ N2) (h21 : N2 < 1000000000) (h : s1 < s2) :
    Calls Yba.prog 9 #[.agg #[.int .u64 N1, .int .i64 s1, .pointer none], .agg #[.int .u64 N2, .int .i64 s2, .pointer none]] w fun e w' => e = .returned (.bool false) ∧ Upd w w' [] := by
  have ht := and_and_top' N1 N2 h10 h11 h20 h21
  obtain ⟨b1, b2, hU⟩ := two_boxes w #[.int .u64 N1, .int .i64 s1, .pointer none] #[.int .u64 N2, .int .i64 s2, .pointer none] 39 39
  have S1 := sec_walk w.heap.size N1 s1 _ h10 h11 (cell_of b1 rfl) (cell_of b1 rfl)
  have S2 := sec_walk (w.heap.size + 1) N2 s2 _ h20 h21 (cell_of b2 rfl) (cell_of b2 rfl)
  have hne : (s1 == s2) = false := by simpa using (show ¬ s1 = s2 by omega)
  have hng : decide (s2 < s1) = false := decide_eq_false (by omega)
  have HU := hid hU
  clear b1 b2 hU
  go_enter Yba.func9, Yba.ntmps9
  go_wp2_with fail
  refine S1.mono ?_
  rintro e w1 ⟨rfl, rfl⟩
  go_wp2_with fail
  refine S2.mono ?_
  rintro e w1 ⟨rfl, rfl⟩
  clear S1 S2 
  go_wp2
  go_ret
  exact ⟨rfl, HU.out⟩

set_option maxHeartbeats 400000 in
theorem after_eq_gt (N1 N2 s1 : Int) (w : World) (h10 : 0 ≤ N1) (h11 : N1 < 1000000000) (h20 : 0 ≤ N2) (h21 : N2 < 1000000000) (h : N2 < N1) :
    Calls Yba.prog 9 #[.agg #[.int .u64 N1, .int .i64 s1, .pointer none], .agg #[.int .u64 N2, .int .i64 s1, .pointer none]] w fun e w' => e = .returned (.bool true) ∧ Upd w w' [] := by
  have ht := and_and_top' N1 N2 h10 h11 h20 h21
  obtain ⟨b1, b2, hU⟩ := two_boxes w #[.int .u64 N1, .int .i64 s1, .pointer none] #[.int .u64 N2, .int .i64 s1, .pointer none] 39 39
  have S1 := sec_walk w.heap.size N1 s1 _ h10 h11 (cell_of b1 rfl) (cell_of b1 rfl)
  have S2 := sec_walk (w.heap.size + 1) N2 s1 _ h20 h21 (cell_of b2 rfl) (cell_of b2 rfl)
  have T1 := nsec_walk w.heap.size N1 _ h10 h11 (cell_of b1 rfl)
  have T2 := nsec_walk (w.heap.size + 1) N2 _ h20 h21 (cell_of b2 rfl)
  have HU := hid hU
  clear b1 b2 hU
  go_enter Yba.func9, Yba.ntmps9
  go_wp2_with fail
  refine S1.mono ?_
  rintro e w1 ⟨rfl, rfl⟩
  go_wp2_with fail
  refine S2.mono ?_
  rintro e w1 ⟨rfl, rfl⟩
  go_wp2_with fail
  refine T1.mono ?_
  rintro e w1 ⟨rfl, rfl⟩
  go_wp2_with fail
  refine T2.mono ?_
  rintro e w1 ⟨rfl, rfl⟩
  clear S1 S2 T1 T2
  go_wp2
  go_ret
  exact ⟨rfl, HU.out⟩

set_option maxHeartbeats 400000 in
theorem after_eq_le (N1 N2 s1 : Int) (w : World) (h10 : 0 ≤ N1) (h11 : N1 < 1000000000) (h20 : 0 ≤ N2) (h21 : N2 < 1000000000) (h : N1 ≤ N2) :
    Calls Yba.prog 9 #[.agg #[.int .u64 N1, .int .i64 s1, .pointer none], .agg #[.int .u64 N2, .int .i64 s1, .pointer none]] w fun e w' => e = .returned (.bool false) ∧ Upd w w' [] := by
  have ht := and_and_top' N1 N2 h10 h11 h20 h21
  obtain ⟨b1, b2, hU⟩ := two_boxes w #[.int .u64 N1, .int .i64 s1, .pointer none] #[.int .u64 N2, .int .i64 s1, .pointer none] 39 39
  have S1 := sec_walk w.heap.size N1 s1 _ h10 h11 (cell_of b1 rfl) (cell_of b1 rfl)
  have S2 := sec_walk (w.heap.size + 1) N2 s1 _ h20 h21 (cell_of b2 rfl) (cell_of b2 rfl)
  have T1 := nsec_walk w.heap.size N1 _ h10 h11 (cell_of b1 rfl)
  have T2 := nsec_walk (w.heap.size + 1) N2 _ h20 h21 (cell_of b2 rfl)
  have hng : decide (N2 < N1) = false := decide_eq_false (by omega)
  have HU := hid hU
  clear b1 b2 hU
  go_enter Yba.func9, Yba.ntmps9
  go_wp2_with fail
  refine S1.mono ?_
  rintro e w1 ⟨rfl, rfl⟩
  go_wp2_with fail
  refine S2.mono ?_
  rintro e w1 ⟨rfl, rfl⟩
  go_wp2_with fail
  refine T1.mono ?_
  rintro e w1 ⟨rfl, rfl⟩
  go_wp2_with fail
  refine T2.mono ?_
  rintro e w1 ⟨rfl, rfl⟩
  clear S1 S2 T1 T2
  go_wp2
  go_ret
  exact ⟨rfl, HU.out⟩

theorem after_yes (a b : Int) (w : World) (h : b < a) : Calls Yba.prog 9 #[tv a, tv b] w fun e w' => e = .returned (.bool true) ∧ Upd w w' [] := by
  by_cases hs : b / 1000000000 < a / 1000000000
  · exact after_gt _ _ _ _ w (by omega) (by omega) (by omega) (by omega) hs
  · have e : a / 1000000000 = b / 1000000000 := by omega
    have := after_eq_gt (a % 1000000000) (b % 1000000000) (a / 1000000000) w (by omega) (by omega) (by omega) (by omega) (by omega)
    unfold tv
    rw [← e]
    exact this
theorem after_no (a b : Int) (w : World) (h : a ≤ b) : Calls Yba.prog 9 #[tv a, tv b] w fun e w' => e = .returned (.bool false) ∧ Upd w w' [] := by
  by_cases hs : a / 1000000000 < b / 1000000000
  · exact after_lt _ _ _ _ w (by omega) (by omega) (by omega) (by omega) hs
  · have e : a / 1000000000 = b / 1000000000 := by omega
    have := after_eq_le (a % 1000000000) (b % 1000000000) (a / 1000000000) w (by omega) (by omega) (by omega) (by omega) (by omega)
    unfold tv
    rw [← e]
    exact this
theorem equal_tv (a : Int) (w : World) : Calls Yba.prog 8 #[tv a, tv a] w fun e w' => e = .returned (.bool true) ∧ Upd w w' [] :=
  equal_same _ _ w (by omega) (by omega)

set_option maxHeartbeats 400000 in
theorem at_walk (d : Int) (w : World) (h1 : -9223372036854775808 ≤ d) (h2 : d ≤ 9223372036854775807) :
    Calls Yba.prog 6 #[.int .i64 d] w fun e w' => e = .returned (tv d) ∧ Upd w w' [] := by
  have A := fun W => add_walk d W h1 h2
  clear h1 h2
  go_enter Yba.func6, Yba.ntmps6
  go_wp2_with fail
  have hU0 : Upd w (w.alloc (.cells #[.int .u64 0, .int .i64 0, .pointer none] 39)) [] := (Upd.refl w []).alloc _
  refine (A _).mono ?_
  rintro e w1 ⟨rfl, hU1⟩
  have hb := hU1.heap (heap_alloc_new w _) (by simp)
  have HU : Hid (Upd w w1 []) := hU0.trans hU1
  have r0 := cell_of (j := 0) hb rfl
  have r1 := cell_of (j := 1) hb rfl
  have r2 := cell_of (j := 2) hb rfl
  have f0 := free_of hb 0
  have f1 := free_of hb 1
  have f2 := free_of hb 2
  clear hU0 hU1 hb A
  unfold tv
  go_wp2
  refine bodyPost_ret (v := .agg #[.int .u64 (d % 1000000000), .int .i64 (d / 1000000000), .pointer none]) (by simp [results, Yba.results6, go_sem, r0, r1, r2]) rfl ⟨rfl, ?_⟩
  exact ((HU.out.setCell _ _ (Or.inr (Nat.le_refl _))).setCell _ _ (Or.inr (Nat.le_refl _))).setCell _ _ (Or.inr (Nat.le_refl _))
end Go.Proofs.Ybulkjnq
