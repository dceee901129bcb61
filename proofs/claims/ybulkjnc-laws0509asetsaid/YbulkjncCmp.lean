import Derived.Test.YbulkjncAdd
namespace Go.Proofs.Ybulkjnc
open Go.RowKit

set_option maxHeartbeats 400000 in
theorem equal_same (N s : Int) (w : World) (h0 : 0 ≤ N) (h1 : N < 1000000000) :
    Calls Yba.prog 10 #[.agg #[.int .u64 N, .int .i64 s, .pointer none], .agg #[.int .u64 N, .int .i64 s, .pointer none]] w fun e w' => e = .returned (.bool true) ∧ Upd w w' [] := by
  have ht := and_and_top' N N h0 h1 h0 h1
  obtain ⟨b1, b2, hU⟩ := two_boxes w #[.int .u64 N, .int .i64 s, .pointer none] #[.int .u64 N, .int .i64 s, .pointer none] 30 30
  have S1 := sec_walk w.heap.size N s _ h0 h1 (cell_of b1 rfl) (cell_of b1 rfl)
  have S2 := sec_walk (w.heap.size + 1) N s _ h0 h1 (cell_of b2 rfl) (cell_of b2 rfl)
  have T1 := nsec_walk w.heap.size N _ h0 h1 (cell_of b1 rfl)
  have T2 := nsec_walk (w.heap.size + 1) N _ h0 h1 (cell_of b2 rfl)
  have HU := hid hU
  clear b1 b2 hU
  go_enter Yba.func10, Yba.ntmps10
  go_wp2_with fail
  refine S1.mono ?_
  rintro e w1 ⟨rfl, rfl⟩
  go_wp2_with fail
  refine S2.mono ?_
  rintro e w1 ⟨rfl, rfl⟩
  go_wp2_with fail
  refine T1.mono ?_
  rintro e w1 ⟨rfl, rfl⟩
  go_wp2_with fail
  refine T2.mono ?_
  rintro e w1 ⟨rfl, rfl⟩
  clear S1 S2 T1 T2
  go_wp2
  go_ret
  exact ⟨rfl, HU.out⟩

set_option maxHeartbeats 400000 in
theorem before_lt (N1 N2 s1 s2 : Int) (w : World) (h10 : 0 ≤ N1) (h11 : N1 < 1000000000) (h20 : 0 ≤ N2) (h21 : N2 < 1000000000) (h : s1 < s2) :
    Calls Yba.prog 13 #[.agg #[.int .u64 N1, .int .i64 s1, .pointer none], .agg #[.int .u64 N2, .int .i64 s2, .pointer none]] w fun e w' => e = .returned (.bool true) ∧ Upd w w' [] := by
  have ht := and_and_top' N1 N2 h10 h11 h20 h21
  obtain ⟨b1, b2, hU⟩ := two_boxes w #[.int .u64 N1, .int .i64 s1, .pointer none] #[.int .u64 N2, .int .i64 s2, .pointer none] 30 30
  have S1 := sec_walk w.heap.size N1 s1 _ h10 h11 (cell_of b1 rfl) (cell_of b1 rfl)
  have S2 := sec_walk (w.heap.size + 1) N2 s2 _ h20 h21 (cell_of b2 rfl) (cell_of b2 rfl)
  have HU := hid hU
  clear b1 b2 hU
  go_enter Yba.func13, Yba.ntmps13
  go_wp2_with fail
  refine S1.mono ?_
  rintro e w1 ⟨rfl, rfl⟩
  go_wp2_with fail
  refine S2.mono ?_
  rintro e w1 ⟨rfl, rfl⟩
  clear S1 S2 
  go_wp2
  go_ret
  exact ⟨rfl, HU.out⟩

set_option maxHeartbeats 400000 in
theorem before_gt (N1 N2 s1 s2 : Int) (w : World) (h10 : 0 ≤ N1) (h11 : N1 < 1000000000) (h20 : 0 ≤ N2) (h21 : N2 < 1000000000) (h : s2 < s1) :
    Calls Yba.prog 13 #[.agg #[.int .u64 N1, .int .i64 s1, .pointer none], .agg #[.int .u64 N2, .int .i64 s2, .pointer none]] w fun e w' => e = .returned (.bool false) ∧ Upd w w' [] := by
  have ht := and_and_top' N1 N2 h10 h11 h20 h21
  obtain ⟨b1, b2, hU⟩ := two_boxes w #[.int .u64 N1, .int .i64 s1, .pointer none] #[.int .u64 N2, .int .i64 s2, .pointer none] 30 30
  have S1 := sec_walk w.heap.size N1 s1 _ h10 h11 (cell_of b1 rfl) (cell_of b1 rfl)
  have S2 := sec_walk (w.heap.size + 1) N2 s2 _ h20 h21 (cell_of b2 rfl) (cell_of b2 rfl)
  have hne : (s1 == s2) = false := by simpa using (show ¬ s1 = s2 by omega)
  have hng : decide (s1 < s2) = false := decide_eq_false (by omega)
  have HU := hid hU
  clear b1 b2 hU
  go_enter Yba.func13, Yba.ntmps13
  go_wp2_with fail
  refine S1.mono ?_
  rintro e w1 ⟨rfl, rfl⟩
  go_wp2_with fail
  refine S2.mono ?_
  rintro e w1 ⟨rfl, rfl⟩
  clear S1 S2 
  go_wp2
  go_ret
  exact ⟨rfl, HU.out⟩

set_option maxHeartbeats 400000 in
theorem before_eq_lt (N1 N2 s1 : Int) (w : World) (h10 : 0 ≤ N1) (h11 : N1 < 1000000000) (h20 : 0 ≤ N2) (h21 : N2 < 1000000000) (h : N1 < N2) :
    Calls Yba.prog 13 #[.agg #[.int .u64 N1, .int .i64 s1, .pointer none], .agg #[.int .u64 N2, .int .i64 s1, .pointer none]] w fun e w' => e = .returned (.bool true) ∧ Upd w w' [] := by
  have ht := and_and_top' N1 N2 h10 h11 h20 h21
  obtain ⟨b1, b2, hU⟩ := two_boxes w #[.int .u64 N1, .int .i64 s1, .pointer none] #[.int .u64 N2, .int .i64 s1, .pointer none] 30 30
  have S1 := sec_walk w.heap.size N1 s1 _ h10 h11 (cell_of b1 rfl) (cell_of b1 rfl)
  have S2 := sec_walk (w.heap.size + 1) N2 s1 _ h20 h21 (cell_of b2 rfl) (cell_of b2 rfl)
  have T1 := nsec_walk w.heap.size N1 _ h10 h11 (cell_of b1 rfl)
  have T2 := nsec_walk (w.heap.size + 1) N2 _ h20 h21 (cell_of b2 rfl)
  have HU := hid hU
  clear b1 b2 hU
  go_enter Yba.func13, Yba.ntmps13
  go_wp2_with fail
  refine S1.mono ?_
  rintro e w1 ⟨rfl, rfl⟩
  go_wp2_with fail
  refine S2.mono ?_
  rintro e w1 ⟨rfl, rfl⟩
  go_wp2_with fail
  refine T1.mono ?_
  rintro e w1 ⟨rfl, rfl⟩
  go_wp2_with fail
  refine T2.mono ?_
  rintro e w1 ⟨rfl, rfl⟩
  clear S1 S2 T1 T2
  go_wp2
  go_ret
  exact ⟨rfl, HU.out⟩

set_option maxHeartbeats 400000 in
theorem before_eq_ge (N1 N2 s1 : Int) (w : World) (h10 : 0 ≤ N1) (h11 : N1 < 1000000000) (h20 : 0 ≤ N2) (h21 : N2 < 1000000000) (h : N2 ≤ N1) :
    Calls Yba.prog 13 #[.agg #[.int .u64 N1, .int .i64 s1, .pointer none], .agg #[.int .u64 N2, .int .i64 s1, .pointer none]] w fun e w' => e = .returned (.bool false) ∧ Upd w w' [] := by
  have ht := and_and_top' N1 N2 h10 h11 h20 h21
  obtain ⟨b1, b2, hU⟩ := two_boxes w #[.int .u64 N1, .int .i64 s1, .pointer none] #[.int .u64 N2, .int .i64 s1, .pointer none] 30 30
  have S1 := sec_walk w.heap.size N1 s1 _ h10 h11 (cell_of b1 rfl) (cell_of b1 rfl)
  have S2 := sec_walk (w.heap.size + 1) N2 s1 _ h20 h21 (cell_of b2 rfl) (cell_of b2 rfl)
  have T1 := nsec_walk w.heap.size N1 _ h10 h11 (cell_of b1 rfl)
  have T2 := nsec_walk (w.heap.size + 1) N2 _ h20 h21 (cell_of b2 rfl)
  have hng : decide (N1 < N2) = false := decide_eq_false (by omega)
  have HU := hid hU
  clear b1 b2 hU
  go_enter Yba.func13, Yba.ntmps13
  go_wp2_with fail
  refine S1.mono ?_
  rintro e w1 ⟨rfl, rfl⟩
  go_wp2_with fail
  refine S2.mono ?_
  rintro e w1 ⟨rfl, rfl⟩
  go_wp2_with fail
  refine T1.mono ?_
  rintro e w1 ⟨rfl, rfl⟩
  go_wp2_with fail
  refine T2.mono ?_
  rintro e w1 ⟨rfl, rfl⟩
  clear S1 S2 T1 T2
  go_wp2
  go_ret
  exact ⟨rfl, HU.out⟩

theorem before_yes (a b : Int) (w : World) (h : a < b) : Calls Yba.prog 13 #[tv a, tv b] w fun e w' => e = .returned (.bool true) ∧ Upd w w' [] := by
  by_cases hs : a / 1000000000 < b / 1000000000
  · exact before_lt _ _ _ _ w (by omega) (by omega) (by omega) (by omega) hs
  · have e : a / 1000000000 = b / 1000000000 := by omega
    have := before_eq_lt (a % 1000000000) (b % 1000000000) (a / 1000000000) w (by omega) (by omega) (by omega) (by omega) (by omega)
    unfold tv
    rw [← e]
    exact this
theorem before_no (a b : Int) (w : World) (h : b ≤ a) : Calls Yba.prog 13 #[tv a, tv b] w fun e w' => e = .returned (.bool false) ∧ Upd w w' [] := by
  by_cases hs : b / 1000000000 < a / 1000000000
  · exact before_gt _ _ _ _ w (by omega) (by omega) (by omega) (by omega) hs
  · have e : a / 1000000000 = b / 1000000000 := by omega
    have := before_eq_ge (a % 1000000000) (b % 1000000000) (a / 1000000000) w (by omega) (by omega) (by omega) (by omega) (by omega)
    unfold tv
    rw [← e]
    exact this
theorem equal_tv (a : Int) (w : World) : Calls Yba.prog 10 #[tv a, tv a] w fun e w' => e = .returned (.bool true) ∧ Upd w w' [] :=
  equal_same _ _ w (by omega) (by omega)
end Go.Proofs.Ybulkjnc
