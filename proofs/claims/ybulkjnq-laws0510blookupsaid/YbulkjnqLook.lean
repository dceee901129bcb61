import Derived.Test.YbulkjnqPeer
import Derived.WideMake
import Derived.Lib.Strings
import Derived.WideShapes
namespace Go.Proofs.Ybulkjnq
open Go.RowKit

/-- A store into an empty map with string keys, by an assignment or inside a literal. -/
theorem wpList_put_first {P : Program} (w : World) {ops : Array Oper} {rest : List Oper} {o : Oper} {a : Act} {Q : Exit → Act → World → Prop}
    (hg : o.guard = none) (m x v : Operand) (t : TypeId) (hop : o.op = Op.insert t m x v ∨ o.op = Op.mapUpdate t m x v)
    (K E : TypeId) (ht : P.underlying t = some (.map K E)) (hk : P.underlying K = some .string) (r clock : Nat) (hm : a.eval m = .map (some r)) (s : ByteArray) (hx : a.eval x = .string s) (val : Value) (hv : a.eval v = val)
    (hb : w.heap[r]? = some (.map #[] clock))
    (hK : ∀ w', w'.heap[r]? = some (.map #[{ key := .string s, val := val, born := clock }] (clock + 1)) → Upd w w' [r] → w'.heap.size = w.heap.size → wpList P ops Q rest (a.put o.dst undef) w') :
    wpList P ops Q (o :: rest) a w := by
  refine wpList_plain hg fun K' hK' => ?_
  have hrun := run_mapUpdate_first (P := P) w t K E r clock s val ht hk hb
  have hr := (Array.getElem?_eq_some_iff.1 hb).1
  have h := hK { w with heap := w.heap.setIfInBounds r (.map #[{ key := .string s, val := val, born := clock }] (clock + 1)) } (by simp [hr]) ⟨rfl, rfl, rfl, by simp, fun k hk hn => by
    simp only [List.mem_singleton] at hn
    simp only [Array.getElem?_setIfInBounds]
    rw [if_neg (by omega)]⟩ (by simp)
  unfold Oper.wp
  rcases hop with hop | hop
  all_goals
    simp [execOp, hop, hm, hx, hv, hrun, Result.andThen]
    exact hK' _ _ h

theorem two_maps (w : World) : ((w.alloc (.map #[] 0)).alloc (.map #[] 0)).heap[w.heap.size]? = some (.map #[] 0) ∧ ((w.alloc (.map #[] 0)).alloc (.map #[] 0)).heap[w.heap.size + 1]? = some (.map #[] 0) := by
  refine ⟨?_, ?_⟩
  · rw [Below.heap_alloc _ _ _ (by simp)]; exact heap_alloc_new w _
  · have := heap_alloc_new (w.alloc (.map #[] 0)) (.map #[] 0)
    simpa using this

theorem box8 (w2 : World) (m : Value) {S : Nat} (hs : w2.heap.size = S) : (w2.alloc (.cells #[.nilIface, .nilIface, .string ⟨#[]⟩, .int .i64 0, .int .u16 0, .nilFunc, .pointer none, .slice none 0 0, m] 61)).cell? ⟨S, 8, none⟩ = some m := by
  subst hs
  exact cell_of (heap_alloc_new w2 _) rfl

theorem str_ne {a b : ByteArray} (h : a ≠ b) : (a.toList == b.toList) = false := by
  cases e : (a.toList == b.toList) with
  | false => rfl
  | true =>
    refine absurd ?_ h
    have e' : a.toList = b.toList := by simpa using e
    rw [Lib.toList_data, Lib.toList_data] at e'
    exact WideShapes.bytes_inj e'

set_option maxRecDepth 20000 in
set_option maxHeartbeats 400000 in
theorem look0_in_t (a0 a1 : ByteArray) (a3 a4 : Int) (h31 : 1 ≤ a3) (h32 : a3 ≤ 255) (w4 : 0 ≤ a4 ∧ a4 ≤ 255) (hm : a4 % 4 = 0) (w : World) :
    Calls Yba.prog 5 #[.string a0, .string a1, .bool true, .int .i64 a3, .int .u8 a4] w fun e w' => e = .returned (.bool true) ∧ Below w.heap.size w w' := by
  have hmm := @run_makeMap Yba.prog
  go_enter Yba.func5, Yba.ntmps5
  go_wp2_with (first | (refine wpList_put_first _ rfl (.tmp 28) (.tmp 29) (.tmp 31) 48 (Or.inl rfl) 9 20 Yba.underlying48 Yba.underlying9 (w.heap.size + 1) 0 rfl _ rfl _ rfl (two_maps w).2 ?_; intro w1 hr1 hU1 hs1) | (refine wpList_put_first _ rfl (.tmp 27) (.const (.string ⟨#[109]⟩)) (.tmp 33) 48 (Or.inr rfl) 9 20 Yba.underlying48 Yba.underlying9 w.heap.size 0 rfl _ rfl _ rfl (hU1.heap (two_maps w).1 (by simp)) ?_; intro w2 hr2 hU2 hs2))
  have hU0 : Upd w ((w.alloc (.map #[] 0)).alloc (.map #[] 0)) [] := ((Upd.refl w []).alloc _).alloc _
  have HU2 : Hid (Upd w w2 []) := (hU0.trans' hU1 (by simp)).trans' hU2 (by simp)
  have hs : w2.heap.size = w.heap.size + 1 + 1 := by rw [hs2, hs1]; simp
  have hin := hU2.heap hr1 (by simp)
  refine (peer_some _ w.heap.size (w.heap.size + 1) a0 _ _ _ _ a3 _ (box8 w2 _ hs) (look_hit _ _ _ _ _ _ ((Below.heap_alloc _ _ _ (by omega)).trans hr2)) (ta_map _ _) (look_hit _ _ _ _ _ _ ((Below.heap_alloc _ _ _ (by omega)).trans hin)) (ta_i64 _ _) ⟨by omega, by omega⟩).mono ?_
  rintro e w3 ⟨rfl, rfl⟩
  clear hr1 hr2 hU1 hU2 hin hU0 hs1 hs2
  go_wp2
  go_ret
  exact ⟨rfl, (HU2.out.alloc _).below (Nat.le_refl _) (by simp)⟩

set_option maxRecDepth 20000 in
set_option maxHeartbeats 400000 in
theorem look0_lo_t (a0 a1 : ByteArray) (a3 a4 : Int) (h31 : a3 < 1) (w4 : 0 ≤ a4 ∧ a4 ≤ 255) (hm : a4 % 4 = 0) (w : World) :
    Calls Yba.prog 5 #[.string a0, .string a1, .bool true, .int .i64 a3, .int .u8 a4] w fun e w' => e = .returned (.bool true) ∧ Below w.heap.size w w' := by
  have hmm := @run_makeMap Yba.prog
  go_enter Yba.func5, Yba.ntmps5
  go_wp2_with (first | (refine wpList_put_first _ rfl (.tmp 28) (.tmp 29) (.tmp 31) 48 (Or.inl rfl) 9 20 Yba.underlying48 Yba.underlying9 (w.heap.size + 1) 0 rfl _ rfl _ rfl (two_maps w).2 ?_; intro w1 hr1 hU1 hs1) | (refine wpList_put_first _ rfl (.tmp 27) (.const (.string ⟨#[109]⟩)) (.tmp 33) 48 (Or.inr rfl) 9 20 Yba.underlying48 Yba.underlying9 w.heap.size 0 rfl _ rfl _ rfl (hU1.heap (two_maps w).1 (by simp)) ?_; intro w2 hr2 hU2 hs2))
  have hU0 : Upd w ((w.alloc (.map #[] 0)).alloc (.map #[] 0)) [] := ((Upd.refl w []).alloc _).alloc _
  have HU2 : Hid (Upd w w2 []) := (hU0.trans' hU1 (by simp)).trans' hU2 (by simp)
  have hs : w2.heap.size = w.heap.size + 1 + 1 := by rw [hs2, hs1]; simp
  have hin := hU2.heap hr1 (by simp)
  refine (peer_out _ w.heap.size (w.heap.size + 1) a0 _ _ _ _ a3 _ (box8 w2 _ hs) (look_hit _ _ _ _ _ _ ((Below.heap_alloc _ _ _ (by omega)).trans hr2)) (ta_map _ _) (look_hit _ _ _ _ _ _ ((Below.heap_alloc _ _ _ (by omega)).trans hin)) (ta_i64 _ _) (by omega)).mono ?_
  rintro e w3 ⟨rfl, rfl⟩
  clear hr1 hr2 hU1 hU2 hin hU0 hs1 hs2
  go_wp2
  go_ret
  exact ⟨rfl, (HU2.out.alloc _).below (Nat.le_refl _) (by simp)⟩

set_option maxRecDepth 20000 in
set_option maxHeartbeats 400000 in
theorem look0_hi_t (a0 a1 : ByteArray) (a3 a4 : Int) (h31 : 1 ≤ a3) (h32 : 255 < a3) (w4 : 0 ≤ a4 ∧ a4 ≤ 255) (hm : a4 % 4 = 0) (w : World) :
    Calls Yba.prog 5 #[.string a0, .string a1, .bool true, .int .i64 a3, .int .u8 a4] w fun e w' => e = .returned (.bool true) ∧ Below w.heap.size w w' := by
  have hmm := @run_makeMap Yba.prog
  go_enter Yba.func5, Yba.ntmps5
  go_wp2_with (first | (refine wpList_put_first _ rfl (.tmp 28) (.tmp 29) (.tmp 31) 48 (Or.inl rfl) 9 20 Yba.underlying48 Yba.underlying9 (w.heap.size + 1) 0 rfl _ rfl _ rfl (two_maps w).2 ?_; intro w1 hr1 hU1 hs1) | (refine wpList_put_first _ rfl (.tmp 27) (.const (.string ⟨#[109]⟩)) (.tmp 33) 48 (Or.inr rfl) 9 20 Yba.underlying48 Yba.underlying9 w.heap.size 0 rfl _ rfl _ rfl (hU1.heap (two_maps w).1 (by simp)) ?_; intro w2 hr2 hU2 hs2))
  have hU0 : Upd w ((w.alloc (.map #[] 0)).alloc (.map #[] 0)) [] := ((Upd.refl w []).alloc _).alloc _
  have HU2 : Hid (Upd w w2 []) := (hU0.trans' hU1 (by simp)).trans' hU2 (by simp)
  have hs : w2.heap.size = w.heap.size + 1 + 1 := by rw [hs2, hs1]; simp
  have hin := hU2.heap hr1 (by simp)
  refine (peer_out _ w.heap.size (w.heap.size + 1) a0 _ _ _ _ a3 _ (box8 w2 _ hs) (look_hit _ _ _ _ _ _ ((Below.heap_alloc _ _ _ (by omega)).trans hr2)) (ta_map _ _) (look_hit _ _ _ _ _ _ ((Below.heap_alloc _ _ _ (by omega)).trans hin)) (ta_i64 _ _) (by omega)).mono ?_
  rintro e w3 ⟨rfl, rfl⟩
  clear hr1 hr2 hU1 hU2 hin hU0 hs1 hs2
  go_wp2
  go_ret
  exact ⟨rfl, (HU2.out.alloc _).below (Nat.le_refl _) (by simp)⟩

set_option maxRecDepth 20000 in
set_option maxHeartbeats 400000 in
theorem look1_t (a0 a1 : ByteArray) (a3 a4 : Int) (w4 : 0 ≤ a4 ∧ a4 ≤ 255) (hm : a4 % 4 = 1) (w : World) :
    Calls Yba.prog 5 #[.string a0, .string a1, .bool true, .int .i64 a3, .int .u8 a4] w fun e w' => e = .returned (.bool true) ∧ Below w.heap.size w w' := by
  have hmm := @run_makeMap Yba.prog
  go_enter Yba.func5, Yba.ntmps5
  go_wp2_with (first | (refine wpList_put_first _ rfl (.tmp 37) (.tmp 38) (.tmp 40) 48 (Or.inl rfl) 9 20 Yba.underlying48 Yba.underlying9 (w.heap.size + 1) 0 rfl _ rfl _ rfl (two_maps w).2 ?_; intro w1 hr1 hU1 hs1) | (refine wpList_put_first _ rfl (.tmp 36) (.const (.string ⟨#[109]⟩)) (.tmp 42) 48 (Or.inr rfl) 9 20 Yba.underlying48 Yba.underlying9 w.heap.size 0 rfl _ rfl _ rfl (hU1.heap (two_maps w).1 (by simp)) ?_; intro w2 hr2 hU2 hs2))
  have hU0 : Upd w ((w.alloc (.map #[] 0)).alloc (.map #[] 0)) [] := ((Upd.refl w []).alloc _).alloc _
  have HU2 : Hid (Upd w w2 []) := (hU0.trans' hU1 (by simp)).trans' hU2 (by simp)
  have hs : w2.heap.size = w.heap.size + 1 + 1 := by rw [hs2, hs1]; simp
  have hin := hU2.heap hr1 (by simp)
  refine (peer_none _ a0 _ _ _ _ _ _ _ (box8 w2 _ hs) (Or.inr ⟨_, rfl⟩) (look_hit _ _ _ _ _ _ ((Below.heap_alloc _ _ _ (by omega)).trans hr2)) (ta_map _ _) (look_hit _ _ _ _ _ _ ((Below.heap_alloc _ _ _ (by omega)).trans hin)) (ta_int _ _)).mono ?_
  rintro e w3 ⟨rfl, rfl⟩
  clear hr1 hr2 hU1 hU2 hin hU0 hs1 hs2
  go_wp2
  go_ret
  exact ⟨rfl, (HU2.out.alloc _).below (Nat.le_refl _) (by simp)⟩

set_option maxRecDepth 20000 in
set_option maxHeartbeats 400000 in
theorem look0_in_f (a0 : ByteArray) (a3 a4 : Int) (h31 : 1 ≤ a3) (h32 : a3 ≤ 255) (w4 : 0 ≤ a4 ∧ a4 ≤ 255) (hm : a4 % 4 = 0) (w : World) :
    Calls Yba.prog 5 #[.string a0, .string a0, .bool false, .int .i64 a3, .int .u8 a4] w fun e w' => e = .returned (.bool true) ∧ Below w.heap.size w w' := by
  have hmm := @run_makeMap Yba.prog
  go_enter Yba.func5, Yba.ntmps5
  go_wp2_with (first | (refine wpList_put_first _ rfl (.tmp 28) (.tmp 29) (.tmp 31) 48 (Or.inl rfl) 9 20 Yba.underlying48 Yba.underlying9 (w.heap.size + 1) 0 rfl _ rfl _ rfl (two_maps w).2 ?_; intro w1 hr1 hU1 hs1) | (refine wpList_put_first _ rfl (.tmp 27) (.const (.string ⟨#[109]⟩)) (.tmp 33) 48 (Or.inr rfl) 9 20 Yba.underlying48 Yba.underlying9 w.heap.size 0 rfl _ rfl _ rfl (hU1.heap (two_maps w).1 (by simp)) ?_; intro w2 hr2 hU2 hs2))
  have hU0 : Upd w ((w.alloc (.map #[] 0)).alloc (.map #[] 0)) [] := ((Upd.refl w []).alloc _).alloc _
  have HU2 : Hid (Upd w w2 []) := (hU0.trans' hU1 (by simp)).trans' hU2 (by simp)
  have hs : w2.heap.size = w.heap.size + 1 + 1 := by rw [hs2, hs1]; simp
  have hin := hU2.heap hr1 (by simp)
  refine (peer_some _ w.heap.size (w.heap.size + 1) a0 _ _ _ _ a3 _ (box8 w2 _ hs) (look_hit _ _ _ _ _ _ ((Below.heap_alloc _ _ _ (by omega)).trans hr2)) (ta_map _ _) (look_hit _ _ _ _ _ _ ((Below.heap_alloc _ _ _ (by omega)).trans hin)) (ta_i64 _ _) ⟨by omega, by omega⟩).mono ?_
  rintro e w3 ⟨rfl, rfl⟩
  clear hr1 hr2 hU1 hU2 hin hU0 hs1 hs2
  go_wp2
  go_ret
  exact ⟨rfl, (HU2.out.alloc _).below (Nat.le_refl _) (by simp)⟩

set_option maxRecDepth 20000 in
set_option maxHeartbeats 400000 in
theorem look0_lo_f (a0 : ByteArray) (a3 a4 : Int) (h31 : a3 < 1) (w4 : 0 ≤ a4 ∧ a4 ≤ 255) (hm : a4 % 4 = 0) (w : World) :
    Calls Yba.prog 5 #[.string a0, .string a0, .bool false, .int .i64 a3, .int .u8 a4] w fun e w' => e = .returned (.bool true) ∧ Below w.heap.size w w' := by
  have hmm := @run_makeMap Yba.prog
  go_enter Yba.func5, Yba.ntmps5
  go_wp2_with (first | (refine wpList_put_first _ rfl (.tmp 28) (.tmp 29) (.tmp 31) 48 (Or.inl rfl) 9 20 Yba.underlying48 Yba.underlying9 (w.heap.size + 1) 0 rfl _ rfl _ rfl (two_maps w).2 ?_; intro w1 hr1 hU1 hs1) | (refine wpList_put_first _ rfl (.tmp 27) (.const (.string ⟨#[109]⟩)) (.tmp 33) 48 (Or.inr rfl) 9 20 Yba.underlying48 Yba.underlying9 w.heap.size 0 rfl _ rfl _ rfl (hU1.heap (two_maps w).1 (by simp)) ?_; intro w2 hr2 hU2 hs2))
  have hU0 : Upd w ((w.alloc (.map #[] 0)).alloc (.map #[] 0)) [] := ((Upd.refl w []).alloc _).alloc _
  have HU2 : Hid (Upd w w2 []) := (hU0.trans' hU1 (by simp)).trans' hU2 (by simp)
  have hs : w2.heap.size = w.heap.size + 1 + 1 := by rw [hs2, hs1]; simp
  have hin := hU2.heap hr1 (by simp)
  refine (peer_out _ w.heap.size (w.heap.size + 1) a0 _ _ _ _ a3 _ (box8 w2 _ hs) (look_hit _ _ _ _ _ _ ((Below.heap_alloc _ _ _ (by omega)).trans hr2)) (ta_map _ _) (look_hit _ _ _ _ _ _ ((Below.heap_alloc _ _ _ (by omega)).trans hin)) (ta_i64 _ _) (by omega)).mono ?_
  rintro e w3 ⟨rfl, rfl⟩
  clear hr1 hr2 hU1 hU2 hin hU0 hs1 hs2
  go_wp2
  go_ret
  exact ⟨rfl, (HU2.out.alloc _).below (Nat.le_refl _) (by simp)⟩

set_option maxRecDepth 20000 in
set_option maxHeartbeats 400000 in
theorem look0_hi_f (a0 : ByteArray) (a3 a4 : Int) (h31 : 1 ≤ a3) (h32 : 255 < a3) (w4 : 0 ≤ a4 ∧ a4 ≤ 255) (hm : a4 % 4 = 0) (w : World) :
    Calls Yba.prog 5 #[.string a0, .string a0, .bool false, .int .i64 a3, .int .u8 a4] w fun e w' => e = .returned (.bool true) ∧ Below w.heap.size w w' := by
  have hmm := @run_makeMap Yba.prog
  go_enter Yba.func5, Yba.ntmps5
  go_wp2_with (first | (refine wpList_put_first _ rfl (.tmp 28) (.tmp 29) (.tmp 31) 48 (Or.inl rfl) 9 20 Yba.underlying48 Yba.underlying9 (w.heap.size + 1) 0 rfl _ rfl _ rfl (two_maps w).2 ?_; intro w1 hr1 hU1 hs1) | (refine wpList_put_first _ rfl (.tmp 27) (.const (.string ⟨#[109]⟩)) (.tmp 33) 48 (Or.inr rfl) 9 20 Yba.underlying48 Yba.underlying9 w.heap.size 0 rfl _ rfl _ rfl (hU1.heap (two_maps w).1 (by simp)) ?_; intro w2 hr2 hU2 hs2))
  have hU0 : Upd w ((w.alloc (.map #[] 0)).alloc (.map #[] 0)) [] := ((Upd.refl w []).alloc _).alloc _
  have HU2 : Hid (Upd w w2 []) := (hU0.trans' hU1 (by simp)).trans' hU2 (by simp)
  have hs : w2.heap.size = w.heap.size + 1 + 1 := by rw [hs2, hs1]; simp
  have hin := hU2.heap hr1 (by simp)
  refine (peer_out _ w.heap.size (w.heap.size + 1) a0 _ _ _ _ a3 _ (box8 w2 _ hs) (look_hit _ _ _ _ _ _ ((Below.heap_alloc _ _ _ (by omega)).trans hr2)) (ta_map _ _) (look_hit _ _ _ _ _ _ ((Below.heap_alloc _ _ _ (by omega)).trans hin)) (ta_i64 _ _) (by omega)).mono ?_
  rintro e w3 ⟨rfl, rfl⟩
  clear hr1 hr2 hU1 hU2 hin hU0 hs1 hs2
  go_wp2
  go_ret
  exact ⟨rfl, (HU2.out.alloc _).below (Nat.le_refl _) (by simp)⟩

set_option maxRecDepth 20000 in
set_option maxHeartbeats 400000 in
theorem look1_f (a0 : ByteArray) (a3 a4 : Int) (w4 : 0 ≤ a4 ∧ a4 ≤ 255) (hm : a4 % 4 = 1) (w : World) :
    Calls Yba.prog 5 #[.string a0, .string a0, .bool false, .int .i64 a3, .int .u8 a4] w fun e w' => e = .returned (.bool true) ∧ Below w.heap.size w w' := by
  have hmm := @run_makeMap Yba.prog
  go_enter Yba.func5, Yba.ntmps5
  go_wp2_with (first | (refine wpList_put_first _ rfl (.tmp 37) (.tmp 38) (.tmp 40) 48 (Or.inl rfl) 9 20 Yba.underlying48 Yba.underlying9 (w.heap.size + 1) 0 rfl _ rfl _ rfl (two_maps w).2 ?_; intro w1 hr1 hU1 hs1) | (refine wpList_put_first _ rfl (.tmp 36) (.const (.string ⟨#[109]⟩)) (.tmp 42) 48 (Or.inr rfl) 9 20 Yba.underlying48 Yba.underlying9 w.heap.size 0 rfl _ rfl _ rfl (hU1.heap (two_maps w).1 (by simp)) ?_; intro w2 hr2 hU2 hs2))
  have hU0 : Upd w ((w.alloc (.map #[] 0)).alloc (.map #[] 0)) [] := ((Upd.refl w []).alloc _).alloc _
  have HU2 : Hid (Upd w w2 []) := (hU0.trans' hU1 (by simp)).trans' hU2 (by simp)
  have hs : w2.heap.size = w.heap.size + 1 + 1 := by rw [hs2, hs1]; simp
  have hin := hU2.heap hr1 (by simp)
  refine (peer_none _ a0 _ _ _ _ _ _ _ (box8 w2 _ hs) (Or.inr ⟨_, rfl⟩) (look_hit _ _ _ _ _ _ ((Below.heap_alloc _ _ _ (by omega)).trans hr2)) (ta_map _ _) (look_hit _ _ _ _ _ _ ((Below.heap_alloc _ _ _ (by omega)).trans hin)) (ta_int _ _)).mono ?_
  rintro e w3 ⟨rfl, rfl⟩
  clear hr1 hr2 hU1 hU2 hin hU0 hs1 hs2
  go_wp2
  go_ret
  exact ⟨rfl, (HU2.out.alloc _).below (Nat.le_refl _) (by simp)⟩

set_option maxRecDepth 20000 in
set_option maxHeartbeats 400000 in
theorem look0_miss (a0 a1 : ByteArray) (a3 a4 : Int) (hne : a1 ≠ a0) (w4 : 0 ≤ a4 ∧ a4 ≤ 255) (hm : a4 % 4 = 0) (w : World) :
    Calls Yba.prog 5 #[.string a0, .string a1, .bool false, .int .i64 a3, .int .u8 a4] w fun e w' => e = .returned (.bool true) ∧ Below w.heap.size w w' := by
  have hq : (a1.toList == a0.toList) = false := str_ne hne
  have HNE : Hid (a0 ≠ a1) := fun e => hne e.symm
  clear hne
  have hmm := @run_makeMap Yba.prog
  go_enter Yba.func5, Yba.ntmps5
  go_wp2_with (first | (refine wpList_put_first _ rfl (.tmp 28) (.tmp 29) (.tmp 31) 48 (Or.inl rfl) 9 20 Yba.underlying48 Yba.underlying9 (w.heap.size + 1) 0 rfl _ rfl _ rfl (two_maps w).2 ?_; intro w1 hr1 hU1 hs1) | (refine wpList_put_first _ rfl (.tmp 27) (.const (.string ⟨#[109]⟩)) (.tmp 33) 48 (Or.inr rfl) 9 20 Yba.underlying48 Yba.underlying9 w.heap.size 0 rfl _ rfl _ rfl (hU1.heap (two_maps w).1 (by simp)) ?_; intro w2 hr2 hU2 hs2))
  have hU0 : Upd w ((w.alloc (.map #[] 0)).alloc (.map #[] 0)) [] := ((Upd.refl w []).alloc _).alloc _
  have HU2 : Hid (Upd w w2 []) := (hU0.trans' hU1 (by simp)).trans' hU2 (by simp)
  have hs : w2.heap.size = w.heap.size + 1 + 1 := by rw [hs2, hs1]; simp
  have hin := hU2.heap hr1 (by simp)
  refine (peer_none _ a0 _ _ _ _ _ _ _ (box8 w2 _ hs) (Or.inr ⟨_, rfl⟩) (look_hit _ _ _ _ _ _ ((Below.heap_alloc _ _ _ (by omega)).trans hr2)) (ta_map _ _) (look_miss _ _ _ _ _ _ _ ((Below.heap_alloc _ _ _ (by omega)).trans hin) HNE.out) (ta_nil_int _)).mono ?_
  rintro e w3 ⟨rfl, rfl⟩
  clear hr1 hr2 hU1 hU2 hin hU0 hs1 hs2
  go_wp2
  go_ret
  exact ⟨rfl, (HU2.out.alloc _).below (Nat.le_refl _) (by simp)⟩

set_option maxRecDepth 20000 in
set_option maxHeartbeats 400000 in
theorem look1_miss (a0 a1 : ByteArray) (a3 a4 : Int) (hne : a1 ≠ a0) (w4 : 0 ≤ a4 ∧ a4 ≤ 255) (hm : a4 % 4 = 1) (w : World) :
    Calls Yba.prog 5 #[.string a0, .string a1, .bool false, .int .i64 a3, .int .u8 a4] w fun e w' => e = .returned (.bool true) ∧ Below w.heap.size w w' := by
  have hq : (a1.toList == a0.toList) = false := str_ne hne
  have HNE : Hid (a0 ≠ a1) := fun e => hne e.symm
  clear hne
  have hmm := @run_makeMap Yba.prog
  go_enter Yba.func5, Yba.ntmps5
  go_wp2_with (first | (refine wpList_put_first _ rfl (.tmp 37) (.tmp 38) (.tmp 40) 48 (Or.inl rfl) 9 20 Yba.underlying48 Yba.underlying9 (w.heap.size + 1) 0 rfl _ rfl _ rfl (two_maps w).2 ?_; intro w1 hr1 hU1 hs1) | (refine wpList_put_first _ rfl (.tmp 36) (.const (.string ⟨#[109]⟩)) (.tmp 42) 48 (Or.inr rfl) 9 20 Yba.underlying48 Yba.underlying9 w.heap.size 0 rfl _ rfl _ rfl (hU1.heap (two_maps w).1 (by simp)) ?_; intro w2 hr2 hU2 hs2))
  have hU0 : Upd w ((w.alloc (.map #[] 0)).alloc (.map #[] 0)) [] := ((Upd.refl w []).alloc _).alloc _
  have HU2 : Hid (Upd w w2 []) := (hU0.trans' hU1 (by simp)).trans' hU2 (by simp)
  have hs : w2.heap.size = w.heap.size + 1 + 1 := by rw [hs2, hs1]; simp
  have hin := hU2.heap hr1 (by simp)
  refine (peer_none _ a0 _ _ _ _ _ _ _ (box8 w2 _ hs) (Or.inr ⟨_, rfl⟩) (look_hit _ _ _ _ _ _ ((Below.heap_alloc _ _ _ (by omega)).trans hr2)) (ta_map _ _) (look_miss _ _ _ _ _ _ _ ((Below.heap_alloc _ _ _ (by omega)).trans hin) HNE.out) (ta_nil_int _)).mono ?_
  rintro e w3 ⟨rfl, rfl⟩
  clear hr1 hr2 hU1 hU2 hin hU0 hs1 hs2
  go_wp2
  go_ret
  exact ⟨rfl, (HU2.out.alloc _).below (Nat.le_refl _) (by simp)⟩

set_option maxRecDepth 20000 in
set_option maxHeartbeats 400000 in
theorem look2_t (a0 a1 : ByteArray) (a3 a4 : Int) (w4 : 0 ≤ a4 ∧ a4 ≤ 255) (hm : a4 % 4 = 2) (w : World) :
    Calls Yba.prog 5 #[.string a0, .string a1, .bool true, .int .i64 a3, .int .u8 a4] w fun e w' => e = .returned (.bool true) ∧ Below w.heap.size w w' := by
  have hmm := @run_makeMap Yba.prog
  go_enter Yba.func5, Yba.ntmps5
  go_wp2_with (refine wpList_put_first _ rfl (.tmp 45) (.const (.string ⟨#[109]⟩)) (.tmp 47) 48 (Or.inr rfl) 9 20 Yba.underlying48 Yba.underlying9 w.heap.size 0 rfl _ rfl _ rfl (heap_alloc_new w _) ?_; intro w2 hr2 hU2 hs2)
  have HU2 : Hid (Upd w w2 []) := ((Upd.refl w []).alloc _).trans' hU2 (by simp)
  have hs : w2.heap.size = w.heap.size + 1 := by rw [hs2]; simp
  refine (peer_none _ a0 _ _ _ _ _ _ _ (box8 w2 _ hs) (Or.inr ⟨_, rfl⟩) (look_hit _ _ _ _ _ _ ((Below.heap_alloc _ _ _ (by omega)).trans hr2)) (ta_str _ _) (look_nil _ _) (ta_nil_int _)).mono ?_
  rintro e w3 ⟨rfl, rfl⟩
  clear hr2 hU2 hs2
  go_wp2
  go_ret
  exact ⟨rfl, (HU2.out.alloc _).below (Nat.le_refl _) (by simp)⟩

set_option maxRecDepth 20000 in
set_option maxHeartbeats 400000 in
theorem look3_t (a0 a1 : ByteArray) (a3 a4 : Int) (w4 : 0 ≤ a4 ∧ a4 ≤ 255) (hm : a4 % 4 = 3) (w : World) :
    Calls Yba.prog 5 #[.string a0, .string a1, .bool true, .int .i64 a3, .int .u8 a4] w fun e w' => e = .returned (.bool true) ∧ Below w.heap.size w w' := by
  have hmm := @run_makeMap Yba.prog
  go_enter Yba.func5, Yba.ntmps5
  go_wp2_with fail
  have HU2 : Hid (Upd w (w.alloc (.map #[] 0)) []) := (Upd.refl w []).alloc _
  refine (peer_none _ a0 _ _ _ _ _ _ _ (box8 _ _ (by simp)) (Or.inl rfl) (look_nil _ _) (ta_nil_map _) (look_nil _ _) (ta_nil_int _)).mono ?_
  rintro e w3 ⟨rfl, rfl⟩
  go_wp2
  go_ret
  exact ⟨rfl, (HU2.out.alloc _).below (Nat.le_refl _) (by simp)⟩

set_option maxRecDepth 20000 in
set_option maxHeartbeats 400000 in
theorem look2_f (a0 a1 : ByteArray) (a3 a4 : Int) (w4 : 0 ≤ a4 ∧ a4 ≤ 255) (hm : a4 % 4 = 2) (w : World) :
    Calls Yba.prog 5 #[.string a0, .string a1, .bool false, .int .i64 a3, .int .u8 a4] w fun e w' => e = .returned (.bool true) ∧ Below w.heap.size w w' := by
  have hmm := @run_makeMap Yba.prog
  go_enter Yba.func5, Yba.ntmps5
  go_wp2_with (refine wpList_put_first _ rfl (.tmp 45) (.const (.string ⟨#[109]⟩)) (.tmp 47) 48 (Or.inr rfl) 9 20 Yba.underlying48 Yba.underlying9 w.heap.size 0 rfl _ rfl _ rfl (heap_alloc_new w _) ?_; intro w2 hr2 hU2 hs2)
  have HU2 : Hid (Upd w w2 []) := ((Upd.refl w []).alloc _).trans' hU2 (by simp)
  have hs : w2.heap.size = w.heap.size + 1 := by rw [hs2]; simp
  refine (peer_none _ a0 _ _ _ _ _ _ _ (box8 w2 _ hs) (Or.inr ⟨_, rfl⟩) (look_hit _ _ _ _ _ _ ((Below.heap_alloc _ _ _ (by omega)).trans hr2)) (ta_str _ _) (look_nil _ _) (ta_nil_int _)).mono ?_
  rintro e w3 ⟨rfl, rfl⟩
  clear hr2 hU2 hs2
  go_wp2
  go_ret
  exact ⟨rfl, (HU2.out.alloc _).below (Nat.le_refl _) (by simp)⟩

set_option maxRecDepth 20000 in
set_option maxHeartbeats 400000 in
theorem look3_f (a0 a1 : ByteArray) (a3 a4 : Int) (w4 : 0 ≤ a4 ∧ a4 ≤ 255) (hm : a4 % 4 = 3) (w : World) :
    Calls Yba.prog 5 #[.string a0, .string a1, .bool false, .int .i64 a3, .int .u8 a4] w fun e w' => e = .returned (.bool true) ∧ Below w.heap.size w w' := by
  have hmm := @run_makeMap Yba.prog
  go_enter Yba.func5, Yba.ntmps5
  go_wp2_with fail
  have HU2 : Hid (Upd w (w.alloc (.map #[] 0)) []) := (Upd.refl w []).alloc _
  refine (peer_none _ a0 _ _ _ _ _ _ _ (box8 _ _ (by simp)) (Or.inl rfl) (look_nil _ _) (ta_nil_map _) (look_nil _ _) (ta_nil_int _)).mono ?_
  rintro e w3 ⟨rfl, rfl⟩
  go_wp2
  go_ret
  exact ⟨rfl, (HU2.out.alloc _).below (Nat.le_refl _) (by simp)⟩


theorem look_walk (a0 a1 : ByteArray) (a2 : Bool) (a3 a4 : Int) (w4 : 0 ≤ a4 ∧ a4 ≤ 255) (w : World) :
    Calls Yba.prog 5 #[.string a0, .string a1, .bool a2, .int .i64 a3, .int .u8 a4] w fun e w' => e = .returned (.bool true) ∧ Below w.heap.size w w' := by
  rcases (show a4 % 4 = 0 ∨ a4 % 4 = 1 ∨ a4 % 4 = 2 ∨ a4 % 4 = 3 by omega) with hm | hm | hm | hm
  · cases a2 with
    | true =>
      rcases (show a3 < 1 ∨ (1 ≤ a3 ∧ a3 ≤ 255) ∨ (1 ≤ a3 ∧ 255 < a3) by omega) with h | ⟨h, h'⟩ | ⟨h, h'⟩
      · exact look0_lo_t a0 a1 a3 a4 h w4 hm w
      · exact look0_in_t a0 a1 a3 a4 h h' w4 hm w
      · exact look0_hi_t a0 a1 a3 a4 h h' w4 hm w
    | false =>
      by_cases e : a1 = a0
      · subst e
        rcases (show a3 < 1 ∨ (1 ≤ a3 ∧ a3 ≤ 255) ∨ (1 ≤ a3 ∧ 255 < a3) by omega) with h | ⟨h, h'⟩ | ⟨h, h'⟩
        · exact look0_lo_f a1 a3 a4 h w4 hm w
        · exact look0_in_f a1 a3 a4 h h' w4 hm w
        · exact look0_hi_f a1 a3 a4 h h' w4 hm w
      · exact look0_miss a0 a1 a3 a4 e w4 hm w
  · cases a2 with
    | true => exact look1_t a0 a1 a3 a4 w4 hm w
    | false =>
      by_cases e : a1 = a0
      · subst e; exact look1_f a1 a3 a4 w4 hm w
      · exact look1_miss a0 a1 a3 a4 e w4 hm w
  · cases a2 with
    | true => exact look2_t a0 a1 a3 a4 w4 hm w
    | false => exact look2_f a0 a1 a3 a4 w4 hm w
  · cases a2 with
    | true => exact look3_t a0 a1 a3 a4 w4 hm w
    | false => exact look3_f a0 a1 a3 a4 w4 hm w
end Go.Proofs.Ybulkjnq
