import Derived.Test.YbulkjjwFmtRm
import Derived.Laws.BytesArg
namespace Go.Proofs.YbulkjjwFmt
open Go.RowKit

theorem conv_some (w : World) (a : Addr) (len cap : Nat) (zs : List Int) (hz : zs.length = len) (hc : ∀ j u, (byteVals zs)[j]? = some u → w.cell? (a.add j) = some u) :
    (convert 22 9 (.slice (some a) len cap)).run Ybaf.prog w = .ok (.string (strOfNums zs)) w := by
  have hl := run_loadCells_list (P := Ybaf.prog) w a (byteVals zs) hc
  rw [byteVals_length, hz] at hl
  rw [run_convert_bytes_string w 22 9 5 _ len cap Ybaf.underlying22 Ybaf.underlying5 Ybaf.underlying9, run_bytesToString w _ len cap zs hl, foldl_push_bytes]
  simp [strOfNums, ByteArray.empty, ByteArray.emptyWithCapacity]
  rfl
theorem conv_pay {B : Nat} {w : World} {ao : Option Addr} {len cap : Nat} {zs : List Int} (h : PayIs B w ao len cap zs) : (convert 22 9 (.slice ao len cap)).run Ybaf.prog w = .ok (.string (strOfNums zs)) w := by
  obtain ⟨h1, h2, h3⟩ := h
  cases ao with
  | none =>
    obtain ⟨rfl, rfl⟩ := h2 rfl
    obtain rfl : zs = [] := List.eq_nil_of_length_eq_zero h1
    exact run_convert_bytes_nil w 22 5 Ybaf.underlying22 Ybaf.underlying5 0 0 9 Ybaf.underlying9
  | some a => exact conv_some w a len cap zs h1 fun j u hu => (h3 a rfl j u hu).2

set_option maxHeartbeats 400000 in
theorem equal_walk (v1 v2 : Value) (s : ByteArray) (w : World) (h1 : (convert 22 9 v1).run Ybaf.prog w = .ok (.string s) w) (h2 : (convert 22 9 v2).run Ybaf.prog w = .ok (.string s) w) :
    Calls Ybaf.prog 6 #[v1, v2] w fun e w' => e = .returned (.bool true) ∧ w' = w := by
  go_enter Ybaf.func6, Ybaf.ntmps6
  go_wp2
  go_ret
  exact ⟨by simp, rfl⟩

set_option maxHeartbeats 400000 in
theorem law_long (ka : Bool) (id : Int) (ao : Option Addr) (len cap : Nat) (w : World) (hlen : 1024 < len) (hm : len ≤ 9223372036854775807) :
    Calls Ybaf.prog 3 #[.bool ka, .int .u8 id, .slice ao len cap] w fun e w' => e = .returned (.bool true) ∧ Below w.heap.size w w' := by
  go_enter Ybaf.func3, Ybaf.ntmps3
  go_wp2
  go_ret
  exact ⟨rfl, Below.refl _ _⟩

set_option maxHeartbeats 400000 in
theorem law_yes (id : Int) (ao : Option Addr) (len cap : Nat) (w : World) (hlen : len ≤ 1024) :
    Calls Ybaf.prog 3 #[.bool true, .int .u8 id, .slice ao len cap] w fun e w' => e = .returned (.bool true) ∧ Below w.heap.size w w' := by
  go_enter Ybaf.func3, Ybaf.ntmps3
  go_wp2_with fail
  have hb0 := heap_alloc_new w (.cells #[.int .i64 0, .slice none 0 0, .nilIface] 27)
  have hU0 : Upd w (w.alloc (.cells #[.int .i64 0, .slice none 0 0, .nilIface] 27)) [] := (Upd.refl w []).alloc _
  refine (writeMsg_yes w.heap.size id ao len cap [] _ hlen hb0).mono ?_
  rintro e w1 ⟨rfl, ⟨g, cap', hg, hnc, hrow, hbw⟩, hU1⟩
  have hg' : w.heap.size + 1 ≤ g := by simpa using hg
  have hnc4 : 4 ≤ cap' := hnc
  have HU1 : Hid (Upd w w1 []) := hU0.trans' hU1 (by simp)
  have hbw4 : w1.heap[w.heap.size]? = some (.cells #[.int .i64 1, .slice (some ⟨g, 0, none⟩) 4 cap', .nilIface] 27 (0, 0)) := hbw
  have hrow4 : RowOf w1 g [0, 0, 0, 0] := hrow
  have hgl : g < w1.heap.size := by obtain ⟨_, h, _⟩ := hrow4; exact lt_of_heap h
  have c1 := cell_of (j := 1) hbw4 rfl
  have hl1 := lt_of_heap hbw4
  have HBW := hid hbw4
  have HROW := hid hrow4
  clear hb0 hU0 hU1 hrow hbw hg hnc hbw4 hrow4
  go_wp2_with fail
  have hU2 : Upd w1 (w1.alloc (.cells #[.slice (some ⟨g, 0, none⟩) 4 cap', .int .i64 0] 34)) [] := (Upd.refl w1 []).alloc _
  refine (readMsg_yes w1.heap.size g cap' (1 + len) _ (heap_alloc_new w1 _) (HROW.out.of_heap (hU2.block g hgl (by simp))) hnc4).mono ?_
  rintro e w2 ⟨rfl, hb2, hU3⟩
  have hbw2 := hU3.heap (hU2.heap HBW.out (by simp)) (by simp; omega)
  have HU3 : Hid (Upd w w2 []) := HU1.out.trans' (hU2.trans hU3) (by have := HU1.out.size; simp; omega)
  clear c1
  have c1 := cell_of (j := 1) hbw2 rfl
  have d1 := cell_of (j := 1) hb2 rfl
  have hl2 := lt_of_heap hb2
  have hl3 := lt_of_heap hbw2
  clear hU2 hU3 hb2 hbw2 HBW HROW
  go_wp2
  go_quiet (fail)
  go_wp2
  go_ret
  exact ⟨rfl, ((HU3.out.alloc _).drewN _).below (Nat.le_refl _) (by simp)⟩

set_option maxHeartbeats 400000 in
theorem law_no (id : Int) (ao : Option Addr) (len cap : Nat) (zs : List Int) (w : World) (hlen : len ≤ 1024) (hp : PayIs w.heap.size w ao len cap zs) :
    Calls Ybaf.prog 3 #[.bool false, .int .u8 id, .slice ao len cap] w fun e w' => e = .returned (.bool true) ∧ Below w.heap.size w w' := by
  have hz : zs.length = len := hp.1
  have HML : Hid ((msg false id zs).length = 5 + len) := by show _ = _; simp [msg, hz]; omega
  have HZ := hid hz
  have HP := hid hp
  clear hp hz
  go_enter Ybaf.func3, Ybaf.ntmps3
  go_wp2_with fail
  have hb0 := heap_alloc_new w (.cells #[.int .i64 0, .slice none 0 0, .nilIface] 27)
  have hU0 : Upd w (w.alloc (.cells #[.int .i64 0, .slice none 0 0, .nilIface] 27)) [] := (Upd.refl w []).alloc _
  refine (writeMsg_no w.heap.size w.heap.size id ao len cap zs _ hlen (Nat.le_refl _) hb0 (HP.out.carry (hU0.below (Nat.le_refl _) (by simp)))).mono ?_
  rintro e w1 ⟨rfl, ⟨g, cap', hg, hnc, hrow, hbw⟩, hU1⟩
  rw [HML.out] at hnc hbw
  have hg' : w.heap.size + 1 ≤ g := by simpa using hg
  have HU1 : Hid (Upd w w1 []) := hU0.trans' hU1 (by simp)
  have hgl : g < w1.heap.size := by obtain ⟨_, h, _⟩ := hrow; exact lt_of_heap h
  have c1 := cell_of (j := 1) hbw rfl
  have hl1 := lt_of_heap hbw
  have HBW := hid hbw
  have HROW := hid hrow
  clear hb0 hU0 hU1 hrow hbw hg
  go_wp2_with fail
  have hU2 : Upd w1 (w1.alloc (.cells #[.slice (some ⟨g, 0, none⟩) (5 + len) cap', .int .i64 0] 34)) [] := (Upd.refl w1 []).alloc _
  refine (readMsg_no w1.heap.size g cap' len id zs HZ.out hlen _ (heap_alloc_new w1 _) (HROW.out.of_heap (hU2.block g hgl (by simp))) hnc).mono ?_
  rintro e w2 ⟨gp, rfl, hgp, hpay, hb2, hU3⟩
  have hbw2 := hU3.heap (hU2.heap HBW.out (by simp)) (by simp; omega)
  have HU3 : Hid (Upd w w2 []) := HU1.out.trans' (hU2.trans hU3) (by have := HU1.out.size; simp; omega)
  have hgl2 : gp < w2.heap.size := by obtain ⟨_, h, _⟩ := hpay; exact lt_of_heap h
  clear c1
  have c1 := cell_of (j := 1) hbw2 rfl
  have d1 := cell_of (j := 1) hb2 rfl
  have hl2 := lt_of_heap hb2
  have hl3 := lt_of_heap hbw2
  have HPAY := hid hpay
  clear hU2 hU3 hb2 hbw2 HBW HROW hpay hgp
  go_wp2
  go_quiet (fail)
  go_wp2_with fail
  have hU5 : Upd w ((w2.alloc (.cells #[.bool false, .int .u8 id, .slice (some ⟨gp, 0, none⟩) len len] 31)).drewN nq) [] := (HU3.out.alloc _).drewN _
  have hBel := hU5.below (Nat.le_refl _) (by simp)
  have hrow5 : RowOf ((w2.alloc (.cells #[.bool false, .int .u8 id, .slice (some ⟨gp, 0, none⟩) len len] 31)).drewN nq) gp zs := HPAY.out.of_heap (Below.heap_alloc _ _ _ hgl2)
  refine (equal_walk _ _ (strOfNums zs) _ (conv_some _ _ len len zs HZ.out hrow5.cell) (conv_pay (HP.out.carry hBel))).mono ?_
  rintro e w3 ⟨rfl, rfl⟩
  clear hU5 hrow5 HPAY HP
  go_wp2
  go_ret
  exact ⟨rfl, hBel⟩
end Go.Proofs.YbulkjjwFmt
