import Derived.Test.YbulkjjwFmtFull
namespace Go.Proofs.YbulkjjwFmt
open Go.RowKit

theorem two_boxes (w : World) (c1 c2 : Array Value) (t1 t2 : TypeId) :
    ((w.alloc (.cells c1 t1)).alloc (.cells c2 t2)).heap[w.heap.size]? = some (.cells c1 t1 (0, 0)) ∧ ((w.alloc (.cells c1 t1)).alloc (.cells c2 t2)).heap[w.heap.size + 1]? = some (.cells c2 t2 (0, 0)) ∧ Upd w ((w.alloc (.cells c1 t1)).alloc (.cells c2 t2)) [] := by
  refine ⟨?_, ?_, ((Upd.refl w []).alloc _).alloc _⟩
  · rw [Below.heap_alloc _ _ _ (by simp)]; exact heap_alloc_new w _
  · have := heap_alloc_new (w.alloc (.cells c1 t1)) (.cells c2 t2)
    simpa using this

set_option maxHeartbeats 400000 in
theorem paced_yes (Br gs capS : Nat) (mx : Int) (w : World)
    (hr : w.heap[Br]? = some (.cells #[.slice (some ⟨gs, 0, none⟩) 4 capS, .int .i64 0] 34 (0, 0))) (hs : RowOf w gs [0, 0, 0, 0]) (hcap : 4 ≤ capS) :
    Calls Ybaf.prog 8 #[.iface 32 (.pointer (some ⟨Br, 0, none⟩)), .int .i64 mx, .nilFunc] w fun e w' => e = .returned (.tuple #[.agg #[.bool true, .int .u8 0, .slice none 0 0], .nilIface]) ∧
      w'.heap[Br]? = some (.cells #[.slice (some ⟨gs, 0, none⟩) 4 capS, .int .i64 4] 34 (0, 0)) ∧ Upd w w' [Br] := by
  have hlt := lt_of_heap hr
  have hltg : gs < w.heap.size := by obtain ⟨_, h, _⟩ := hs; exact lt_of_heap h
  have HR := hid hr
  have HS := hid hs
  clear hr hs
  go_enter Ybaf.func8, Ybaf.ntmps8
  go_wp2_with fail
  obtain ⟨b1, b2, hU0⟩ := two_boxes w #[Value.bool false, Value.int IntKind.u8 0, Value.slice none 0 0] #[Value.int IntKind.u8 0, Value.int IntKind.u8 0, Value.int IntKind.u8 0, Value.int IntKind.u8 0, Value.int IntKind.u8 0] 31 52
  refine (full_any Br gs 4 capS 0 [0, 0, 0, 0] (w.heap.size + 1) 0 4 5 [.int .u8 0, .int .u8 0, .int .u8 0, .int .u8 0, .int .u8 0] [.int .u8 0, .int .u8 0, .int .u8 0, .int .u8 0, .int .u8 0] 52 0 4 4 rfl rfl rfl _ rfl (hU0.heap HR.out (by simp)) (HS.out.of_heap (hU0.block gs hltg (by simp))) rfl hcap b2 (by omega) (by omega) (by decide) (by omega)).mono ?_
  rintro e w1 ⟨rfl, hb1, hd1, hU1⟩
  have hr1 := hU1.heap b1 (by simp; omega)
  have hU : Upd w w1 [Br] := (hU0.mono (by simp)).trans' hU1 (by simp)
  have z0 := cell_of (j := 0) hd1 rfl
  have z1 := cell_of (j := 1) hd1 rfl
  have z2 := cell_of (j := 2) hd1 rfl
  have z3 := cell_of (j := 3) hd1 rfl
  have r0 := cell_of (j := 0) hr1 rfl
  have r1 := cell_of (j := 1) hr1 rfl
  have r2 := cell_of (j := 2) hr1 rfl
  have f0 := free_of hr1 0
  have f1 := free_of hr1 1
  have f2 := free_of hr1 2
  have hl1 := lt_of_heap hr1
  have HB1 := hid hb1
  have HR1 := hid hr1
  clear hb1 hd1 hr1 b1 b2 hU0 hU1
  go_wp2
  go_region_with (go_at_call 10; refine (get32 (w.heap.size + 1) 0 4 5 0 _ (by omega) (by omega) (by exact z0) (by exact z1) (by exact z2) (by exact z3)).mono ?_; rintro e w2 ⟨rfl, hU2⟩)
  have hr2 := hU2.heap (show w1.drew.heap[_]? = _ from HR1.out) (by simp)
  have hb2 := hU2.heap (show w1.drew.heap[_]? = _ from HB1.out) (by simp)
  have HU2 : Hid (Upd w w2 [Br]) := (hU.drew).trans' hU2 (by simp)
  clear r0 r1 r2 f0 f1 f2 z0 z1 z2 z3 hU
  have r0 := cell_of (j := 0) hr2 rfl
  have r1 := cell_of (j := 1) hr2 rfl
  have r2 := cell_of (j := 2) hr2 rfl
  have f0 := free_of hr2 0
  have f1 := free_of hr2 1
  have f2 := free_of hr2 2
  have HR2 := hid hr2
  have HB2 := hid hb2
  clear hr2 hb2 hU2
  go_wp2
  refine bodyPost_ret (v := .tuple #[.agg #[.bool true, .int .u8 0, .slice none 0 0], .nilIface]) (by simp [results, Ybaf.results8, go_sem, r0, r1, r2]) rfl ⟨rfl, ?_, ?_⟩
  · repeat rw [Below.heap_setCell _ _ _ _ (by simp; omega)]
    exact HB2.out
  · exact ((HU2.out.setCell _ _ (Or.inr (Nat.le_refl _))).setCell _ _ (Or.inr (Nat.le_refl _))).setCell _ _ (Or.inr (Nat.le_refl _))

theorem neq_nilFunc (w : World) : (binOp .neq 51 .nilFunc .nilFunc).run Ybaf.prog w = .ok (.bool false) w := by kernel_rfl

theorem take_pay (zs : List Int) : (byteVals zs).toArray.toList.take zs.length = byteVals zs := by
  rw [List.toList_toArray]
  exact List.take_of_length_le (by rw [byteVals_length]; exact Nat.le_refl _)
theorem splice_pay (id : Int) (zs : List Int) (len : Nat) (hz : zs.length = len) : splice (List.replicate len (Value.int .u8 0)) 0 (byteVals (((msg false id zs).drop 5).take len)) = byteVals zs := by
  have h : ((msg false id zs).drop 5).take len = zs := by simp only [msg, Bool.false_eq_true, if_false, List.drop_succ_cons, List.drop_zero]; exact List.take_of_length_le (by omega)
  rw [h]
  simp [splice, byteVals, hz]

set_option maxHeartbeats 1000000 in
theorem paced_no (Br gs capS len : Nat) (id : Int) (zs : List Int) (hz : zs.length = len) (hlen : len ≤ 1024) (w : World)
    (hr : w.heap[Br]? = some (.cells #[.slice (some ⟨gs, 0, none⟩) (5 + len) capS, .int .i64 0] 34 (0, 0))) (hs : RowOf w gs (msg false id zs)) (hcap : 5 + len ≤ capS) :
    Calls Ybaf.prog 8 #[.iface 32 (.pointer (some ⟨Br, 0, none⟩)), .int .i64 (1 + len), .nilFunc] w fun e w' => ∃ gp, e = .returned (.tuple #[.agg #[.bool false, .int .u8 id, .slice (some ⟨gp, 0, none⟩) len len], .nilIface]) ∧
      w.heap.size ≤ gp ∧ RowOf w' gp zs ∧ w'.heap[Br]? = some (.cells #[.slice (some ⟨gs, 0, none⟩) (5 + len) capS, .int .i64 (5 + len : Nat)] 34 (0, 0)) ∧ Upd w w' [Br] := by
  obtain ⟨i0, hi, hz0, hz1, hz2⟩ := info_parts Ybaf.info5
  have hml : (msg false id zs).length = 5 + len := by simp [msg, hz]; omega
  have HML := hid hml
  have HZ := hid hz
  have hlt := lt_of_heap hr
  have hltg : gs < w.heap.size := by obtain ⟨_, h, _⟩ := hs; exact lt_of_heap h
  have hgb : ¬ gs = Br := by
    intro e
    obtain ⟨cur, h, _⟩ := hs
    rw [e, hr] at h
    simp at h
  have HR := hid hr
  have HS := hid hs
  clear hr hs hml hz
  have hnf := neq_nilFunc
  go_enter Ybaf.func8, Ybaf.ntmps8
  go_wp2_with fail
  obtain ⟨b1, b2, hU0⟩ := two_boxes w #[Value.bool false, Value.int IntKind.u8 0, Value.slice none 0 0] #[Value.int IntKind.u8 0, Value.int IntKind.u8 0, Value.int IntKind.u8 0, Value.int IntKind.u8 0, Value.int IntKind.u8 0] 31 52
  refine (full_any Br gs (5 + len) capS 0 (msg false id zs) (w.heap.size + 1) 0 4 5 [.int .u8 0, .int .u8 0, .int .u8 0, .int .u8 0, .int .u8 0] [.int .u8 0, .int .u8 0, .int .u8 ((1 + len) / 256 : Nat), .int .u8 ((1 + len) % 256 : Nat), .int .u8 0] 52 0 4 4 rfl rfl rfl _ (by simp [msg, splice, byteVals, HZ.out]) (hU0.heap HR.out (by simp)) (HS.out.of_heap (hU0.block gs hltg (by simp))) HML.out hcap b2 (by omega) (by omega) (by simp) (by omega)).mono ?_
  rintro e w1 ⟨rfl, hb1, hd1, hU1⟩
  have hr1 := hU1.heap b1 (by simp; omega)
  have hU : Upd w w1 [Br] := (hU0.mono (by simp)).trans' hU1 (by simp)
  have hs1 : w1.heap[gs]? = w.heap[gs]? := hU.block gs hltg (by simpa using hgb)
  have z0 := cell_of (j := 0) hd1 rfl
  have z1 := cell_of (j := 1) hd1 rfl
  have z2 := cell_of (j := 2) hd1 rfl
  have z3 := cell_of (j := 3) hd1 rfl
  have hl1 := lt_of_heap hr1
  have HB1 := hid hb1
  have HR1 := hid hr1
  have HD1 := hid hd1
  have HS1 := hid hs1
  clear hb1 hd1 hr1 b1 b2 hU0 hU1 hs1
  go_wp2
  go_region_with (go_at_call 10; refine (get32 (w.heap.size + 1) 0 4 5 (1 + len) _ (by omega) (by omega) (by exact z0) (by exact z1) (by exact z2) (by exact z3)).mono ?_; rintro e w2 ⟨rfl, hU2⟩)
  have hr2 := hU2.heap (show w1.drew.heap[_]? = _ from HR1.out) (by simp)
  have hb2 := hU2.heap (show w1.drew.heap[_]? = _ from HB1.out) (by simp)
  have hd2 := hU2.heap (show w1.drew.heap[_]? = _ from HD1.out) (by simp)
  have HU2 : Hid (Upd w w2 [Br]) := (hU.drew).trans' hU2 (by simp)
  clear z0 z1 z2 z3 hU
  have HR2 := hid hr2
  have HB2 := hid hb2
  have HD2 := hid hd2
  clear hr2 hb2 hU2 hd2
  go_wp2_with fail
  have hs2 : w2.heap[gs]? = w.heap[gs]? := HU2.out.block gs hltg (by simpa using hgb)
  refine (full_any Br gs (5 + len) capS 4 (msg false id zs) (w.heap.size + 1) 4 1 1 [.int .u8 0, .int .u8 0, .int .u8 ((1 + len) / 256 : Nat), .int .u8 ((1 + len) % 256 : Nat), .int .u8 0] [.int .u8 0, .int .u8 0, .int .u8 ((1 + len) / 256 : Nat), .int .u8 ((1 + len) % 256 : Nat), .int .u8 id] 52 4 5 1 rfl rfl rfl _ (by simp [msg, splice, byteVals]) HB2.out (HS.out.of_heap hs2) HML.out hcap HD2.out (by omega) (by omega) (by simp) (by omega)).mono ?_
  rintro e w3 ⟨rfl, hb3, hd3, hU3⟩
  have hr3 := hU3.heap HR2.out (by simp; omega)
  have HU3 : Hid (Upd w w3 [Br]) := HU2.out.trans' hU3 (by simp)
  have hl3 := lt_of_heap hr3
  have hl3' := lt_of_heap hd3
  have z4 := cell_of (j := 4) hd3 rfl
  have HR3 := hid hr3
  have HB3 := hid hb3
  clear hs2 hb3 hd3 hr3 hU3 HR2 HB2 HD2 HU2
  go_wp2_with (at_make; refine wpList_make_cap _ rfl (.tmp 78) (.tmp 78) 22 rfl 5 i0 (.int .u8 0) Ybaf.underlying22 hi hz0 hz1 rfl .i64 .i64 _ _ len len rfl rfl (by omega) (by omega) (by omega) (by rw [hz2]; omega) (by omega) ?_; intro w4 hg4 hU4 hs4; have hbx := box_kept hU4; have q0 := cell_of (j := 0) hbx rfl; have q1 := cell_of (j := 1) hbx rfl; have q2 := cell_of (j := 2) hbx rfl; have f2 := free_of hbx 2; have HBX := hid hbx; clear hbx)
  have hg4' : w4.heap[w3.heap.size + 1]? = some (.cells (List.replicate len (.int .u8 0)).toArray 5 (0, 0)) := by simpa using hg4
  have hA : Upd w3 w4 [] := ((Upd.refl w3 []).alloc _).trans' hU4 (by simp)
  have hU5 : Upd w3 (w4.setCell ⟨w3.heap.size, 2, none⟩ (.slice (some ⟨w3.heap.size + 1, 0, none⟩) len len)) [] := hA.setCell _ _ (Or.inr (Nat.le_refl _))
  have hM5 : (w4.setCell ⟨w3.heap.size, 2, none⟩ (.slice (some ⟨w3.heap.size + 1, 0, none⟩) len len)).heap[w3.heap.size]? = some (.cells #[.bool false, .int .u8 id, .slice (some ⟨w3.heap.size + 1, 0, none⟩) len len] 31 (0, 0)) := heap_set HBX.out
  have hg5 : (w4.setCell ⟨w3.heap.size, 2, none⟩ (.slice (some ⟨w3.heap.size + 1, 0, none⟩) len len)).heap[w3.heap.size + 1]? = some (.cells (List.replicate len (.int .u8 0)).toArray 5 (0, 0)) := (Below.heap_setCell _ _ _ _ (by simp)).trans hg4'
  have hr5 := hU5.heap HR3.out (by simp)
  have hb5 := hU5.heap HB3.out (by simp)
  have hs5 := HS.out.of_heap (((HU3.out.trans hU5).block gs hltg (by simpa using hgb)))
  refine (full_any Br gs (5 + len) capS 5 (msg false id zs) (w3.heap.size + 1) 0 len len (List.replicate len (.int .u8 0)) (byteVals zs) 5 5 (5 + len : Nat) len rfl rfl rfl _ (splice_pay id zs len HZ.out) hb5 hs5 HML.out hcap hg5 (by omega) (by omega) (by simp) (by have := HU3.out.size; omega)).mono ?_
  rintro e w6 ⟨rfl, hb6, hd6, hU6⟩
  have hr6 := hU6.heap hr5 (by simp; omega)
  have hM6 := hU6.heap hM5 (by simp; have := HU3.out.size; omega)
  have HU6 : Hid (Upd w w6 [Br]) := ((HU3.out.trans hU5).mono (by simp)).trans' hU6 (by have := HU3.out.size; simp; omega)
  have hlen3 : w.heap.size ≤ w3.heap.size := HU3.out.size
  clear q0 q1 q2 f2 hg4 hg4' hU4 hs4 hA hU5 hM5 hg5 hr5 hb5 hs5 hU6 HR3 HB3 HU3 HBX z4
  have q0 := cell_of (j := 0) hM6 rfl
  have q1 := cell_of (j := 1) hM6 rfl
  have q2 := cell_of (j := 2) hM6 rfl
  have r0 := cell_of (j := 0) hr6 rfl
  have r1 := cell_of (j := 1) hr6 rfl
  have r2 := cell_of (j := 2) hr6 rfl
  have f0 := free_of hr6 0
  have f1 := free_of hr6 1
  have f2 := free_of hr6 2
  have HB6 := hid hb6
  have HD6 := hid hd6
  clear hb6 hd6 hr6 hM6
  go_wp2
  refine bodyPost_ret (v := .tuple #[.agg #[.bool false, .int .u8 id, .slice (some ⟨w3.heap.size + 1, 0, none⟩) len len], .nilIface]) (by simp [results, Ybaf.results8, go_sem, r0, r1, r2]) rfl ⟨w3.heap.size + 1, rfl, by omega, ?_, ?_, ?_⟩
  · exact ⟨_, by repeat rw [Below.heap_setCell _ _ _ _ (by simp; omega)]
                 exact HD6.out, take_pay zs⟩
  · repeat rw [Below.heap_setCell _ _ _ _ (by simp; omega)]
    exact HB6.out
  · exact ((HU6.out.setCell _ _ (Or.inr (Nat.le_refl _))).setCell _ _ (Or.inr (Nat.le_refl _))).setCell _ _ (Or.inr (Nat.le_refl _))
end Go.Proofs.YbulkjjwFmt
