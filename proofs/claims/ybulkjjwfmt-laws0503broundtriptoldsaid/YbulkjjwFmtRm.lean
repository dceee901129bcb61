import Derived.Test.YbulkjjwFmtPaced
namespace Go.Proofs.YbulkjjwFmt
open Go.RowKit

set_option maxHeartbeats 400000 in
theorem readMsg_yes (Br gs capS : Nat) (mx : Int) (w : World)
    (hr : w.heap[Br]? = some (.cells #[.slice (some ⟨gs, 0, none⟩) 4 capS, .int .i64 0] 34 (0, 0))) (hs : RowOf w gs [0, 0, 0, 0]) (hcap : 4 ≤ capS) :
    Calls Ybaf.prog 5 #[.iface 32 (.pointer (some ⟨Br, 0, none⟩)), .int .i64 mx] w fun e w' => e = .returned (.tuple #[.agg #[.bool true, .int .u8 0, .slice none 0 0], .nilIface]) ∧
      w'.heap[Br]? = some (.cells #[.slice (some ⟨gs, 0, none⟩) 4 capS, .int .i64 4] 34 (0, 0)) ∧ Upd w w' [Br] := by
  have hlt := lt_of_heap hr
  have hltg : gs < w.heap.size := by obtain ⟨_, h, _⟩ := hs; exact lt_of_heap h
  have HR := hid hr
  have HS := hid hs
  clear hr hs
  go_enter Ybaf.func5, Ybaf.ntmps5
  go_wp2_with fail
  have hU0 : Upd w (w.alloc (.cells #[.bool false, .int .u8 0, .slice none 0 0] 31)) [] := (Upd.refl w []).alloc _
  refine (paced_yes Br gs capS mx _ (hU0.heap HR.out (by simp)) (HS.out.of_heap (hU0.block gs hltg (by simp))) hcap).mono ?_
  rintro e w1 ⟨rfl, hb1, hU1⟩
  have hr1 := hU1.heap (heap_alloc_new w _) (by simp; omega)
  have HU1 : Hid (Upd w w1 [Br]) := (hU0.mono (by simp)).trans' hU1 (by simp)
  have r0 := cell_of (j := 0) hr1 rfl
  have r1 := cell_of (j := 1) hr1 rfl
  have r2 := cell_of (j := 2) hr1 rfl
  have f0 := free_of hr1 0
  have f1 := free_of hr1 1
  have f2 := free_of hr1 2
  have HB1 := hid hb1
  clear hb1 hr1 hU1 hU0
  go_wp2
  refine bodyPost_ret (v := .tuple #[.agg #[.bool true, .int .u8 0, .slice none 0 0], .nilIface]) (by simp [results, Ybaf.results5, go_sem, r0, r1, r2]) rfl ⟨rfl, ?_, ?_⟩
  · repeat rw [Below.heap_setCell _ _ _ _ (by simp; omega)]
    exact HB1.out
  · exact ((HU1.out.setCell _ _ (Or.inr (Nat.le_refl _))).setCell _ _ (Or.inr (Nat.le_refl _))).setCell _ _ (Or.inr (Nat.le_refl _))

set_option maxHeartbeats 400000 in
theorem readMsg_no (Br gs capS len : Nat) (id : Int) (zs : List Int) (hz : zs.length = len) (hlen : len ≤ 1024) (w : World)
    (hr : w.heap[Br]? = some (.cells #[.slice (some ⟨gs, 0, none⟩) (5 + len) capS, .int .i64 0] 34 (0, 0))) (hs : RowOf w gs (msg false id zs)) (hcap : 5 + len ≤ capS) :
    Calls Ybaf.prog 5 #[.iface 32 (.pointer (some ⟨Br, 0, none⟩)), .int .i64 (1 + len)] w fun e w' => ∃ gp, e = .returned (.tuple #[.agg #[.bool false, .int .u8 id, .slice (some ⟨gp, 0, none⟩) len len], .nilIface]) ∧
      w.heap.size ≤ gp ∧ RowOf w' gp zs ∧ w'.heap[Br]? = some (.cells #[.slice (some ⟨gs, 0, none⟩) (5 + len) capS, .int .i64 (5 + len : Nat)] 34 (0, 0)) ∧ Upd w w' [Br] := by
  have hlt := lt_of_heap hr
  have hltg : gs < w.heap.size := by obtain ⟨_, h, _⟩ := hs; exact lt_of_heap h
  have HR := hid hr
  have HS := hid hs
  have HZ := hid hz
  clear hr hs hz
  go_enter Ybaf.func5, Ybaf.ntmps5
  go_wp2_with fail
  have hU0 : Upd w (w.alloc (.cells #[.bool false, .int .u8 0, .slice none 0 0] 31)) [] := (Upd.refl w []).alloc _
  refine (paced_no Br gs capS len id zs HZ.out hlen _ (hU0.heap HR.out (by simp)) (HS.out.of_heap (hU0.block gs hltg (by simp))) hcap).mono ?_
  rintro e w1 ⟨gp, rfl, hgp, hrow, hb1, hU1⟩
  have hgp' : w.heap.size + 1 ≤ gp := by simpa using hgp
  have hr1 := hU1.heap (heap_alloc_new w _) (by simp; omega)
  have HU1 : Hid (Upd w w1 [Br]) := (hU0.mono (by simp)).trans' hU1 (by simp)
  have r0 := cell_of (j := 0) hr1 rfl
  have r1 := cell_of (j := 1) hr1 rfl
  have r2 := cell_of (j := 2) hr1 rfl
  have f0 := free_of hr1 0
  have f1 := free_of hr1 1
  have f2 := free_of hr1 2
  have HB1 := hid hb1
  have HW1 := hid hrow
  clear hb1 hr1 hU1 hU0 hrow hgp
  go_wp2
  refine bodyPost_ret (v := .tuple #[.agg #[.bool false, .int .u8 id, .slice (some ⟨gp, 0, none⟩) len len], .nilIface]) (by simp [results, Ybaf.results5, go_sem, r0, r1, r2]) rfl ⟨gp, rfl, by omega, ?_, ?_, ?_⟩
  · exact ((HW1.out.setOther (by omega)).setOther (by omega)).setOther (by omega)
  · repeat rw [Below.heap_setCell _ _ _ _ (by simp; omega)]
    exact HB1.out
  · exact ((HU1.out.setCell _ _ (Or.inr (Nat.le_refl _))).setCell _ _ (Or.inr (Nat.le_refl _))).setCell _ _ (Or.inr (Nat.le_refl _))
end Go.Proofs.YbulkjjwFmt
