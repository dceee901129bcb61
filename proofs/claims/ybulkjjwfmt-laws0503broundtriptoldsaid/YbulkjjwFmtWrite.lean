import Derived.Test.YbulkjjwFmtBin
namespace Go.Proofs.YbulkjjwFmt
open Go.RowKit

theorem Ybaf.info5 : (Ybaf.prog.info? 5).map (fun i => (i.zero, i.size, i.bytes)) = some (some (.int .u8 0), 1, 1) := by kernel_rfl

/-- The bytes 'zs' as cells. -/
def byteVals (zs : List Int) : List Value := zs.map (Value.int .u8)
theorem byteVals_length (zs : List Int) : (byteVals zs).length = zs.length := by simp [byteVals]
theorem byteVals_one (zs : List Int) : ∀ u ∈ byteVals zs, u.oneCell' = true := by
  intro u hu
  simp only [byteVals, List.mem_map] at hu
  obtain ⟨z, _, rfl⟩ := hu
  rfl

/-- Block g is a row of bytes that begins with 'zs'. -/
def RowOf (w : World) (g : Nat) (zs : List Int) : Prop := ∃ cur : Array Value, w.heap[g]? = some (.cells cur 5 (0, 0)) ∧ cur.toList.take zs.length = byteVals zs

theorem RowOf.cell {w : World} {g : Nat} {zs : List Int} (h : RowOf w g zs) : ∀ j u, (byteVals zs)[j]? = some u → w.cell? ((⟨g, 0, none⟩ : Addr).add j) = some u := by
  intro j u hu
  obtain ⟨cur, hg, ht⟩ := h
  have hadd : (⟨g, 0, none⟩ : Addr).add j = ⟨g, j, none⟩ := by unfold Addr.add; split <;> simp_all
  rw [hadd]
  refine cell_of hg ?_
  rw [← ht, List.getElem?_take] at hu
  split at hu
  · simpa using hu
  · cases hu

theorem RowOf.of_heap {w w' : World} {g : Nat} {zs : List Int} (h : RowOf w g zs) (he : w'.heap[g]? = w.heap[g]?) : RowOf w' g zs := by
  obtain ⟨cur, hg, ht⟩ := h
  exact ⟨cur, he.trans hg, ht⟩
theorem RowOf.setOther {w : World} {g b j : Nat} {v : Value} {zs : List Int} (h : RowOf w g zs) (hne : g ≠ b) : RowOf (w.setCell ⟨b, j, none⟩ v) g zs :=
  h.of_heap (Below.heap_setCell _ _ _ _ hne)
theorem own_shape {w : World} {base : Nat} {v : Value} {zs : List Int} {n : Nat} (h : w.ownsRow base 5 1 v n (byteVals zs)) (hn : 0 < n) :
    ∃ g cap, base ≤ g ∧ n ≤ cap ∧ v = .slice (some ⟨g, 0, none⟩) n cap ∧ RowOf w g zs := by
  obtain ⟨h1, h2⟩ := h
  rcases h2 with ⟨_, h0⟩ | ⟨g, cap, cur, hv, hb, hg, hnc, _, _, ht⟩
  · omega
  · rw [byteVals_length] at h1
    exact ⟨g, cap, hb, hnc, hv, cur, hg, by rw [h1]; exact ht⟩

set_option maxHeartbeats 400000 in
theorem write_walk (Bw gb cap : Nat) (zs : List Int) (w : World) (hpos : 0 < zs.length) (hlim : zs.length ≤ 100000) (hne : gb ≠ Bw)
    (hw : w.heap[Bw]? = some (.cells #[.int .i64 0, .slice none 0 0, .nilIface] 27 (0, 0))) (hb : RowOf w gb zs) :
    Calls Ybaf.prog 41 #[.pointer (some ⟨Bw, 0, none⟩), .slice (some ⟨gb, 0, none⟩) zs.length cap] w fun e w' => e = .returned (.tuple #[.int .i64 zs.length, .nilIface]) ∧
      (∃ g cap', w.heap.size ≤ g ∧ zs.length ≤ cap' ∧ RowOf w' g zs ∧ w'.heap[Bw]? = some (.cells #[.int .i64 1, .slice (some ⟨g, 0, none⟩) zs.length cap', .nilIface] 27 (0, 0))) ∧ Upd w w' [Bw] := by
  obtain ⟨i0, hi, hz0, hz1, hz2⟩ := info_parts Ybaf.info5
  have e0 := cell_of (j := 0) hw rfl
  have e1 := cell_of (j := 1) hw rfl
  have e2 := cell_of (j := 2) hw rfl
  have f0 := free_of hw 0
  have f1 := free_of hw 1
  have hlt := lt_of_heap hw
  have HW := hid hw
  have HB := hid hb
  clear hw hb
  go_enter Ybaf.func41, Ybaf.ntmps41
  go_wp2_with (at_builtin; refine wpList_append_own _ rfl (.tmp 17) (.tmp 18) 22 rfl w.heap.size 5 i0 (.int .u8 0) 1 1 Ybaf.underlying22 hi hz0 hz1 hz2 rfl (by decide) _ _ _ rfl (World.ownsRow_nil _ _ _ _) ⟨gb, 0, none⟩ zs.length cap (byteVals zs) rfl ?c0 ?c1 ?c2 ?c3 ?c4 ?c5 ?_)
  case c0 => rw [byteVals_length]; omega
  case c1 => exact (HB.out.setOther hne).cell
  case c2 => exact byteVals_one zs
  case c3 => unfold maxLen; omega
  case c4 => omega
  case c5 => simp
  intro v' w1 hown hgr _
  obtain ⟨g, cap', hgB, hnc, hv, hrow⟩ := own_shape hown hpos
  have hw1 : w1.heap[Bw]? = some (.cells #[.int .i64 1, .slice none 0 0, .nilIface] 27 (0, 0)) :=
    (hgr.block Bw (by simpa [World.setCell] using hlt) (by simp [Value.ownBlock])).trans (heap_set HW.out)
  have hU : Upd w w1 [Bw] := ((Upd.refl w [Bw]).setCell _ _ (Or.inl (by simp))).grown hgr (by simp [Value.ownBlock])
  clear hown hgr
  rw [hv]
  have e1' := cell_of (j := 1) hw1 rfl
  have e2' := cell_of (j := 2) hw1 rfl
  have f1' := free_of hw1 1
  have HW1 := hid hw1
  have HR := hid hrow
  clear hw1 hrow HW e0 e1 e2 f0 f1
  go_wp2
  go_quiet (fail)
  go_wp2
  go_ret2
  have hgb : g ≠ Bw := by omega
  refine ⟨rfl, ⟨g, cap', hgB, hnc, HR.out.setOther hgb, heap_set HW1.out⟩, (hU.setCell _ _ (Or.inl (by simp))).drewN _⟩

theorem write_any (Bw gb cap n : Nat) (zs : List Int) (w : World) (hn : zs.length = n) (hpos : 0 < n) (hlim : n ≤ 100000) (hne : gb ≠ Bw)
    (hw : w.heap[Bw]? = some (.cells #[.int .i64 0, .slice none 0 0, .nilIface] 27 (0, 0))) (hb : RowOf w gb zs) :
    Calls Ybaf.prog 41 #[.pointer (some ⟨Bw, 0, none⟩), .slice (some ⟨gb, 0, none⟩) n cap] w fun e w' => e = .returned (.tuple #[.int .i64 n, .nilIface]) ∧
      (∃ g cap', w.heap.size ≤ g ∧ n ≤ cap' ∧ RowOf w' g zs ∧ w'.heap[Bw]? = some (.cells #[.int .i64 1, .slice (some ⟨g, 0, none⟩) n cap', .nilIface] 27 (0, 0))) ∧ Upd w w' [Bw] := by
  subst hn
  exact write_walk Bw gb cap zs w hpos hlim hne hw hb
theorem row_of_owns {w : World} {base g n cap : Nat} {zs : List Int} (h : w.ownsRow base 5 1 (.slice (some ⟨g, 0, none⟩) n cap) n (byteVals zs)) : RowOf w g zs := by
  obtain ⟨h1, h2⟩ := h
  rcases h2 with ⟨hv, _⟩ | ⟨g', cap', cur, hv, _, hg, _, _, _, ht⟩
  · cases hv
  · cases hv
    rw [byteVals_length] at h1
    exact ⟨cur, hg, by rw [h1]; exact ht⟩
end Go.Proofs.YbulkjjwFmt
