import Derived.Test.YbulkjmoRows
import Derived.WalkKit
import Derived.WalkSpells
import Derived.WalkLawsBesides
namespace Go.Proofs.Ybulkjmo
open Go.RowKit

theorem Yba.info26 : (Yba.prog.info? 26).map (fun i => (i.zero, i.size, i.bytes)) = some (some (.agg #[.string ByteArray.empty, .string ByteArray.empty]), 2, 32) := by kernel_rfl

theorem pairs_step (key : ByteArray) (ss : List ByteArray) (k len : Nat) (xs : List Value) (hlt : k < len) (hl : xs.length = len * 2)
    (hxs : ∀ j, j < k → xs[2 * j]? = some (.string key) ∧ xs[2 * j + 1]? = some (.string (ss.getD j ByteArray.empty))) :
    ∀ j, j < k + 1 → ((xs.set (k * 2) (.string key)).set (k * 2 + 1) (.string (ss[k]?.getD ByteArray.empty)))[2 * j]? = some (.string key) ∧
      ((xs.set (k * 2) (.string key)).set (k * 2 + 1) (.string (ss[k]?.getD ByteArray.empty)))[2 * j + 1]? = some (.string (ss.getD j ByteArray.empty)) := by
  intro j hj
  simp only [List.getElem?_set, List.length_set]
  by_cases e : j = k
  · subst e
    constructor
    · rw [if_neg (by omega), if_pos (by omega), if_pos (by omega)]
    · rw [if_pos (by omega), if_pos (by omega)]; simp
  · have := hxs j (by omega)
    rw [if_neg (by omega), if_neg (by omega), if_neg (by omega), if_neg (by omega)]
    exact this

set_option maxHeartbeats 400000 in
theorem ids_walk (key : ByteArray) (a : Option Addr) (len cap : Nat) (ss : List ByteArray) (w : World) (hlen : len ≤ 4096)
    (hc : ∀ i, i < len → ∃ b off, a = some ⟨b, off, none⟩ ∧ w.cell? ⟨b, off + i, none⟩ = some (.string (ss.getD i ByteArray.empty))) :
    Calls Yba.prog 5 #[.string key, .slice a len cap] w fun e w' => e = .returned (.slice (some ⟨w.heap.size, 0, none⟩) len len) ∧ Below w.heap.size w w' ∧
      (∀ j, j < len → w'.cell? ⟨w.heap.size, j * 2, none⟩ = some (.string key) ∧ w'.cell? ⟨w.heap.size, j * 2 + 1, none⟩ = some (.string (ss.getD j ByteArray.empty))) := by
  obtain ⟨i0, hi, hz0, hz1, hz2⟩ := info_parts Yba.info26
  go_enter Yba.func5, Yba.ntmps5
  go_wp2_with (at_make; refine wpList_make_full _ rfl (.tmp 9) (.tmp 9) 23 rfl w.heap.size 26 i0 _ 2 Yba.underlying23 hi hz0 hz1 .i64 .i64 len len len rfl rfl rfl rfl (by rw [hz2]; omega) (by unfold maxLen; omega) (Nat.le_refl _) ?_; intro w1 hown hgr)
  go_loopw [13] (fun i wr => ∃ (k : Nat) (xs : List Value), k ≤ len ∧ i = .int .i64 k ∧ wr.ownsRow w.heap.size 26 2 (.slice (some ⟨w.heap.size, 0, none⟩) len len) len xs ∧
      (∀ j, j < k → xs[2 * j]? = some (.string key) ∧ xs[2 * j + 1]? = some (.string (ss.getD j ByteArray.empty))) ∧ Below w.heap.size w wr) (fun i _ => len - (intOf i).toNat)
  case atStart => exact ⟨0, _, Nat.zero_le _, rfl, hown, (fun j hj => absurd hj (Nat.not_lt_zero _)), (Below.refl _ _).grown hgr (Nat.le_refl _) (by intro k hk; cases hk)⟩
  case round =>
    obtain ⟨k, xs, hk, rfl, hown', hxs, hbel⟩ := hrel
    by_cases hlt : k < len
    · obtain ⟨b, off, rfl, hcell⟩ := hc k hlt
      have hcr : wr.cell? ⟨b, off + k, none⟩ = some (.string (ss.getD k ByteArray.empty)) := (hbel.cell (World.block_lt_of_cell? w _ hcell)).trans hcell
      obtain ⟨v0, hv0⟩ : ∃ v, wr.cell? ⟨w.heap.size, k * 2, none⟩ = some v := ⟨_, (hown'.cellAt (k * 2) (by omega)).trans (List.getElem?_eq_getElem (by rw [hown'.1]; omega))⟩
      obtain ⟨v1, hv1⟩ : ∃ v, wr.cell? ⟨w.heap.size, k * 2 + 1, none⟩ = some v := ⟨_, (hown'.cellAt (k * 2 + 1) (by omega)).trans (List.getElem?_eq_getElem (by rw [hown'.1]; omega))⟩
      have hf0 := hown'.frozenAt (k * 2)
      have hf1 := hown'.frozenAt (k * 2 + 1)
      have H1 : Hid (wr.ownsRow w.heap.size 26 2 (Value.slice (some ⟨w.heap.size, 0, none⟩) len len) len xs) := hown'
      clear hown' hcell hc hown hgr
      go_wp2
      go_roundw
      case rel => exact ⟨k + 1, _, by omega, by go_num, (((H1.out.stored (k * 2) _).1).stored (k * 2 + 1) _).1, pairs_step key ss k len xs hlt H1.out.1 hxs, (hbel.setCell (Nat.le_refl _) _).setCell (Nat.le_refl _) _⟩
      case measure => simp [intOf]; omega
    · have hkl : k = len := by omega
      have H1 : Hid (wr.ownsRow w.heap.size 26 2 (Value.slice (some ⟨w.heap.size, 0, none⟩) len len) len xs) := hown'
      have H2 : Hid (k = len) := hkl
      clear hown' hc hown hgr hkl
      go_wp2
      go_ret
      refine ⟨rfl, hbel, fun j hj => ?_⟩
      have hx := hxs j (by rw [H2.out]; exact hj)
      rw [H1.out.cellAt (j * 2) (by omega), H1.out.cellAt (j * 2 + 1) (by omega), Nat.mul_comm]
      exact hx
end Go.Proofs.Ybulkjmo
