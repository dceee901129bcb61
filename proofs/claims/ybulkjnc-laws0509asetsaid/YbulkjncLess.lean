import Derived.Test.YbulkjncCmp
import Derived.Deep.RegionHeld3
namespace Go.Proofs.Ybulkjnc
open Go.RowKit

/-- The two numbers of the time that lies d nanoseconds behind the zero time. -/
def nsOf (d : Int) : Int := d % 1000000000
def scOf (d : Int) : Int := d / 1000000000
theorem upd_cell {w w' : World} (hU : Upd w w' []) {p : Addr} {v : Value} (h : w.cell? p = some v) : w'.cell? p = some v :=
  (World.cell?_of_block (hU.block _ (World.block_lt_of_cell? w _ h) (by simp))).trans h
theorem before_is (a b : Int) (w : World) : Calls Yba.prog 13 #[.agg #[.int .u64 (nsOf a), .int .i64 (scOf a), .pointer none], .agg #[.int .u64 (nsOf b), .int .i64 (scOf b), .pointer none]] w fun e w' => e = .returned (.bool (decide (a < b))) ∧ Upd w w' [] := by
  by_cases h : a < b
  · rw [decide_eq_true h]; exact before_yes a b w h
  · rw [decide_eq_false h]; exact before_no a b w (by omega)

set_option maxHeartbeats 400000 in
theorem less_walk (g n cap i j bi bj : Nat) (di dj : Int) (w : World) (hi : i < n) (hj : j < n)
    (ci : w.cell? ⟨g, i, none⟩ = some (.pointer (some ⟨bi, 0, none⟩))) (cj : w.cell? ⟨g, j, none⟩ = some (.pointer (some ⟨bj, 0, none⟩)))
    (i0 : w.cell? ⟨bi, 2, none⟩ = some (.int .u64 (nsOf di))) (i1 : w.cell? ⟨bi, 3, none⟩ = some (.int .i64 (scOf di))) (i2 : w.cell? ⟨bi, 4, none⟩ = some (.pointer none))
    (j0 : w.cell? ⟨bj, 2, none⟩ = some (.int .u64 (nsOf dj))) (j1 : w.cell? ⟨bj, 3, none⟩ = some (.int .i64 (scOf dj))) (j2 : w.cell? ⟨bj, 4, none⟩ = some (.pointer none)) :
    Calls Yba.prog 50 #[.slice (some ⟨g, 0, none⟩) n cap, .int .i64 i, .int .i64 j] w fun e w' => e = .returned (.bool (decide (di < dj))) ∧ Upd w w' [] := by
  have hi' : (i : Int) < (n : Int) := by omega
  have hj' : (j : Int) < (n : Int) := by omega
  go_enter Yba.func50, Yba.ntmps50
  go_wp2
  go_region_held3 (fun w' => w'.cell? ⟨g, i, none⟩ = some (.pointer (some ⟨bi, 0, none⟩)) ∧ w'.cell? ⟨g, j, none⟩ = some (.pointer (some ⟨bj, 0, none⟩)) ∧ w'.cell? ⟨bi, 2, none⟩ = some (.int .u64 (nsOf di)) ∧ w'.cell? ⟨bi, 3, none⟩ = some (.int .i64 (scOf di)) ∧ w'.cell? ⟨bi, 4, none⟩ = some (.pointer none) ∧ w'.cell? ⟨bj, 2, none⟩ = some (.int .u64 (nsOf dj)) ∧ w'.cell? ⟨bj, 3, none⟩ = some (.int .i64 (scOf dj)) ∧ w'.cell? ⟨bj, 4, none⟩ = some (.pointer none))
    (first | exact ⟨ci, cj, i0, i1, i2, j0, j1, j2⟩ | exact ⟨upd_cell hU ci, upd_cell hU cj, upd_cell hU i0, upd_cell hU i1, upd_cell hU i2, upd_cell hU j0, upd_cell hU j1, upd_cell hU j2⟩)
    (first | (go_at_call 13; refine (before_is di dj _).mono ?_; rintro e w1 ⟨rfl, hU⟩))
  go_wp2
  go_ret
  exact ⟨rfl, (((Upd.refl w []).drew).trans hU)⟩
end Go.Proofs.Ybulkjnc
