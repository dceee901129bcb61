import Derived.Test.YbulkjncLess
import Derived.BigRegion
namespace Go.Proofs.Ybulkjnc
open Go.RowKit

set_option maxHeartbeats 400000 in
theorem swap_walk (g n cap i j bi bj : Nat) (w : World) (hi : i < n) (hj : j < n) (hne : ¬ i = j) (hgb : ¬ g = bi) (hgb2 : ¬ g = bj) (hbb : ¬ bi = bj)
    (ci : w.cell? ⟨g, i, none⟩ = some (.pointer (some ⟨bi, 0, none⟩))) (cj : w.cell? ⟨g, j, none⟩ = some (.pointer (some ⟨bj, 0, none⟩)))
    (fi : w.frozen? ⟨g, i, none⟩ = false) (fj : w.frozen? ⟨g, j, none⟩ = false)
    (ai : ∃ v, w.cell? ⟨bi, 8, none⟩ = some v) (aj : ∃ v, w.cell? ⟨bj, 8, none⟩ = some v) (fai : w.frozen? ⟨bi, 8, none⟩ = false) (faj : w.frozen? ⟨bj, 8, none⟩ = false) :
    Calls Yba.prog 51 #[.slice (some ⟨g, 0, none⟩) n cap, .int .i64 i, .int .i64 j] w fun e w' => e = .returned (.tuple #[]) ∧
      ∃ m, w' = ((((w.setCell ⟨g, i, none⟩ (.pointer (some ⟨bj, 0, none⟩))).setCell ⟨g, j, none⟩ (.pointer (some ⟨bi, 0, none⟩))).setCell ⟨bj, 8, none⟩ (.int .i64 i)).setCell ⟨bi, 8, none⟩ (.int .i64 j)).drewN m := by
  have hi' : (i : Int) < (n : Int) := by omega
  have hj' : (j : Int) < (n : Int) := by omega
  obtain ⟨vi, ai⟩ := ai
  obtain ⟨vj, aj⟩ := aj
  have hne' : ¬ j = i := fun e => hne e.symm
  have h1 : ¬ bi = g := fun e => hgb e.symm
  have h2 : ¬ bj = g := fun e => hgb2 e.symm
  have h3 : ¬ bj = bi := fun e => hbb e.symm
  go_enter Yba.func51, Yba.ntmps51
  go_wp2
  go_region
  go_wp2
  go_region
  go_end0
  exact ⟨rfl, 2, rfl⟩
end Go.Proofs.Ybulkjnc
