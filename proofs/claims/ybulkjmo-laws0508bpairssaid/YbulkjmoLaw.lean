import Derived.Test.YbulkjmoIds
import Derived.Deep.QuietTactic
import Derived.BigQuiet
namespace Go.Proofs.Ybulkjmo
open Go.RowKit

set_option maxHeartbeats 400000 in
theorem pairs_long (key : ByteArray) (a : Option Addr) (len cap : Nat) (w : World) (hlen : 4096 < len) (hm : len ≤ 9223372036854775807) :
    Calls Yba.prog 3 #[.string key, .slice a len cap] w fun e w' => e = .returned (.bool true) ∧ Below w.heap.size w w' := by
  go_enter Yba.func3, Yba.ntmps3
  go_wp2
  go_ret
  exact ⟨rfl, Below.refl _ _⟩

set_option maxHeartbeats 400000 in
theorem pairs_walk (key : ByteArray) (a : Option Addr) (len cap : Nat) (ss : List ByteArray) (w : World) (hlen : len ≤ 4096)
    (hc : ∀ i, i < len → ∃ b off, a = some ⟨b, off, none⟩ ∧ w.cell? ⟨b, off + i, none⟩ = some (.string (ss.getD i ByteArray.empty))) :
    Calls Yba.prog 3 #[.string key, .slice a len cap] w fun e w' => e = .returned (.bool true) ∧ Below w.heap.size w w' := by
  have C := ids_walk key a len cap ss w hlen hc
  go_enter Yba.func3, Yba.ntmps3
  go_wp2_with (go_at_call 5; refine C.mono ?_; rintro e w1 ⟨rfl, hbel, hgot⟩; clear C)
  go_loopw [6] (fun i wr => ∃ (k : Nat), k ≤ len ∧ i = .int .i64 k ∧ ∃ n, wr = w1.drewN n) (fun i _ => len - (intOf i).toNat)
  case atStart => exact ⟨0, Nat.zero_le _, rfl, 0, rfl⟩
  case round =>
    obtain ⟨k, hk, rfl, n, rfl⟩ := hrel
    by_cases hlt : k < len
    · obtain ⟨b, off, rfl, hcell⟩ := hc k hlt
      have hcr : w1.cell? ⟨b, off + k, none⟩ = some (.string (ss.getD k ByteArray.empty)) := (hbel.cell (World.block_lt_of_cell? w _ hcell)).trans hcell
      obtain ⟨hg0, hg1⟩ := hgot k hlt
      clear hc hgot hcell
      go_wp2
      go_quiet (fail)
      go_wp2
      go_roundw
      case rel => exact ⟨k + 1, by omega, by go_num, _, rfl⟩
      case measure => simp [intOf]; omega
    · go_wp2
      go_ret
      exact ⟨rfl, below_drewN hbel n⟩
end Go.Proofs.Ybulkjmo
