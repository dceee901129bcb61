import Derived.Test.YbulkjncBits
namespace Go.Proofs.Ybulkjnc
open Go.RowKit

theorem wrap32_id (x : Int) (h0 : -2147483648 ≤ x) (h1 : x < 2147483648) : wrap32 x = x := by unfold wrap32; omega
theorem and_mask' (N : Int) (h0 : 0 ≤ N) (h1 : N < 1000000000) : bits .and .u64 N 1073741823 = N := by
  have := and_mask N.toNat (by omega)
  rwa [Int.toNat_of_nonneg h0] at this
theorem or_zero' (N : Int) (h0 : 0 ≤ N) (h1 : N < 1000000000) : bits .or .u64 (bits .andNot .u64 0 1073741823) N = N := by
  have := or_zero N.toNat (by omega)
  rwa [Int.toNat_of_nonneg h0] at this
theorem and_top' (N : Int) (h0 : 0 ≤ N) (h1 : N < 1000000000) : (bits .and .u64 N 9223372036854775808 != 0) = false := by
  have := and_top N.toNat (by omega)
  rwa [Int.toNat_of_nonneg h0] at this
theorem and_and_top' (M N : Int) (g0 : 0 ≤ M) (g1 : M < 1000000000) (h0 : 0 ≤ N) (h1 : N < 1000000000) : (bits .and .u64 (bits .and .u64 M N) 9223372036854775808 != 0) = false := by
  have := and_and_top M.toNat N.toNat (by omega) (by omega)
  rwa [Int.toNat_of_nonneg h0, Int.toNat_of_nonneg g0] at this

set_option maxHeartbeats 400000 in
theorem nsec_walk (B : Nat) (N : Int) (w : World) (h0 : 0 ≤ N) (h1 : N < 1000000000) (hc : w.cell? ⟨B, 0, none⟩ = some (.int .u64 N)) :
    Calls Yba.prog 15 #[.pointer (some ⟨B, 0, none⟩)] w fun e w' => e = .returned (.int .i32 N) ∧ w' = w := by
  have hb := and_mask' N h0 h1
  have hw := wrap32_id N (by omega) (by omega)
  go_enter Yba.func15, Yba.ntmps15
  go_wp2
  go_ret
  exact ⟨rfl, rfl⟩

set_option maxHeartbeats 400000 in
theorem sec_walk (B : Nat) (N s : Int) (w : World) (h0 : 0 ≤ N) (h1 : N < 1000000000) (hc : w.cell? ⟨B, 0, none⟩ = some (.int .u64 N)) (hc1 : w.cell? ⟨B, 1, none⟩ = some (.int .i64 s)) :
    Calls Yba.prog 21 #[.pointer (some ⟨B, 0, none⟩)] w fun e w' => e = .returned (.int .i64 s) ∧ w' = w := by
  have hb := and_top' N h0 h1
  go_enter Yba.func21, Yba.ntmps21
  go_wp2
  go_ret
  exact ⟨rfl, rfl⟩

set_option maxHeartbeats 400000 in
theorem addSec_walk (B : Nat) (N d : Int) (w : World) (h0 : 0 ≤ N) (h1 : N < 1000000000) (hd : -10000000000 ≤ d) (hd2 : d ≤ 10000000000) (hc : w.cell? ⟨B, 0, none⟩ = some (.int .u64 N)) (hc1 : w.cell? ⟨B, 1, none⟩ = some (.int .i64 0)) (hf : w.frozen? ⟨B, 1, none⟩ = false) :
    Calls Yba.prog 16 #[.pointer (some ⟨B, 0, none⟩), .int .i64 d] w fun e w' => e = .returned (.tuple #[]) ∧ w' = w.setCell ⟨B, 1, none⟩ (.int .i64 d) := by
  have hb := and_top' N h0 h1
  by_cases hp : 0 < d
  · go_enter Yba.func16, Yba.ntmps16
    go_wp2
    go_end0
    exact ⟨rfl, rfl⟩
  · go_enter Yba.func16, Yba.ntmps16
    go_wp2
    go_end0
    exact ⟨rfl, rfl⟩
end Go.Proofs.Ybulkjnc
