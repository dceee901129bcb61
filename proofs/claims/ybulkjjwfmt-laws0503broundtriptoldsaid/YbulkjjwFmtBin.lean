import Derived.Test.YbulkjjwFmtBase
import Derived.Lib.EndianBits
namespace Go.Proofs.YbulkjjwFmt
open Go.RowKit

theorem ret_u32 {a b : Int} (h : a = b) : Ending.returned (.int .u32 a) = .returned (.int .u32 b) := by rw [h]
theorem or32 (x : Nat) (hx : x ≤ 1025) : bits BinOp.or IntKind.u32 (bits BinOp.or IntKind.u32 (bits BinOp.or IntKind.u32 ((x : Int) % 256) ((x : Int) / 256 * 256)) 0) 0 = (x : Int) := by
  have a1 : bits BinOp.or IntKind.u32 ((x : Int) % 256) ((x : Int) / 256 * 256) = (x : Int) % 256 + (x : Int) / 256 * 256 := u32_or8 _ _ (by omega) (by omega) (by omega) (by omega) (by omega)
  have a2 : bits BinOp.or IntKind.u32 ((x : Int) % 256 + (x : Int) / 256 * 256) 0 = (x : Int) % 256 + (x : Int) / 256 * 256 + 0 := u32_or16 _ _ (by omega) (by omega) (by omega) (by omega) (by omega)
  have a3 : bits BinOp.or IntKind.u32 ((x : Int) % 256 + (x : Int) / 256 * 256 + 0) 0 = (x : Int) % 256 + (x : Int) / 256 * 256 + 0 + 0 := u32_or24 _ _ (by omega) (by omega) (by omega) (by omega) (by omega)
  rw [a1, a2, a3]
  omega

set_option maxHeartbeats 400000 in
theorem put32 (g n cap : Nat) (x : Nat) (X : Int) (hX : X = (x : Int)) (c0 c1 c2 c3 : Value) (rest : List Value) (w : World) (hx : x ≤ 1025) (hn : 4 ≤ n)
    (hg : w.heap[g]? = some (.cells (c0 :: c1 :: c2 :: c3 :: rest).toArray 5 (0, 0))) :
    Calls Ybaf.prog 7 #[.agg #[], .slice (some ⟨g, 0, none⟩) n cap, .int .u32 X] w fun e w' => e = .returned (.tuple #[]) ∧
      w'.heap[g]? = some (.cells (.int .u8 0 :: .int .u8 0 :: .int .u8 (x / 256 : Nat) :: .int .u8 (x % 256 : Nat) :: rest).toArray 5 (0, 0)) ∧ Upd w w' [g] := by
  subst hX
  have e0 := cell_of (j := 0) hg (by simp; rfl)
  have e1 := cell_of (j := 1) hg (by simp; rfl)
  have e2 := cell_of (j := 2) hg (by simp; rfl)
  have e3 := cell_of (j := 3) hg (by simp; rfl)
  have f0 := free_of hg 0
  have f1 := free_of hg 1
  have f2 := free_of hg 2
  have f3 := free_of hg 3
  have hlt := lt_of_heap hg
  have HG : Hid (w.heap[g]? = some (.cells (c0 :: c1 :: c2 :: c3 :: rest).toArray 5 (0, 0))) := hg
  clear hg
  go_enter Ybaf.func7, Ybaf.ntmps7
  go_wp2
  go_end0
  refine ⟨rfl, ?_, (((((Upd.refl w [g]).setCell _ _ (Or.inl (by simp))).setCell _ _ (Or.inl (by simp))).setCell _ _ (Or.inl (by simp))).setCell _ _ (Or.inl (by simp))).alloc _⟩
  have q0 : (x : Int) / 16777216 = 0 := by omega
  have q1 : (x : Int) / 65536 = 0 := by omega
  rw [Below.heap_alloc _ _ _ (by simpa [World.setCell] using hlt), q0, q1]
  have h4 := heap_set (j := 3) (v := .int .u8 (x % 256 : Int)) (heap_set (j := 2) (v := .int .u8 (x / 256 : Int)) (heap_set (j := 1) (v := .int .u8 0) (heap_set (j := 0) (v := .int .u8 0) HG.out)))
  rw [h4]
  simp

set_option maxHeartbeats 400000 in
theorem get32 (g o n cap : Nat) (x : Nat) (w : World) (hx : x ≤ 1025) (hn : 4 ≤ n)
    (c0 : w.cell? ⟨g, o, none⟩ = some (.int .u8 0)) (c1 : w.cell? ⟨g, o + 1, none⟩ = some (.int .u8 0)) (c2 : w.cell? ⟨g, o + 2, none⟩ = some (.int .u8 (x / 256 : Nat))) (c3 : w.cell? ⟨g, o + 3, none⟩ = some (.int .u8 (x % 256 : Nat))) :
    Calls Ybaf.prog 10 #[.agg #[], .slice (some ⟨g, o, none⟩) n cap] w fun e w' => e = .returned (.int .u32 x) ∧ Upd w w' [] := by
  have hlt := World.block_lt_of_cell? w _ c0
  have b3 : (3 : Int) < (n : Int) := by omega
  have b2 : (2 : Int) < (n : Int) := by omega
  have b1 : (1 : Int) < (n : Int) := by omega
  have b0 : 0 < n := by omega
  have b0' : (0 : Int) < (n : Int) := by omega
  go_enter Ybaf.func10, Ybaf.ntmps10
  go_wp2
  go_quiet (fail)
  go_wp2
  go_ret
  refine ⟨?_, ((Upd.refl w []).alloc _).drewN _⟩
  exact ret_u32 (or32 x hx)
end Go.Proofs.YbulkjjwFmt
