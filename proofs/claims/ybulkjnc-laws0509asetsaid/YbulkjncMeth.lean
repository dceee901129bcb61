import Derived.Test.YbulkjncQu
import Derived.Handy
namespace Go.Proofs.Ybulkjnc
open Go.RowKit
theorem meth_less0 (f : Nat) (a : Addr) (w : World) : Sem.run Yba.prog (method (f + 1) 60 (.pointer (some a)) "Less") w = Sem.run Yba.prog (do pure (50, ← loadVar 48 a)) w := by kernel_rfl
theorem meth_swap0 (f : Nat) (a : Addr) (w : World) : Sem.run Yba.prog (method (f + 1) 60 (.pointer (some a)) "Swap") w = Sem.run Yba.prog (do pure (51, ← loadVar 48 a)) w := by kernel_rfl
theorem meth_len0 (f : Nat) (a : Addr) (w : World) : Sem.run Yba.prog (method (f + 1) 60 (.pointer (some a)) "Len") w = Sem.run Yba.prog (do pure (49, ← loadVar 48 a)) w := by kernel_rfl
theorem meth_less (S : Nat) (v : Value) (w : World) (h : w.cell? ⟨S, 1, none⟩ = some v) : Sem.run Yba.prog (method 208 60 (.pointer (some ⟨S, 1, none⟩)) "Less") w = .ok (50, v) w := by
  rw [meth_less0 207]
  simp [go_sem, h]
theorem meth_swap (S : Nat) (v : Value) (w : World) (h : w.cell? ⟨S, 1, none⟩ = some v) : Sem.run Yba.prog (method 208 60 (.pointer (some ⟨S, 1, none⟩)) "Swap") w = .ok (51, v) w := by
  rw [meth_swap0 207]
  simp [go_sem, h]
theorem meth_len (S : Nat) (v : Value) (w : World) (h : w.cell? ⟨S, 1, none⟩ = some v) : Sem.run Yba.prog (method 208 60 (.pointer (some ⟨S, 1, none⟩)) "Len") w = .ok (49, v) w := by
  rw [meth_len0 207]
  simp [go_sem, h]
end Go.Proofs.Ybulkjnc
