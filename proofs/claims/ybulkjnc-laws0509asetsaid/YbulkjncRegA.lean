import Derived.Test.YbulkjncArr2
import Derived.Deep.RegionHeld3
import Derived.Deep.MidRow
namespace Go.Proofs.Ybulkjnc
open Go.RowKit

theorem yields_build {P : Program} {ops : Array Oper} {S : World → Prop} {o : Oper} {a : Act} (hw : Region.wanted o (yielded ops a.tmps) = true) (t : TypeId) (parts : Array (Nat × Operand)) (ho : o.op = .build t parts)
    (cells : Array Value) (hf : P.built t (parts.map fun (i, x) => (i, a.eval x)).toList = some cells) : YieldsIf P ops S o (.agg cells) a :=
  .inl ⟨hw, fun w _ => by
    unfold execOp
    simp only [ho, Sem.run_bind, run_build w t _ cells hf, Result.andThen_ok, Sem.run_pure]⟩
theorem yields_move {P : Program} {ops : Array Oper} {S : World → Prop} {o : Oper} {a : Act} (hw : Region.wanted o (yielded ops a.tmps) = true) (x : Operand) (ho : o.op = .move x) (v : Value) (hv : a.eval x = v) : YieldsIf P ops S o v a :=
  .inl ⟨hw, fun w _ => by
    unfold execOp
    simp only [ho, hv, Sem.run_pure]⟩
theorem yields_field {P : Program} {ops : Array Oper} {S : World → Prop} {o : Oper} {a : Act} (hw : Region.wanted o (yielded ops a.tmps) = true) (s : TypeId) (x : Operand) (f : Nat) (ho : o.op = .fieldAddr s x f) (u : Value) (hu : a.eval x = u) (v : Value) (hv : ∀ w, (Instr.fieldAt s u f).run P w = .ok v w) : YieldsIf P ops S o v a :=
  .inl ⟨hw, fun w _ => by
    unfold execOp
    simp only [ho, hu, Sem.run_bind, hv w, Result.andThen_ok, Sem.run_pure]⟩
theorem yields_load1 {P : Program} {ops : Array Oper} {S : World → Prop} {o : Oper} {a : Act} (hw : Region.wanted o (yielded ops a.tmps) = true) (t : TypeId) (x : Operand) (ho : o.op = .load t x) (u : Value) (hu : a.eval x = u) (v : Value) (hv : ∀ w, S w → (Instr.loadAt t u).run P w = .ok v w) : YieldsIf P ops S o v a :=
  .inl ⟨hw, fun w hS => by
    unfold execOp
    simp only [ho, hu, Sem.run_bind, hv w hS, Result.andThen_ok, Sem.run_pure]⟩
theorem wp_call_fn {P : Program} {o : Oper} {a : Act} {w : World} {K : Act → World → Prop} {Q : Exit → Act → World → Prop} (f : FuncId) (x : Operand) (ty : TypeId)
    (ho : o.op = .call { callee := .value (.func f), args := #[x], argTypes := #[ty] }) (v : Value) (hv : a.eval x = v) (hrun : ∀ w, (callFunc f #[v]).run P w = .ok (.enter f #[v]) w)
    {C : Ending → World → Prop} (hc : Calls P f #[v] w C) (h : ∀ e w', C e w' → ∃ u, e = .returned u ∧ K (a.put o.dst u) w') : Oper.wp P o a w K Q := by
  have he : a.eval (.func f) = .func (.func f) #[] #[] := rfl
  unfold Oper.wp
  simp [execOp, ho, resolve, invoke, hv, he, Deferred.ofValue, hrun]
  refine hc.mono fun e w' hC => ?_
  obtain ⟨u, rfl, hK⟩ := h e w' hC
  exact hK
theorem wp_call_fn2 {P : Program} {o : Oper} {a : Act} {w : World} {K : Act → World → Prop} {Q : Exit → Act → World → Prop} (f : FuncId) (x y : Operand) (ty ty2 : TypeId)
    (ho : o.op = .call { callee := .value (.func f), args := #[x, y], argTypes := #[ty, ty2] }) (v v2 : Value) (hv : a.eval x = v) (hv2 : a.eval y = v2) (hrun : ∀ w, (callFunc f #[v, v2]).run P w = .ok (.enter f #[v, v2]) w)
    {C : Ending → World → Prop} (hc : Calls P f #[v, v2] w C) (h : ∀ e w', C e w' → ∃ u, e = .returned u ∧ K (a.put o.dst u) w') : Oper.wp P o a w K Q := by
  have he : a.eval (.func f) = .func (.func f) #[] #[] := rfl
  unfold Oper.wp
  simp [execOp, ho, resolve, invoke, hv, hv2, he, Deferred.ofValue, hrun]
  refine hc.mono fun e w' hC => ?_
  obtain ⟨u, rfl, hK⟩ := h e w' hC
  exact hK
theorem wp_alloc_is {P : Program} {o : Oper} {a : Act} {w : World} {K : Act → World → Prop} {Q : Exit → Act → World → Prop} (t : TypeId) (ho : o.op = .alloc t) (cs : Array Value)
    (hrun : ∀ w, (Instr.alloc t true (.tuple #[])).run P w = .ok (.pointer (some ⟨w.heap.size, 0, none⟩)) (w.alloc (.cells cs t)))
    (h : K (a.put o.dst (.pointer (some ⟨w.heap.size, 0, none⟩))) (w.alloc (.cells cs t))) : Oper.wp P o a w K Q := by
  unfold Oper.wp execOp
  simp only [ho, Sem.run_bind, hrun w, Result.andThen_ok, Sem.run_pure]
  exact h
theorem ready_alloc {P : Program} {ops : Array Oper} {E : Prop} {o : Oper} {a : Act} {w : World} {K : Act → World → Prop} {Q : Exit → Act → World → Prop} (hw : Region.wanted o (yielded ops a.tmps) = true) (t : TypeId) (ho : o.op = .alloc t) (cs : Array Value)
    (hrun : ∀ w, (Instr.alloc t true (.tuple #[])).run P w = .ok (.pointer (some ⟨w.heap.size, 0, none⟩)) (w.alloc (.cells cs t)))
    (h : K (a.put o.dst (.pointer (some ⟨w.heap.size, 0, none⟩))) (w.alloc (.cells cs t))) : if Region.wanted o (yielded ops a.tmps) = true then Oper.wp P o a w K Q else E := by
  rw [if_pos hw]
  exact wp_alloc_is t ho cs hrun h
theorem ready_store {P : Program} {ops : Array Oper} {E : Prop} {o : Oper} {a : Act} {w : World} {K : Act → World → Prop} {Q : Exit → Act → World → Prop} (hw : Region.wanted o (yielded ops a.tmps) = true) (ty : TypeId) (x y : Operand) (ho : o.op = .store ty x y)
    (g : Nat) (cells : Array Value) (hx : a.eval x = .pointer (some ⟨g, 0, none⟩)) (hy : a.eval y = .agg cells)
    (t : TypeId) (old : Array Value) (hg : w.heap[g]? = some (.cells old t (0, 0))) (hi : (P.info? ty).map (·.size) = some cells.size)
    (hold : old.size = cells.size) (h1 : cells.all (·.oneCell') = true)
    (h : K (a.put o.dst undef) (w.setRow g cells)) : if Region.wanted o (yielded ops a.tmps) = true then Oper.wp P o a w K Q else E := by
  rw [if_pos hw]
  exact wp_store_row ty x y ho g cells hx hy t old hg hi hold h1 h

/-- What region 25 looks at. -/
def Held (zb sb : Nat) (T : Int) (del : Bool) (w : World) : Prop :=
  w.rangeAt zb 0 [.int .u64 0, .int .i64 0, .pointer none] ∧ w.cell? ⟨sb, 2, none⟩ = some (.int .i64 T) ∧ w.cell? ⟨sb, 3, none⟩ = some (.bool del)
theorem Held.upd {zb sb : Nat} {T : Int} {del : Bool} {w w1 : World} (h : Held zb sb T del w) (hU : Upd w w1 []) : Held zb sb T del w1 :=
  ⟨fun j v hv => upd_cell hU (h.1 j v hv), upd_cell hU h.2.1, upd_cell hU h.2.2⟩
theorem Held.setRow {zb sb : Nat} {T : Int} {del : Bool} {w w0 : World} {g : Nat} (h : Held zb sb T del w) (cs : Array Value) (h1 : zb < w0.heap.size) (h2 : sb < w0.heap.size) (hg : w0.heap.size ≤ g) : Held zb sb T del (w.setRow g cs) := by
  have k1 : zb ≠ g := by omega
  have k2 : sb ≠ g := by omega
  exact ⟨fun j v hv => (World.cell?_of_block (setRow_other w g _ cs k1)).trans (h.1 j v hv), (World.cell?_of_block (setRow_other w g _ cs k2)).trans h.2.1, (World.cell?_of_block (setRow_other w g _ cs k2)).trans h.2.2⟩
end Go.Proofs.Ybulkjnc
