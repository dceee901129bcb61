import Derived.Test.YbulkjnqEntry
import Derived.Deep.RegionHeld3
namespace Go.Proofs.Ybulkjnq
open Go.RowKit

theorem yields_build {P : Program} {ops : Array Oper} {S : World → Prop} {o : Oper} {a : Act} (hw : Region.wanted o (yielded ops a.tmps) = true) (t : TypeId) (parts : Array (Nat × Operand)) (ho : o.op = .build t parts)
    (cells : Array Value) (hf : P.built t (parts.map fun (i, x) => (i, a.eval x)).toList = some cells) : YieldsIf P ops S o (.agg cells) a :=
  .inl ⟨hw, fun w _ => by
    unfold execOp
    simp only [ho, Sem.run_bind, run_build w t _ cells hf, Result.andThen_ok, Sem.run_pure]⟩
theorem yields_move {P : Program} {ops : Array Oper} {S : World → Prop} {o : Oper} {a : Act} (hw : Region.wanted o (yielded ops a.tmps) = true) (x : Operand) (ho : o.op = .move x) (v : Value) (hv : a.eval x = v) : YieldsIf P ops S o v a :=
  .inl ⟨hw, fun w _ => by
    unfold execOp
    simp only [ho, hv, Sem.run_pure]⟩

def addrZero : List Value := [.int .u64 0, .int .u64 0, .pointer none, .int .u16 0]
theorem len_cons {α : Type} {l : List α} {n : Nat} (h : l.length = n + 1) : ∃ x t, l = x :: t ∧ t.length = n := by
  cases l with
  | nil => simp at h
  | cons x t => exact ⟨x, t, rfl, by simpa using h⟩


theorem wp_call_fn {P : Program} {o : Oper} {a : Act} {w : World} {K : Act → World → Prop} {Q : Exit → Act → World → Prop} (f : FuncId) (x : Operand) (ty : TypeId)
    (ho : o.op = .call { callee := .value (.func f), args := #[x], argTypes := #[ty] }) (v : Value) (hv : a.eval x = v) (hrun : ∀ w, (callFunc f #[v]).run P w = .ok (.enter f #[v]) w)
    {C : Ending → World → Prop} (hc : Calls P f #[v] w C) (h : ∀ e w', C e w' → ∃ u, e = .returned u ∧ K (a.put o.dst u) w') : Oper.wp P o a w K Q := by
  have he : a.eval (.func f) = .func (.func f) #[] #[] := rfl
  unfold Oper.wp
  simp [execOp, ho, resolve, invoke, hv, he, Deferred.ofValue, hrun]
  refine hc.mono fun e w' hC => ?_
  obtain ⟨u, rfl, hK⟩ := h e w' hC
  exact hK
theorem enter6 (v : Value) (w : World) : (callFunc 6 #[v]).run Yba.prog w = .ok (.enter 6 #[v]) w := by kernel_rfl

theorem alloc42 (w : World) : (Instr.alloc 42 true (.tuple #[])).run Yba.prog w = .ok (.pointer (some ⟨w.heap.size, 0, none⟩)) (w.alloc (.cells (entryCells zeroContact (.int .u64 0) (.int .i64 0) (.pointer none) (.int .u64 0) (.int .i64 0) (.pointer none) (.int .i64 0)) 42)) := by kernel_rfl
theorem wp_alloc_is {P : Program} {o : Oper} {a : Act} {w : World} {K : Act → World → Prop} {Q : Exit → Act → World → Prop} (t : TypeId) (ho : o.op = .alloc t) (cs : Array Value)
    (hrun : ∀ w, (Instr.alloc t true (.tuple #[])).run P w = .ok (.pointer (some ⟨w.heap.size, 0, none⟩)) (w.alloc (.cells cs t)))
    (h : K (a.put o.dst (.pointer (some ⟨w.heap.size, 0, none⟩))) (w.alloc (.cells cs t))) : Oper.wp P o a w K Q := by
  unfold Oper.wp execOp
  simp only [ho, Sem.run_bind, hrun w, Result.andThen_ok, Sem.run_pure]
  exact h

theorem ready_alloc {P : Program} {ops : Array Oper} {E : Prop} {o : Oper} {a : Act} {w : World} {K : Act → World → Prop} {Q : Exit → Act → World → Prop} (hw : Region.wanted o (yielded ops a.tmps) = true) (t : TypeId) (ho : o.op = .alloc t) (cs : Array Value)
    (hrun : ∀ w, (Instr.alloc t true (.tuple #[])).run P w = .ok (.pointer (some ⟨w.heap.size, 0, none⟩)) (w.alloc (.cells cs t)))
    (h : K (a.put o.dst (.pointer (some ⟨w.heap.size, 0, none⟩))) (w.alloc (.cells cs t))) : if Region.wanted o (yielded ops a.tmps) = true then Oper.wp P o a w K Q else E := by
  rw [if_pos hw]
  exact wp_alloc_is t ho cs hrun h
theorem ready_store {P : Program} {ops : Array Oper} {E : Prop} {o : Oper} {a : Act} {w : World} {K : Act → World → Prop} {Q : Exit → Act → World → Prop} (hw : Region.wanted o (yielded ops a.tmps) = true) (ty : TypeId) (x y : Operand) (ho : o.op = .store ty x y)
    (g : Nat) (cells : Array Value) (hx : a.eval x = .pointer (some ⟨g, 0, none⟩)) (hy : a.eval y = .agg cells)
    (t : TypeId) (old : Array Value) (hg : w.heap[g]? = some (.cells old t (0, 0))) (hi : (P.info? ty).map (·.size) = some cells.size)
    (hold : old.size = cells.size) (h1 : cells.all (·.oneCell') = true)
    (h : K (a.put o.dst undef) (w.setRow g cells)) : if Region.wanted o (yielded ops a.tmps) = true then Oper.wp P o a w K Q else E := by
  rw [if_pos hw]
  exact wp_store_row ty x y ho g cells hx hy t old hg hi hold h1 h

theorem range_upd {w w1 : World} {B : Nat} {L : List Value} (h : w.rangeAt B 0 L) (hU : Upd w w1 []) : w1.rangeAt B 0 L := fun j v hv => by
  have := h j v hv
  exact (World.cell?_of_block (hU.block _ (World.block_lt_of_cell? w _ this) (by simp))).trans this
theorem range_alloc {w : World} {B : Nat} {L : List Value} (h : w.rangeAt B 0 L) (o : Obj) : (w.alloc o).rangeAt B 0 L := range_upd h ((Upd.refl w []).alloc o)
theorem range_setRow {w : World} {B g : Nat} {L : List Value} {cs : Array Value} (h : w.rangeAt B 0 L) (hne : B ≠ g) : (w.setRow g cs).rangeAt B 0 L := fun j v hv => by
  have := h j v hv
  exact (World.cell?_of_block (setRow_other w g _ cs hne)).trans this
theorem sizeE {C : List Value} (hC : C.length = 24) {a0 a1 a2 q0 q1 q2 f : Value} : (Yba.prog.info? 42).map (·.size) = some (entryCells C a0 a1 a2 q0 q1 q2 f).size := by
  rw [size42]; simp [entryCells, hC]
theorem sizeZ {C : List Value} (hC : C.length = 24) {z0 z1 z2 z3 z4 z5 z6 a0 a1 a2 q0 q1 q2 f : Value} : (entryCells zeroContact z0 z1 z2 z3 z4 z5 z6).size = (entryCells C a0 a1 a2 q0 q1 q2 f).size := by
  simp [entryCells, hC, zeroContact]
theorem oneE {L : List Value} (h : ∀ v ∈ L, v.oneCell' = true) {Na sa Nq sq f : Int} : (entryCells (L ++ addrZero) (.int .u64 Na) (.int .i64 sa) (.pointer none) (.int .u64 Nq) (.int .i64 sq) (.pointer none) (.int .i64 f)).all (·.oneCell') = true := by
  apply all_oneCell_toArray
  intro v hv
  simp only [List.mem_append] at hv
  rcases hv with (hv | hv) | hv
  · exact h v hv
  · simp only [addrZero, List.mem_cons, List.not_mem_nil, or_false] at hv
    rcases hv with rfl | rfl | rfl | rfl <;> rfl
  · simp only [List.mem_cons, List.not_mem_nil, or_false] at hv
    rcases hv with rfl | rfl | rfl | rfl | rfl | rfl | rfl <;> rfl
theorem range_of {w : World} {g : Nat} {L : List Value} {t : TypeId} {fz : Nat × Nat} (h : w.heap[g]? = some (.cells L.toArray t fz)) : w.rangeAt g 0 L := fun j v hv => by
  rw [Nat.zero_add]
  exact cell_of h (by simpa using hv)

set_option linter.unusedSimpArgs false in
set_option maxHeartbeats 1000000 in
/-- The first region of LawS0510AFields, in whatever order it is carried out: the entry is laid. -/
theorem region1 {P : Program} (pos : String) (L : List Value) (hL : L.length = 20) (hone : ∀ v ∈ L, v.oneCell' = true) (b : Bool) (a q n f : Int) (Na sa Nq sq : Int) (w : World)
    (hm : P.follows .mixedOrders = true) (hu : P.underlying 22 = some (.array 20 5)) (hi : (P.info? 22).map (·.size) = some L.length) (hsz42 : (P.info? 42).map (·.size) = some 31)
    (halloc : ∀ w, (Instr.alloc 42 true (.tuple #[])).run P w = .ok (.pointer (some ⟨w.heap.size, 0, none⟩)) (w.alloc (.cells (entryCells zeroContact (.int .u64 0) (.int .i64 0) (.pointer none) (.int .u64 0) (.int .i64 0) (.pointer none) (.int .i64 0)) 42)))
    (henter : ∀ (v : Value) (w : World), (callFunc 6 #[v]).run P w = .ok (.enter 6 #[v]) w)
    (hb36 : P.built 36 [(0, .agg L.toArray)] = some (L ++ addrZero).toArray)
    (hb42 : P.built 42 [(0, .agg (L ++ addrZero).toArray), (1, .agg #[.int .u64 Na, .int .i64 sa, .pointer none]), (2, .agg #[.int .u64 Nq, .int .i64 sq, .pointer none]), (3, .int .i64 f)] = some (entryCells (L ++ addrZero) (.int .u64 Na) (.int .i64 sa) (.pointer none) (.int .u64 Nq) (.int .i64 sq) (.pointer none) (.int .i64 f)))
    (A : ∀ W, Calls P 6 #[.int .i64 a] W fun e w' => e = .returned (.agg #[.int .u64 Na, .int .i64 sa, .pointer none]) ∧ Upd W w' [])
    (Q : ∀ W, Calls P 6 #[.int .i64 q] W fun e w' => e = .returned (.agg #[.int .u64 Nq, .int .i64 sq, .pointer none]) ∧ Upd W w' []) :
    (Code.region 1 #[{ dst := some 15, op := Op.load 22 (Operand.tmp 11), type := 22, pos := pos, after := #[], guard := none },
        { dst := some 16, op := Op.build 36 #[(0, Operand.tmp 15)], type := 36, pos := pos, after := #[{ on := 0, ground := Ground.data }], guard := none },
        { dst := some 17, op := Op.move (Operand.tmp 1), type := 2, pos := pos, after := #[], guard := none },
        { dst := some 18, op := Op.call { callee := Callee.value (Operand.func 6), args := #[Operand.tmp 17], argTypes := #[2] }, type := 39, pos := pos, after := #[{ on := 2, ground := Ground.data }], guard := none },
        { dst := some 19, op := Op.move (Operand.tmp 2), type := 2, pos := pos, after := #[], guard := none },
        { dst := some 20, op := Op.call { callee := Callee.value (Operand.func 6), args := #[Operand.tmp 19], argTypes := #[2] }, type := 39, pos := pos, after := #[{ on := 4, ground := Ground.data }, { on := 3, ground := Ground.chain }], guard := none },
        { dst := some 21, op := Op.move (Operand.tmp 4), type := 3, pos := pos, after := #[], guard := none },
        { dst := some 22, op := Op.build 42 #[(0, Operand.tmp 16), (1, Operand.tmp 18), (2, Operand.tmp 20), (3, Operand.tmp 21)], type := 42, pos := pos, after := #[{ on := 1, ground := Ground.data }, { on := 3, ground := Ground.data }, { on := 5, ground := Ground.data }, { on := 6, ground := Ground.data }], guard := none },
        { dst := some 13, op := Op.alloc 42, type := 0, pos := pos, after := #[], guard := none },
        { dst := none, op := Op.store 42 (Operand.tmp 13) (Operand.tmp 22), type := 0, pos := pos, after := #[{ on := 8, ground := Ground.data }, { on := 7, ground := Ground.data }, { on := 5, ground := Ground.chain }, { on := 0, ground := Ground.phase }, { on := 1, ground := Ground.phase }, { on := 2, ground := Ground.phase }, { on := 3, ground := Ground.phase }, { on := 4, ground := Ground.phase }, { on := 5, ground := Ground.phase }, { on := 6, ground := Ground.phase }, { on := 7, ground := Ground.phase }, { on := 8, ground := Ground.phase }], guard := none }] true).wp P (fun e a' w' => e = .normal ∧ ∃ E, w.heap.size < E ∧ w'.heap[E]? = some (.cells (entryCells (L ++ addrZero) (.int .u64 Na) (.int .i64 sa) (.pointer none) (.int .u64 Nq) (.int .i64 sq) (.pointer none) (.int .i64 f)) 42 (0, 0)) ∧ w'.rangeAt w.heap.size 0 L ∧ Upd w w' [] ∧ a' = { tmps := #[.bool b, .int .i64 a, .int .i64 q, .int .i64 n, .int .i64 f, .agg L.toArray, undef, undef, undef, undef, undef, .pointer (some ⟨w.heap.size, 0, none⟩), .bool false, .pointer (some ⟨E, 0, none⟩), undef, .agg L.toArray, .agg (L ++ addrZero).toArray, .int .i64 a, .agg #[.int .u64 Na, .int .i64 sa, .pointer none], .int .i64 q, .agg #[.int .u64 Nq, .int .i64 sq, .pointer none], .int .i64 f, .agg (entryCells (L ++ addrZero) (.int .u64 Na) (.int .i64 sa) (.pointer none) (.int .u64 Nq) (.int .i64 sq) (.pointer none) (.int .i64 f)), undef, undef, undef, undef, undef, undef, undef, undef, undef, undef, undef, undef, undef, undef, undef, undef, undef, undef, undef, undef, undef, undef, undef, undef, undef, undef, undef, undef, undef, undef, undef, undef, undef, undef, undef, undef, undef, undef, undef, undef, undef, undef, undef, undef], defers := [] })
      { tmps := #[.bool b, .int .i64 a, .int .i64 q, .int .i64 n, .int .i64 f, .agg L.toArray, undef, undef, undef, undef, undef, .pointer (some ⟨w.heap.size, 0, none⟩), .bool false, undef, undef, undef, undef, undef, undef, undef, undef, undef, undef, undef, undef, undef, undef, undef, undef, undef, undef, undef, undef, undef, undef, undef, undef, undef, undef, undef, undef, undef, undef, undef, undef, undef, undef, undef, undef, undef, undef, undef, undef, undef, undef, undef, undef, undef, undef, undef, undef, undef, undef, undef, undef, undef, undef], defers := [] } (w.alloc (.cells L.toArray 22)) := by
  have hL2 : (L ++ addrZero).length = 24 := by simp [hL, addrZero]
  have hU0 : Upd w (w.alloc (.cells L.toArray 22)).drew [] := ((Upd.refl w []).alloc _).drew
  refine wp_region_held_drew (S := fun w' => w'.rangeAt w.heap.size 0 L) hm (range_of (heap_alloc_new w _)) (fun hS => ?_)
  refine wpAnyH_take (i := 0) (v := .agg L.toArray) rfl (by kernel_rfl) (by kernel_rfl) (by kernel_rfl) (fun _ _ _ h => absurd h.1 (by simp)) (yieldsIf_load_mid (by rfl) _ _ rfl w.heap.size 0 rfl L (.array 20 5) (fun w h => h) hu rfl hi) hS ?_
  simp only [List.getElem_toArray, List.getElem_cons_succ, List.getElem_cons_zero, Act.put, List.setIfInBounds_toArray, List.set_cons_zero, List.set_cons_succ]
  refine wpAnyH_take (i := 1) (v := .agg (L ++ addrZero).toArray) rfl (by kernel_rfl) (by kernel_rfl) (by kernel_rfl) (fun _ _ _ h => absurd h.1 (by simp)) (yields_build (by rfl) 36 #[(0, .tmp 15)] rfl _ (by simpa [Act.eval] using hb36)) hS ?_
  simp only [List.getElem_toArray, List.getElem_cons_succ, List.getElem_cons_zero, Act.put, List.setIfInBounds_toArray, List.set_cons_zero, List.set_cons_succ]
  refine wpAnyH_take (i := 2) (v := .int .i64 a) rfl (by kernel_rfl) (by kernel_rfl) (by kernel_rfl) (fun _ _ _ h => absurd h.1 (by simp)) (yields_move (by rfl) _ rfl _ rfl) hS ?_
  simp only [List.getElem_toArray, List.getElem_cons_succ, List.getElem_cons_zero, Act.put, List.setIfInBounds_toArray, List.set_cons_zero, List.set_cons_succ]
  refine wpAnyH_take (i := 4) (v := .int .i64 q) rfl (by kernel_rfl) (by kernel_rfl) (by kernel_rfl) (fun _ _ _ h => absurd h.1 (by simp)) (yields_move (by rfl) _ rfl _ rfl) hS ?_
  simp only [List.getElem_toArray, List.getElem_cons_succ, List.getElem_cons_zero, Act.put, List.setIfInBounds_toArray, List.set_cons_zero, List.set_cons_succ]
  refine wpAnyH_take (i := 6) (v := .int .i64 f) rfl (by kernel_rfl) (by kernel_rfl) (by kernel_rfl) (fun _ _ _ h => absurd h.1 (by simp)) (yields_move (by rfl) _ rfl _ rfl) hS ?_
  simp only [List.getElem_toArray, List.getElem_cons_succ, List.getElem_cons_zero, Act.put, List.setIfInBounds_toArray, List.set_cons_zero, List.set_cons_succ]
  refine wpAnyH_ready (rs := [3, 8]) (by kernel_rfl) (by simp) ?_
  refine AllReadyH.cons rfl (fun K hK => ?_) (AllReadyH.cons rfl (fun K hK => ready_alloc (by rfl) 42 rfl _ halloc (hK.out _ _ (range_alloc hS _) (fun hS8 => ?_))) AllReadyH.nil)
  · rw [if_pos (by rfl)]
    refine wp_call_fn 6 (.tmp 17) 2 rfl (.int .i64 a) rfl (henter _) (A _) ?_
    rintro e w1 ⟨rfl, hU1⟩
    refine ⟨_, rfl, hK.out _ _ (range_upd hS hU1) (fun hS1 => ?_)⟩
    clear hK K
    simp only [List.getElem_toArray, List.getElem_cons_succ, List.getElem_cons_zero, Act.put, List.setIfInBounds_toArray, List.set_cons_zero, List.set_cons_succ]
    refine wpAnyH_ready (rs := [5, 8]) (by kernel_rfl) (by simp) ?_
    refine AllReadyH.cons rfl (fun K hK => ?_) (AllReadyH.cons rfl (fun K hK => ready_alloc (by rfl) 42 rfl _ halloc (hK.out _ _ (range_alloc hS1 _) (fun hS8 => ?_))) AllReadyH.nil)
    · rw [if_pos (by rfl)]
      refine wp_call_fn 6 (.tmp 19) 2 rfl (.int .i64 q) rfl (henter _) (Q _) ?_
      rintro e w2 ⟨rfl, hU2⟩
      refine ⟨_, rfl, hK.out _ _ (range_upd hS1 hU2) (fun hS2 => ?_)⟩
      clear hK K
      simp only [List.getElem_toArray, List.getElem_cons_succ, List.getElem_cons_zero, Act.put, List.setIfInBounds_toArray, List.set_cons_zero, List.set_cons_succ]
      refine wpAnyH_take (i := 7) (v := .agg (entryCells (L ++ addrZero) (.int .u64 Na) (.int .i64 sa) (.pointer none) (.int .u64 Nq) (.int .i64 sq) (.pointer none) (.int .i64 f))) rfl (by kernel_rfl) (by kernel_rfl) (by kernel_rfl) (fun _ _ _ h => absurd h.1 (by simp)) (yields_build (by rfl) 42 #[(0, .tmp 16), (1, .tmp 18), (2, .tmp 20), (3, .tmp 21)] rfl _ (by simpa [Act.eval] using hb42)) hS2 ?_
      simp only [List.getElem_toArray, List.getElem_cons_succ, List.getElem_cons_zero, Act.put, List.setIfInBounds_toArray, List.set_cons_zero, List.set_cons_succ]
      refine wpAnyH_ready (rs := [8]) (by kernel_rfl) (by simp) ?_
      refine AllReadyH.cons rfl (fun K hK => ready_alloc (by rfl) 42 rfl _ halloc (hK.out _ _ (range_alloc hS2 _) (fun hS8 => ?_))) AllReadyH.nil
      clear hK K
      simp only [List.getElem_toArray, List.getElem_cons_succ, List.getElem_cons_zero, Act.put, List.setIfInBounds_toArray, List.set_cons_zero, List.set_cons_succ]
      have hUx := (hU0.trans hU1).trans hU2
      have hsz := hUx.size
      have hsz1 := hU1.size
      have hsz2 := hU2.size
      simp at hsz1 hsz2
      refine wpAnyH_ready (rs := [9]) (by kernel_rfl) (by simp) ?_
      refine AllReadyH.cons rfl (fun K hK => ready_store (by rfl) 42 (.tmp 13) (.tmp 22) rfl w2.heap.size (entryCells (L ++ addrZero) (.int .u64 Na) (.int .i64 sa) (.pointer none) (.int .u64 Nq) (.int .i64 sq) (.pointer none) (.int .i64 f)) rfl rfl 42 _ (heap_alloc_new w2 _) (by rw [hsz42]; simp [entryCells, hL, addrZero]) (sizeZ hL2) (oneE hone) (hK.out _ _ (range_setRow hS8 (by first | omega | (simp; omega) | simp)) (fun hS9 => ?_))) AllReadyH.nil
      clear hK K
      refine wpAnyH_done (by kernel_rfl) ?_ _
      exact ⟨rfl, w2.heap.size, by first | omega | (simp; omega) | simp, setRow_heap _ _ _ _ _ _ (heap_alloc_new w2 _), hS9, ((hUx.alloc _).setRow _ _ (Or.inr (by first | omega | (simp; omega) | simp))), rfl⟩
    · clear hK K
      simp only [List.getElem_toArray, List.getElem_cons_succ, List.getElem_cons_zero, Act.put, List.setIfInBounds_toArray, List.set_cons_zero, List.set_cons_succ]
      refine wpAnyH_ready (rs := [5]) (by kernel_rfl) (by simp) ?_
      refine AllReadyH.cons rfl (fun K hK => ?_) AllReadyH.nil
      rw [if_pos (by rfl)]
      refine wp_call_fn 6 (.tmp 19) 2 rfl (.int .i64 q) rfl (henter _) (Q _) ?_
      rintro e w2 ⟨rfl, hU2⟩
      refine ⟨_, rfl, hK.out _ _ (range_upd hS8 hU2) (fun hS2 => ?_)⟩
      clear hK K
      simp only [List.getElem_toArray, List.getElem_cons_succ, List.getElem_cons_zero, Act.put, List.setIfInBounds_toArray, List.set_cons_zero, List.set_cons_succ]
      refine wpAnyH_take (i := 7) (v := .agg (entryCells (L ++ addrZero) (.int .u64 Na) (.int .i64 sa) (.pointer none) (.int .u64 Nq) (.int .i64 sq) (.pointer none) (.int .i64 f))) rfl (by kernel_rfl) (by kernel_rfl) (by kernel_rfl) (fun _ _ _ h => absurd h.1 (by simp)) (yields_build (by rfl) 42 #[(0, .tmp 16), (1, .tmp 18), (2, .tmp 20), (3, .tmp 21)] rfl _ (by simpa [Act.eval] using hb42)) hS2 ?_
      simp only [List.getElem_toArray, List.getElem_cons_succ, List.getElem_cons_zero, Act.put, List.setIfInBounds_toArray, List.set_cons_zero, List.set_cons_succ]
      have hUx := ((hU0.trans hU1).alloc (.cells (entryCells zeroContact (.int .u64 0) (.int .i64 0) (.pointer none) (.int .u64 0) (.int .i64 0) (.pointer none) (.int .i64 0)) 42)).trans hU2
      have hsz := hUx.size
      have hsz1 := hU1.size
      simp at hsz1
      refine wpAnyH_ready (rs := [9]) (by kernel_rfl) (by simp) ?_
      refine AllReadyH.cons rfl (fun K hK => ready_store (by rfl) 42 (.tmp 13) (.tmp 22) rfl w1.heap.size (entryCells (L ++ addrZero) (.int .u64 Na) (.int .i64 sa) (.pointer none) (.int .u64 Nq) (.int .i64 sq) (.pointer none) (.int .i64 f)) rfl rfl 42 _ (hU2.heap (heap_alloc_new w1 _) (by simp)) (by rw [hsz42]; simp [entryCells, hL, addrZero]) (sizeZ hL2) (oneE hone) (hK.out _ _ (range_setRow hS2 (by first | omega | (simp; omega) | simp)) (fun hS9 => ?_))) AllReadyH.nil
      clear hK K
      refine wpAnyH_done (by kernel_rfl) ?_ _
      exact ⟨rfl, w1.heap.size, by first | omega | (simp; omega) | simp, setRow_heap _ _ _ _ _ _ (hU2.heap (heap_alloc_new w1 _) (by simp)), hS9, (hUx.setRow _ _ (Or.inr (by first | omega | (simp; omega) | simp))), rfl⟩
  · clear hK K
    simp only [List.getElem_toArray, List.getElem_cons_succ, List.getElem_cons_zero, Act.put, List.setIfInBounds_toArray, List.set_cons_zero, List.set_cons_succ]
    refine wpAnyH_ready (rs := [3]) (by kernel_rfl) (by simp) ?_
    refine AllReadyH.cons rfl (fun K hK => ?_) AllReadyH.nil
    rw [if_pos (by rfl)]
    refine wp_call_fn 6 (.tmp 17) 2 rfl (.int .i64 a) rfl (henter _) (A _) ?_
    rintro e w1 ⟨rfl, hU1⟩
    refine ⟨_, rfl, hK.out _ _ (range_upd hS8 hU1) (fun hS1 => ?_)⟩
    clear hK K
    simp only [List.getElem_toArray, List.getElem_cons_succ, List.getElem_cons_zero, Act.put, List.setIfInBounds_toArray, List.set_cons_zero, List.set_cons_succ]
    refine wpAnyH_ready (rs := [5]) (by kernel_rfl) (by simp) ?_
    refine AllReadyH.cons rfl (fun K hK => ?_) AllReadyH.nil
    rw [if_pos (by rfl)]
    refine wp_call_fn 6 (.tmp 19) 2 rfl (.int .i64 q) rfl (henter _) (Q _) ?_
    rintro e w2 ⟨rfl, hU2⟩
    refine ⟨_, rfl, hK.out _ _ (range_upd hS1 hU2) (fun hS2 => ?_)⟩
    clear hK K
    simp only [List.getElem_toArray, List.getElem_cons_succ, List.getElem_cons_zero, Act.put, List.setIfInBounds_toArray, List.set_cons_zero, List.set_cons_succ]
    refine wpAnyH_take (i := 7) (v := .agg (entryCells (L ++ addrZero) (.int .u64 Na) (.int .i64 sa) (.pointer none) (.int .u64 Nq) (.int .i64 sq) (.pointer none) (.int .i64 f))) rfl (by kernel_rfl) (by kernel_rfl) (by kernel_rfl) (fun _ _ _ h => absurd h.1 (by simp)) (yields_build (by rfl) 42 #[(0, .tmp 16), (1, .tmp 18), (2, .tmp 20), (3, .tmp 21)] rfl _ (by simpa [Act.eval] using hb42)) hS2 ?_
    simp only [List.getElem_toArray, List.getElem_cons_succ, List.getElem_cons_zero, Act.put, List.setIfInBounds_toArray, List.set_cons_zero, List.set_cons_succ]
    have hUx := ((hU0.alloc (.cells (entryCells zeroContact (.int .u64 0) (.int .i64 0) (.pointer none) (.int .u64 0) (.int .i64 0) (.pointer none) (.int .i64 0)) 42)).trans hU1).trans hU2
    have hsz := hUx.size
    refine wpAnyH_ready (rs := [9]) (by kernel_rfl) (by simp) ?_
    refine AllReadyH.cons rfl (fun K hK => ready_store (by rfl) 42 (.tmp 13) (.tmp 22) rfl ((w.alloc (.cells L.toArray 22)).drew.heap.size) (entryCells (L ++ addrZero) (.int .u64 Na) (.int .i64 sa) (.pointer none) (.int .u64 Nq) (.int .i64 sq) (.pointer none) (.int .i64 f)) rfl rfl 42 _ (hU2.heap (hU1.heap (heap_alloc_new (w.alloc (.cells L.toArray 22)).drew _) (by simp)) (by simp)) (by rw [hsz42]; simp [entryCells, hL, addrZero]) (sizeZ hL2) (oneE hone) (hK.out _ _ (range_setRow hS2 (by first | omega | (simp; omega) | simp)) (fun hS9 => ?_))) AllReadyH.nil
    clear hK K
    refine wpAnyH_done (by kernel_rfl) ?_ _
    exact ⟨rfl, ((w.alloc (.cells L.toArray 22)).drew.heap.size), by first | omega | (simp; omega) | simp, setRow_heap _ _ _ _ _ _ (hU2.heap (hU1.heap (heap_alloc_new (w.alloc (.cells L.toArray 22)).drew _) (by simp)) (by simp)), hS9, (hUx.setRow _ _ (Or.inr (by first | omega | (simp; omega) | simp))), rfl⟩
end Go.Proofs.Ybulkjnq
