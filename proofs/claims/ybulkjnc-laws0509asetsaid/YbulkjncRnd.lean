import Derived.Test.YbulkjncReg25
namespace Go.Proofs.Ybulkjnc
open Go.RowKit

theorem set_any {B M S n : Nat} {x : Nat → Ent} {sl : Value} {hv : Nat → Bool} {E : Nat → Ent} (w : World) (s : Sto B w S M n x sl hv E) (k : Nat) (hk : k < 4) (v : Value) (zs : List Int) (hz : Bs w v zs) (hzl : zs.length ≤ 1024) (d : Int) (del : Bool) :
    Calls Yba.prog 8 #[.pointer (some ⟨S, 0, none⟩), .agg (itemOf k v d del)] w fun e w' => ∃ v' n' x' sl' e', e = .returned (.agg (itemOf k v' d del)) ∧ Sto B w' S M n' x' sl' (setk hv k true) (setk E k e') ∧ e'.d = d ∧ e'.del = del ∧ Kin B M w w' ∧ w'.ownsRow w.heap.size 5 1 v' zs.length (byteVals zs) := by
  cases hn : hv k with
  | false => exact set_new w s k hk hn v zs hz hzl d del
  | true => exact set_old w s k hk hn v zs hz hzl d del

theorem range_of {w : World} {g : Nat} {L : List Value} {t : TypeId} {fz : Nat × Nat} (h : w.heap[g]? = some (.cells L.toArray t fz)) : w.rangeAt g 0 L := fun j v hv => by
  rw [Nat.zero_add]
  exact cell_of h (by simpa using hv)

/-- w' is w with new blocks, and with writes to rows of bytes alone. -/
def Upd5 (B : Nat) (w w' : World) : Prop := ∃ ys, Upd w w' ys ∧ ∀ y ∈ ys, B ≤ y ∧ ∃ cs, w.heap[y]? = some (.cells cs 5 (0, 0))
theorem Upd5.cells {B : Nat} {w w' : World} (h : Upd5 B w w') {k : Nat} {cs : Array Value} {t : TypeId} {fz : Nat × Nat} (hk : w.heap[k]? = some (.cells cs t fz)) (ht : t ≠ 5) : w'.heap[k]? = some (.cells cs t fz) := by
  obtain ⟨ys, hU, hy⟩ := h
  refine hU.heap hk fun hm => ?_
  obtain ⟨_, cs', h'⟩ := hy k hm
  rw [hk] at h'
  simp at h'
  exact ht h'.2.1
theorem Upd5.arr {B C : Nat} {w w' : World} (h : Upd5 C w w') {hv : Nat → Bool} {E : Nat → Ent} (r : Arr w B hv E) : Arr w' B hv E :=
  r.kept fun _ _ _ hk ht => h.cells hk (by rcases ht with rfl | rfl | rfl <;> decide)
theorem Upd5.sto {B C : Nat} {w w' : World} (h : Upd5 C w w') {S M n : Nat} {x : Nat → Ent} {sl : Value} {hv : Nat → Bool} {E : Nat → Ent} (s : Sto B w S M n x sl hv E) : Sto B w' S M n x sl hv E := by
  obtain ⟨ys, hU, hy⟩ := h
  refine s.upd hU fun y hm => ?_
  obtain ⟨_, cs, h⟩ := hy y hm
  exact ⟨cs, 5, _, h, by decide, by decide, by decide⟩
theorem Upd5.below {B : Nat} {w w' : World} (h : Upd5 B w w') (hB : B ≤ w.heap.size) : Below B w w' := by
  obtain ⟨ys, hU, hy⟩ := h
  exact hU.below hB fun y hm => (hy y hm).1

theorem flip_all : ∀ n : Fin 256, ((n.val : Int) == bits .xor .u8 (n.val : Int) 255) = false := of_decide_eq_true (by kernel_rfl)
theorem flip_ne (z : Int) (h0 : 0 ≤ z) (h1 : z ≤ 255) : (z == bits .xor .u8 z 255) = false := by
  have h := flip_all ⟨z.toNat, by omega⟩
  have e : ((z.toNat : Nat) : Int) = z := by omega
  simpa only [e] using h
theorem set_cell_ne {w : World} {p q : Addr} {v u : Value} (h : w.cell? q = some u) (hne : ¬ q.block = p.block) : (w.setCell p v).cell? q = some u :=
  (World.cell?_of_block (Below.heap_setCell w p v q.block hne)).trans h
theorem set_cell_eq {w : World} {g : Nat} {cs : Array Value} {t : TypeId} {v u : Value} (h : w.heap[g]? = some (.cells cs t (0, 0))) (h0 : w.cell? ⟨g, 0, none⟩ = some u) : (w.setCell ⟨g, 0, none⟩ v).cell? ⟨g, 0, none⟩ = some v := by
  refine cell_of (heap_set h) ?_
  have : cs[0]? = some u := by simpa [World.cell?, h] using h0
  obtain ⟨hl, _⟩ := Array.getElem?_eq_some_iff.1 this
  simp [hl]

/-- The arrays take the new item. -/
theorem Arr.put {w w' : World} {B : Nat} {hv : Nat → Bool} {E : Nat → Ent} (r : Arr w B hv E) {k : Nat} (hk : k < 4) (e : Ent)
    (h : w' = ((((w.setCell ⟨B, k, none⟩ (.bool true)).setCell ⟨B + 1, k, none⟩ (.bool e.del)).setCell ⟨B + 1 + 1, k * 3, none⟩ (.int .u64 (nsOf e.d))).setCell ⟨B + 1 + 1, k * 3 + 1, none⟩ (.int .i64 (scOf e.d))).setCell ⟨B + 1 + 1, k * 3 + 2, none⟩ (.pointer none)) : Arr w' B (setk hv k true) (setk E k e) := by
  subst h
  have h6 := heap_set (j := k) (v := .bool true) r.h6
  have h7 := heap_set (j := k) (v := .bool e.del) ((Below.heap_setCell w ⟨B, k, none⟩ (.bool true) (B + 1) (by dsimp only; omega)).trans r.h7)
  have h8 := heap_set (j := k * 3 + 2) (v := .pointer none) (heap_set (j := k * 3 + 1) (v := .int .i64 (scOf e.d)) (heap_set (j := k * 3) (v := .int .u64 (nsOf e.d)) ((Below.heap_setCell _ ⟨B + 1, k, none⟩ (.bool e.del) (B + 1 + 1) (by dsimp only; omega)).trans ((Below.heap_setCell w ⟨B, k, none⟩ (.bool true) (B + 1 + 1) (by dsimp only; omega)).trans r.h8))))
  refine ⟨?_, ?_, ?_, ?_⟩
  · refine ((Below.heap_setCell _ _ _ B (by dsimp only; omega)).trans ((Below.heap_setCell _ _ _ B (by dsimp only; omega)).trans ((Below.heap_setCell _ _ _ B (by dsimp only; omega)).trans ((Below.heap_setCell _ _ _ B (by dsimp only; omega)).trans h6)))).trans ?_
    rcases lt4 hk with rfl | rfl | rfl | rfl <;> rfl
  · refine ((Below.heap_setCell _ _ _ (B + 1) (by dsimp only; omega)).trans ((Below.heap_setCell _ _ _ (B + 1) (by dsimp only; omega)).trans ((Below.heap_setCell _ _ _ (B + 1) (by dsimp only; omega)).trans h7))).trans ?_
    rcases lt4 hk with rfl | rfl | rfl | rfl <;> rfl
  · refine h8.trans ?_
    rcases lt4 hk with rfl | rfl | rfl | rfl <;> rfl
  · exact (Below.heap_setCell _ _ _ _ (by dsimp only; omega)).trans ((Below.heap_setCell _ _ _ _ (by dsimp only; omega)).trans ((Below.heap_setCell _ _ _ _ (by dsimp only; omega)).trans ((Below.heap_setCell _ _ _ _ (by dsimp only; omega)).trans ((Below.heap_setCell _ _ _ _ (by dsimp only; omega)).trans r.h9))))

theorem alloc41 (w : World) : (Instr.alloc 41 true (.tuple #[])).run Yba.prog w = .ok (.pointer (some ⟨w.heap.size, 0, none⟩)) (w.alloc (.cells zero41 41)) := by kernel_rfl
theorem enter6 (v : Value) (w : World) : (callFunc 6 #[v]).run Yba.prog w = .ok (.enter 6 #[v]) w := by kernel_rfl
theorem enter7 (u v : Value) (w : World) : (callFunc 7 #[u, v]).run Yba.prog w = .ok (.enter 7 #[u, v]) w := by kernel_rfl
theorem field252 (sb : Nat) (w : World) : (Instr.fieldAt 25 (.pointer (some ⟨sb, 0, none⟩)) 2).run Yba.prog w = .ok (.pointer (some ⟨sb, 2, none⟩)) w := by simp [Instr.fieldAt, go_sem, Instr.sureAddr]
theorem field253 (sb : Nat) (w : World) : (Instr.fieldAt 25 (.pointer (some ⟨sb, 0, none⟩)) 3).run Yba.prog w = .ok (.pointer (some ⟨sb, 3, none⟩)) w := by simp [Instr.fieldAt, go_sem, Instr.sureAddr]
theorem load2 (w : World) (p : Addr) (v : Value) (h : w.cell? p = some v) : (Instr.loadAt 2 (.pointer (some p))).run Yba.prog w = .ok v w := by simp [Instr.loadAt, Instr.sureAddr, loadVar, isAgg, Yba.underlying2, run_underlying, h]
theorem load4 (w : World) (p : Addr) (v : Value) (h : w.cell? p = some v) : (Instr.loadAt 4 (.pointer (some p))).run Yba.prog w = .ok v w := by simp [Instr.loadAt, Instr.sureAddr, loadVar, isAgg, Yba.underlying4, run_underlying, h]
theorem built41 (kk l0 c0 : Nat) (a0 : Option Addr) (T : Int) (del : Bool) : Yba.prog.built 41 [(0, .string (kb kk)), (1, .slice a0 l0 c0), (2, .agg #[.int .u64 (nsOf T), .int .i64 (scOf T), .pointer none]), (4, .bool del)] = some (itemOf kk (.slice a0 l0 c0) T del) := by kernel_rfl

set_option maxRecDepth 20000 in
theorem region25Y (w : World) (zb sb kk l0 c0 : Nat) (a0 : Option Addr) (T : Int) (del : Bool) (hk4 : kk < 4) (ht0 : -9223372036854775808 ≤ T) (ht1 : T ≤ 9223372036854775807) (h0 : Held zb sb T del w) (hlt : zb < w.heap.size ∧ sb < w.heap.size)
    {t0 t1 t2 t3 t4 t5 t6 t7 t8 t10 t11 t15 t16 t17 t18 t19 t20 t21 t22 t23 t24 t25 t26 t27 t28 t29 t30 t31 t32 t33 t34 t35 t36 t37 t38 t39 t40 t41 t42 t43 t44 t45 t46 t47 t48 t49 t50 t51 t52 t53 t54 t55 t56 t57 t58 t59 t60 t61 t62 t63 t64 t65 t66 t67 t68 t69 t70 t71 t72 t73 t74 t75 t76 t77 t78 t79 t80 t81 t82 t83 t84 t85 t86 t87 t88 t89 t90 t91 t92 t93 t94 t95 t96 t97 t98 t99 t100 t101 t102 t103 t104 t105 t106 t107 t108 t109 t110 t111 t112 t113 t114 t115 t116 t117 t118 t119 t120 t121 t122 t123 t124 t125 t126 t127 t128 t129 t130 t131 t132 t133 t134 t135 t136 t137 t138 t139 t140 t141 t142 t143 t144 t145 t146 t147 t148 t149 t150 t151 t152 t153 t154 t155 t156 t157 t158 t159 t160 t161 t162 t163 t164 t165 t166 t167 t168 t169 t170 t171 t172 t173 t174 t175 t176 t177 t178 t179 t180 t181 t182 t183 t184 t185 t186 t187 t188 t189 t190 t191 t192 t193 t194 t195 t196 t197 t198 t199 t200 t201 t202 t203 t204 t205 t206 t207 t208 t209 t210 t211 t212 t213 t214 t215 t216 t217 t218 t219 t220 t221 t222 t223 t224 t225 t226 t227 t228 t229 t230 t231 t232 t233 t234 t235 t236 t237 t238 t239 t240 t241 t242 : Value} :
    Code.wp Yba.prog (Code.region 25 #[{ dst := some 68, op := Op.move (Operand.tmp 13), type := 3, pos := "zz_law_s0509a.go:56", after := #[], guard := none }, { dst := some 69, op := Op.call { callee := Callee.value (Operand.func 6), args := #[Operand.tmp 68], argTypes := #[3] }, type := 9, pos := "zz_law_s0509a.go:56", after := #[{ on := 0, ground := Ground.data }], guard := none }, { dst := some 70, op := Op.move (Operand.tmp 14), type := 23, pos := "zz_law_s0509a.go:56", after := #[], guard := none }, { dst := some 71, op := Op.load 30 (Operand.tmp 9), type := 30, pos := "zz_law_s0509a.go:56", after := #[], guard := none }, { dst := some 72, op := Op.fieldAddr 25 (Operand.tmp 12) 2, type := 0, pos := "zz_law_s0509a.go:56", after := #[], guard := none }, { dst := some 73, op := Op.load 2 (Operand.tmp 72), type := 2, pos := "zz_law_s0509a.go:56", after := #[{ on := 4, ground := Ground.data }], guard := none }, { dst := some 74, op := Op.call { callee := Callee.value (Operand.func 7), args := #[Operand.tmp 71, Operand.tmp 73], argTypes := #[30, 37] }, type := 30, pos := "zz_law_s0509a.go:56", after := #[{ on := 3, ground := Ground.data }, { on := 5, ground := Ground.data }, { on := 1, ground := Ground.chain }], guard := none }, { dst := some 75, op := Op.fieldAddr 25 (Operand.tmp 12) 3, type := 0, pos := "zz_law_s0509a.go:56", after := #[], guard := none }, { dst := some 76, op := Op.load 4 (Operand.tmp 75), type := 4, pos := "zz_law_s0509a.go:56", after := #[{ on := 7, ground := Ground.data }], guard := none }, { dst := some 77, op := Op.build 41 #[(0, Operand.tmp 69), (1, Operand.tmp 70), (2, Operand.tmp 74), (4, Operand.tmp 76)], type := 41, pos := "zz_law_s0509a.go:56", after := #[{ on := 1, ground := Ground.data }, { on := 2, ground := Ground.data }, { on := 6, ground := Ground.data }, { on := 8, ground := Ground.data }], guard := none }, { dst := some 16, op := Op.alloc 41, type := 0, pos := "zz_law_s0509a.go:56", after := #[], guard := none }, { dst := none, op := Op.store 41 (Operand.tmp 16) (Operand.tmp 77), type := 0, pos := "zz_law_s0509a.go:56", after := #[{ on := 10, ground := Ground.data }, { on := 9, ground := Ground.data }, { on := 6, ground := Ground.chain }, { on := 0, ground := Ground.phase }, { on := 1, ground := Ground.phase }, { on := 2, ground := Ground.phase }, { on := 3, ground := Ground.phase }, { on := 4, ground := Ground.phase }, { on := 5, ground := Ground.phase }, { on := 6, ground := Ground.phase }, { on := 7, ground := Ground.phase }, { on := 8, ground := Ground.phase }, { on := 9, ground := Ground.phase }, { on := 10, ground := Ground.phase }], guard := none }] true)
      (fun e a' w' => e = .normal ∧ ∃ b16 : Nat, a' = { tmps := #[t0, t1, t2, t3, t4, t5, t6, t7, t8, .pointer (some ⟨zb, 0, none⟩), t10, t11, .pointer (some ⟨sb, 0, none⟩), .int .i64 kk, .slice a0 l0 c0, t15, .pointer (some ⟨b16, 0, none⟩), t17, t18, t19, t20, t21, t22, t23, t24, t25, t26, t27, t28, t29, t30, t31, t32, t33, t34, t35, t36, t37, t38, t39, t40, t41, t42, t43, t44, t45, t46, t47, t48, t49, t50, t51, t52, t53, t54, t55, t56, t57, t58, t59, t60, t61, t62, t63, t64, t65, t66, t67, .int .i64 kk, .string (kb kk), .slice a0 l0 c0, .agg #[.int .u64 0, .int .i64 0, .pointer none], .pointer (some ⟨sb, 2, none⟩), .int .i64 T, .agg #[.int .u64 (nsOf T), .int .i64 (scOf T), .pointer none], .pointer (some ⟨sb, 3, none⟩), .bool del, .agg (itemOf kk (.slice a0 l0 c0) T del), t78, t79, t80, t81, t82, t83, t84, t85, t86, t87, t88, t89, t90, t91, t92, t93, t94, t95, t96, t97, t98, t99, t100, t101, t102, t103, t104, t105, t106, t107, t108, t109, t110, t111, t112, t113, t114, t115, t116, t117, t118, t119, t120, t121, t122, t123, t124, t125, t126, t127, t128, t129, t130, t131, t132, t133, t134, t135, t136, t137, t138, t139, t140, t141, t142, t143, t144, t145, t146, t147, t148, t149, t150, t151, t152, t153, t154, t155, t156, t157, t158, t159, t160, t161, t162, t163, t164, t165, t166, t167, t168, t169, t170, t171, t172, t173, t174, t175, t176, t177, t178, t179, t180, t181, t182, t183, t184, t185, t186, t187, t188, t189, t190, t191, t192, t193, t194, t195, t196, t197, t198, t199, t200, t201, t202, t203, t204, t205, t206, t207, t208, t209, t210, t211, t212, t213, t214, t215, t216, t217, t218, t219, t220, t221, t222, t223, t224, t225, t226, t227, t228, t229, t230, t231, t232, t233, t234, t235, t236, t237, t238, t239, t240, t241, t242], defers := [] } ∧ w.heap.size ≤ b16 ∧ w'.heap[b16]? = some (.cells (itemOf kk (.slice a0 l0 c0) T del) 41 (0, 0)) ∧ Upd w w' [])
      { tmps := #[t0, t1, t2, t3, t4, t5, t6, t7, t8, .pointer (some ⟨zb, 0, none⟩), t10, t11, .pointer (some ⟨sb, 0, none⟩), .int .i64 kk, .slice a0 l0 c0, t15, t16, t17, t18, t19, t20, t21, t22, t23, t24, t25, t26, t27, t28, t29, t30, t31, t32, t33, t34, t35, t36, t37, t38, t39, t40, t41, t42, t43, t44, t45, t46, t47, t48, t49, t50, t51, t52, t53, t54, t55, t56, t57, t58, t59, t60, t61, t62, t63, t64, t65, t66, t67, t68, t69, t70, t71, t72, t73, t74, t75, t76, t77, t78, t79, t80, t81, t82, t83, t84, t85, t86, t87, t88, t89, t90, t91, t92, t93, t94, t95, t96, t97, t98, t99, t100, t101, t102, t103, t104, t105, t106, t107, t108, t109, t110, t111, t112, t113, t114, t115, t116, t117, t118, t119, t120, t121, t122, t123, t124, t125, t126, t127, t128, t129, t130, t131, t132, t133, t134, t135, t136, t137, t138, t139, t140, t141, t142, t143, t144, t145, t146, t147, t148, t149, t150, t151, t152, t153, t154, t155, t156, t157, t158, t159, t160, t161, t162, t163, t164, t165, t166, t167, t168, t169, t170, t171, t172, t173, t174, t175, t176, t177, t178, t179, t180, t181, t182, t183, t184, t185, t186, t187, t188, t189, t190, t191, t192, t193, t194, t195, t196, t197, t198, t199, t200, t201, t202, t203, t204, t205, t206, t207, t208, t209, t210, t211, t212, t213, t214, t215, t216, t217, t218, t219, t220, t221, t222, t223, t224, t225, t226, t227, t228, t229, t230, t231, t232, t233, t234, t235, t236, t237, t238, t239, t240, t241, t242], defers := [] } w :=
  region25 "zz_law_s0509a.go:56" w zb sb kk l0 c0 a0 T del (by kernel_rfl) _ rfl Yba.underlying30 (by kernel_rfl) (by kernel_rfl) alloc41 enter6 enter7 (field252 sb) (field253 sb) load2 load4 (built41 kk l0 c0 a0 T del) (fun W => key_walk kk hk4 W) (fun W => add_is T W ht0 ht1) h0 hlt t0 t1 t2 t3 t4 t5 t6 t7 t8 t10 t11 t15 t16 t17 t18 t19 t20 t21 t22 t23 t24 t25 t26 t27 t28 t29 t30 t31 t32 t33 t34 t35 t36 t37 t38 t39 t40 t41 t42 t43 t44 t45 t46 t47 t48 t49 t50 t51 t52 t53 t54 t55 t56 t57 t58 t59 t60 t61 t62 t63 t64 t65 t66 t67 t68 t69 t70 t71 t72 t73 t74 t75 t76 t77 t78 t79 t80 t81 t82 t83 t84 t85 t86 t87 t88 t89 t90 t91 t92 t93 t94 t95 t96 t97 t98 t99 t100 t101 t102 t103 t104 t105 t106 t107 t108 t109 t110 t111 t112 t113 t114 t115 t116 t117 t118 t119 t120 t121 t122 t123 t124 t125 t126 t127 t128 t129 t130 t131 t132 t133 t134 t135 t136 t137 t138 t139 t140 t141 t142 t143 t144 t145 t146 t147 t148 t149 t150 t151 t152 t153 t154 t155 t156 t157 t158 t159 t160 t161 t162 t163 t164 t165 t166 t167 t168 t169 t170 t171 t172 t173 t174 t175 t176 t177 t178 t179 t180 t181 t182 t183 t184 t185 t186 t187 t188 t189 t190 t191 t192 t193 t194 t195 t196 t197 t198 t199 t200 t201 t202 t203 t204 t205 t206 t207 t208 t209 t210 t211 t212 t213 t214 t215 t216 t217 t218 t219 t220 t221 t222 t223 t224 t225 t226 t227 t228 t229 t230 t231 t232 t233 t234 t235 t236 t237 t238 t239 t240 t241 t242
end Go.Proofs.Ybulkjnc
