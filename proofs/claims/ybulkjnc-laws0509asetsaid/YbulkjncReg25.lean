import Derived.Test.YbulkjncRegA
namespace Go.Proofs.Ybulkjnc
open Go.RowKit

set_option linter.unusedSimpArgs false in
set_option linter.unusedVariables false in
set_option maxRecDepth 20000 in
set_option maxHeartbeats 1000000 in
/-- Region 25 of LawS0509ASet, in whatever order it is carried out: the item is laid. -/
theorem region25 {P : Program} (pos : String) (w : World) (zb sb kk l0 c0 : Nat) (a0 : Option Addr) (T : Int) (del : Bool) (hm : P.follows .mixedOrders = true) (ds30 : TypeDesc) (hdr : ds30.isRow = true) (hu : P.underlying 30 = some ds30) (hi : (P.info? 30).map (·.size) = some 3) (hsz41 : (P.info? 41).map (·.size) = some 8)
    (halloc : ∀ w, (Instr.alloc 41 true (.tuple #[])).run P w = .ok (.pointer (some ⟨w.heap.size, 0, none⟩)) (w.alloc (.cells zero41 41)))
    (henter6 : ∀ (v : Value) (w : World), (callFunc 6 #[v]).run P w = .ok (.enter 6 #[v]) w) (henter7 : ∀ (u v : Value) (w : World), (callFunc 7 #[u, v]).run P w = .ok (.enter 7 #[u, v]) w)
    (hf2 : ∀ w, (Instr.fieldAt 25 (.pointer (some ⟨sb, 0, none⟩)) 2).run P w = .ok (.pointer (some ⟨sb, 2, none⟩)) w) (hf3 : ∀ w, (Instr.fieldAt 25 (.pointer (some ⟨sb, 0, none⟩)) 3).run P w = .ok (.pointer (some ⟨sb, 3, none⟩)) w)
    (hld2 : ∀ w p v, World.cell? w p = some v → (Instr.loadAt 2 (.pointer (some p))).run P w = .ok v w) (hld4 : ∀ w p v, World.cell? w p = some v → (Instr.loadAt 4 (.pointer (some p))).run P w = .ok v w)
    (hb41 : P.built 41 [(0, .string (kb kk)), (1, .slice a0 l0 c0), (2, .agg #[.int .u64 (nsOf T), .int .i64 (scOf T), .pointer none]), (4, .bool del)] = some (itemOf kk (.slice a0 l0 c0) T del))
    (A6 : ∀ W, Calls P 6 #[.int .i64 kk] W fun e w' => e = .returned (.string (kb kk)) ∧ W = w') (A7 : ∀ W, Calls P 7 #[.agg #[.int .u64 0, .int .i64 0, .pointer none], .int .i64 T] W fun e w' => e = .returned (.agg #[.int .u64 (nsOf T), .int .i64 (scOf T), .pointer none]) ∧ Upd W w' [])
    (h0 : Held zb sb T del w) (hlt : zb < w.heap.size ∧ sb < w.heap.size)
    (t0 t1 t2 t3 t4 t5 t6 t7 t8 t10 t11 t15 t16 t17 t18 t19 t20 t21 t22 t23 t24 t25 t26 t27 t28 t29 t30 t31 t32 t33 t34 t35 t36 t37 t38 t39 t40 t41 t42 t43 t44 t45 t46 t47 t48 t49 t50 t51 t52 t53 t54 t55 t56 t57 t58 t59 t60 t61 t62 t63 t64 t65 t66 t67 t68 t69 t70 t71 t72 t73 t74 t75 t76 t77 t78 t79 t80 t81 t82 t83 t84 t85 t86 t87 t88 t89 t90 t91 t92 t93 t94 t95 t96 t97 t98 t99 t100 t101 t102 t103 t104 t105 t106 t107 t108 t109 t110 t111 t112 t113 t114 t115 t116 t117 t118 t119 t120 t121 t122 t123 t124 t125 t126 t127 t128 t129 t130 t131 t132 t133 t134 t135 t136 t137 t138 t139 t140 t141 t142 t143 t144 t145 t146 t147 t148 t149 t150 t151 t152 t153 t154 t155 t156 t157 t158 t159 t160 t161 t162 t163 t164 t165 t166 t167 t168 t169 t170 t171 t172 t173 t174 t175 t176 t177 t178 t179 t180 t181 t182 t183 t184 t185 t186 t187 t188 t189 t190 t191 t192 t193 t194 t195 t196 t197 t198 t199 t200 t201 t202 t203 t204 t205 t206 t207 t208 t209 t210 t211 t212 t213 t214 t215 t216 t217 t218 t219 t220 t221 t222 t223 t224 t225 t226 t227 t228 t229 t230 t231 t232 t233 t234 t235 t236 t237 t238 t239 t240 t241 t242 : Value) :
    Code.wp P (Code.region 25 #[{ dst := some 68, op := Op.move (Operand.tmp 13), type := 3, pos := pos, after := #[], guard := none }, { dst := some 69, op := Op.call { callee := Callee.value (Operand.func 6), args := #[Operand.tmp 68], argTypes := #[3] }, type := 9, pos := pos, after := #[{ on := 0, ground := Ground.data }], guard := none }, { dst := some 70, op := Op.move (Operand.tmp 14), type := 23, pos := pos, after := #[], guard := none }, { dst := some 71, op := Op.load 30 (Operand.tmp 9), type := 30, pos := pos, after := #[], guard := none }, { dst := some 72, op := Op.fieldAddr 25 (Operand.tmp 12) 2, type := 0, pos := pos, after := #[], guard := none }, { dst := some 73, op := Op.load 2 (Operand.tmp 72), type := 2, pos := pos, after := #[{ on := 4, ground := Ground.data }], guard := none }, { dst := some 74, op := Op.call { callee := Callee.value (Operand.func 7), args := #[Operand.tmp 71, Operand.tmp 73], argTypes := #[30, 37] }, type := 30, pos := pos, after := #[{ on := 3, ground := Ground.data }, { on := 5, ground := Ground.data }, { on := 1, ground := Ground.chain }], guard := none }, { dst := some 75, op := Op.fieldAddr 25 (Operand.tmp 12) 3, type := 0, pos := pos, after := #[], guard := none }, { dst := some 76, op := Op.load 4 (Operand.tmp 75), type := 4, pos := pos, after := #[{ on := 7, ground := Ground.data }], guard := none }, { dst := some 77, op := Op.build 41 #[(0, Operand.tmp 69), (1, Operand.tmp 70), (2, Operand.tmp 74), (4, Operand.tmp 76)], type := 41, pos := pos, after := #[{ on := 1, ground := Ground.data }, { on := 2, ground := Ground.data }, { on := 6, ground := Ground.data }, { on := 8, ground := Ground.data }], guard := none }, { dst := some 16, op := Op.alloc 41, type := 0, pos := pos, after := #[], guard := none }, { dst := none, op := Op.store 41 (Operand.tmp 16) (Operand.tmp 77), type := 0, pos := pos, after := #[{ on := 10, ground := Ground.data }, { on := 9, ground := Ground.data }, { on := 6, ground := Ground.chain }, { on := 0, ground := Ground.phase }, { on := 1, ground := Ground.phase }, { on := 2, ground := Ground.phase }, { on := 3, ground := Ground.phase }, { on := 4, ground := Ground.phase }, { on := 5, ground := Ground.phase }, { on := 6, ground := Ground.phase }, { on := 7, ground := Ground.phase }, { on := 8, ground := Ground.phase }, { on := 9, ground := Ground.phase }, { on := 10, ground := Ground.phase }], guard := none }] true)
      (fun e a' w' => e = .normal ∧ ∃ b16 : Nat, a' = { tmps := #[t0, t1, t2, t3, t4, t5, t6, t7, t8, .pointer (some ⟨zb, 0, none⟩), t10, t11, .pointer (some ⟨sb, 0, none⟩), .int .i64 kk, .slice a0 l0 c0, t15, .pointer (some ⟨b16, 0, none⟩), t17, t18, t19, t20, t21, t22, t23, t24, t25, t26, t27, t28, t29, t30, t31, t32, t33, t34, t35, t36, t37, t38, t39, t40, t41, t42, t43, t44, t45, t46, t47, t48, t49, t50, t51, t52, t53, t54, t55, t56, t57, t58, t59, t60, t61, t62, t63, t64, t65, t66, t67, .int .i64 kk, .string (kb kk), .slice a0 l0 c0, .agg #[.int .u64 0, .int .i64 0, .pointer none], .pointer (some ⟨sb, 2, none⟩), .int .i64 T, .agg #[.int .u64 (nsOf T), .int .i64 (scOf T), .pointer none], .pointer (some ⟨sb, 3, none⟩), .bool del, .agg (itemOf kk (.slice a0 l0 c0) T del), t78, t79, t80, t81, t82, t83, t84, t85, t86, t87, t88, t89, t90, t91, t92, t93, t94, t95, t96, t97, t98, t99, t100, t101, t102, t103, t104, t105, t106, t107, t108, t109, t110, t111, t112, t113, t114, t115, t116, t117, t118, t119, t120, t121, t122, t123, t124, t125, t126, t127, t128, t129, t130, t131, t132, t133, t134, t135, t136, t137, t138, t139, t140, t141, t142, t143, t144, t145, t146, t147, t148, t149, t150, t151, t152, t153, t154, t155, t156, t157, t158, t159, t160, t161, t162, t163, t164, t165, t166, t167, t168, t169, t170, t171, t172, t173, t174, t175, t176, t177, t178, t179, t180, t181, t182, t183, t184, t185, t186, t187, t188, t189, t190, t191, t192, t193, t194, t195, t196, t197, t198, t199, t200, t201, t202, t203, t204, t205, t206, t207, t208, t209, t210, t211, t212, t213, t214, t215, t216, t217, t218, t219, t220, t221, t222, t223, t224, t225, t226, t227, t228, t229, t230, t231, t232, t233, t234, t235, t236, t237, t238, t239, t240, t241, t242], defers := [] } ∧ w.heap.size ≤ b16 ∧ w'.heap[b16]? = some (.cells (itemOf kk (.slice a0 l0 c0) T del) 41 (0, 0)) ∧ Upd w w' [])
      { tmps := #[t0, t1, t2, t3, t4, t5, t6, t7, t8, .pointer (some ⟨zb, 0, none⟩), t10, t11, .pointer (some ⟨sb, 0, none⟩), .int .i64 kk, .slice a0 l0 c0, t15, t16, t17, t18, t19, t20, t21, t22, t23, t24, t25, t26, t27, t28, t29, t30, t31, t32, t33, t34, t35, t36, t37, t38, t39, t40, t41, t42, t43, t44, t45, t46, t47, t48, t49, t50, t51, t52, t53, t54, t55, t56, t57, t58, t59, t60, t61, t62, t63, t64, t65, t66, t67, t68, t69, t70, t71, t72, t73, t74, t75, t76, t77, t78, t79, t80, t81, t82, t83, t84, t85, t86, t87, t88, t89, t90, t91, t92, t93, t94, t95, t96, t97, t98, t99, t100, t101, t102, t103, t104, t105, t106, t107, t108, t109, t110, t111, t112, t113, t114, t115, t116, t117, t118, t119, t120, t121, t122, t123, t124, t125, t126, t127, t128, t129, t130, t131, t132, t133, t134, t135, t136, t137, t138, t139, t140, t141, t142, t143, t144, t145, t146, t147, t148, t149, t150, t151, t152, t153, t154, t155, t156, t157, t158, t159, t160, t161, t162, t163, t164, t165, t166, t167, t168, t169, t170, t171, t172, t173, t174, t175, t176, t177, t178, t179, t180, t181, t182, t183, t184, t185, t186, t187, t188, t189, t190, t191, t192, t193, t194, t195, t196, t197, t198, t199, t200, t201, t202, t203, t204, t205, t206, t207, t208, t209, t210, t211, t212, t213, t214, t215, t216, t217, t218, t219, t220, t221, t222, t223, t224, t225, t226, t227, t228, t229, t230, t231, t232, t233, t234, t235, t236, t237, t238, t239, t240, t241, t242], defers := [] } w := by
  have hU0 : Upd w w.drew [] := (Upd.refl w []).drew
  refine wp_region_held_drew (S := Held zb sb T del) hm h0 (fun hS => ?_)
  refine wpAnyH_take (i := 0) (v := .int .i64 kk) rfl (by kernel_rfl) (by kernel_rfl) (by kernel_rfl) (fun _ _ _ h => absurd h.1 (by simp)) (yields_move (by rfl) _ rfl _ rfl) hS ?_
  simp only [List.getElem_toArray, List.getElem_cons_succ, List.getElem_cons_zero, Act.put, List.setIfInBounds_toArray, List.set_cons_zero, List.set_cons_succ]
  refine wpAnyH_take (i := 2) (v := .slice a0 l0 c0) rfl (by kernel_rfl) (by kernel_rfl) (by kernel_rfl) (fun _ _ _ h => absurd h.1 (by simp)) (yields_move (by rfl) _ rfl _ rfl) hS ?_
  simp only [List.getElem_toArray, List.getElem_cons_succ, List.getElem_cons_zero, Act.put, List.setIfInBounds_toArray, List.set_cons_zero, List.set_cons_succ]
  refine wpAnyH_take (i := 3) (v := .agg #[.int .u64 0, .int .i64 0, .pointer none]) rfl (by kernel_rfl) (by kernel_rfl) (by kernel_rfl) (fun _ _ _ h => absurd h.1 (by simp)) (yieldsIf_load_mid (by rfl) _ _ rfl zb 0 rfl [.int .u64 0, .int .i64 0, .pointer none] ds30 (fun w h => h.1) hu hdr hi) hS ?_
  simp only [List.getElem_toArray, List.getElem_cons_succ, List.getElem_cons_zero, Act.put, List.setIfInBounds_toArray, List.set_cons_zero, List.set_cons_succ]
  refine wpAnyH_take (i := 4) (v := .pointer (some ⟨sb, 2, none⟩)) rfl (by kernel_rfl) (by kernel_rfl) (by kernel_rfl) (fun _ _ _ h => absurd h.1 (by simp)) (yields_field (by rfl) 25 (.tmp 12) 2 rfl _ rfl _ hf2) hS ?_
  simp only [List.getElem_toArray, List.getElem_cons_succ, List.getElem_cons_zero, Act.put, List.setIfInBounds_toArray, List.set_cons_zero, List.set_cons_succ]
  refine wpAnyH_take (i := 5) (v := .int .i64 T) rfl (by kernel_rfl) (by kernel_rfl) (by kernel_rfl) (fun _ _ _ h => absurd h.1 (by simp)) (yields_load1 (by rfl) 2 (.tmp 72) rfl _ rfl _ (fun w h => hld2 w _ _ h.2.1)) hS ?_
  simp only [List.getElem_toArray, List.getElem_cons_succ, List.getElem_cons_zero, Act.put, List.setIfInBounds_toArray, List.set_cons_zero, List.set_cons_succ]
  refine wpAnyH_take (i := 7) (v := .pointer (some ⟨sb, 3, none⟩)) rfl (by kernel_rfl) (by kernel_rfl) (by kernel_rfl) (fun _ _ _ h => absurd h.1 (by simp)) (yields_field (by rfl) 25 (.tmp 12) 3 rfl _ rfl _ hf3) hS ?_
  simp only [List.getElem_toArray, List.getElem_cons_succ, List.getElem_cons_zero, Act.put, List.setIfInBounds_toArray, List.set_cons_zero, List.set_cons_succ]
  refine wpAnyH_take (i := 8) (v := .bool del) rfl (by kernel_rfl) (by kernel_rfl) (by kernel_rfl) (fun _ _ _ h => absurd h.1 (by simp)) (yields_load1 (by rfl) 4 (.tmp 75) rfl _ rfl _ (fun w h => hld4 w _ _ h.2.2)) hS ?_
  simp only [List.getElem_toArray, List.getElem_cons_succ, List.getElem_cons_zero, Act.put, List.setIfInBounds_toArray, List.set_cons_zero, List.set_cons_succ]
  refine wpAnyH_ready (rs := [1, 10]) (by kernel_rfl) (by simp) ?_
  refine AllReadyH.cons rfl (fun K hK => ?_) (AllReadyH.cons rfl (fun K hK => ready_alloc (by rfl) 41 rfl _ halloc (hK.out _ _ (hS.upd ((Upd.refl _ []).alloc _)) (fun hS8 => ?_))) AllReadyH.nil)
  · skip
    rw [if_pos (by rfl)]
    refine wp_call_fn 6 (.tmp 68) 3 rfl (.int .i64 kk) rfl (henter6 _) (A6 _) ?_
    rintro e w6 ⟨rfl, rfl⟩
    refine ⟨_, rfl, hK.out _ _ hS (fun hS1 => ?_)⟩
    clear hK K
    simp only [List.getElem_toArray, List.getElem_cons_succ, List.getElem_cons_zero, Act.put, List.setIfInBounds_toArray, List.set_cons_zero, List.set_cons_succ]
    refine wpAnyH_ready (rs := [6, 10]) (by kernel_rfl) (by simp) ?_
    refine AllReadyH.cons rfl (fun K hK => ?_) (AllReadyH.cons rfl (fun K hK => ready_alloc (by rfl) 41 rfl _ halloc (hK.out _ _ (hS1.upd ((Upd.refl _ []).alloc _)) (fun hS8 => ?_))) AllReadyH.nil)
    · skip
      rw [if_pos (by rfl)]
      refine wp_call_fn2 7 (.tmp 71) (.tmp 73) 30 37 rfl (.agg #[.int .u64 0, .int .i64 0, .pointer none]) (.int .i64 T) rfl rfl (henter7 _ _) (A7 _) ?_
      rintro e w7 ⟨rfl, hU7⟩
      refine ⟨_, rfl, hK.out _ _ (hS1.upd hU7) (fun hS2 => ?_)⟩
      clear hK K
      simp only [List.getElem_toArray, List.getElem_cons_succ, List.getElem_cons_zero, Act.put, List.setIfInBounds_toArray, List.set_cons_zero, List.set_cons_succ]
      refine wpAnyH_take (i := 9) (v := .agg (itemOf kk (.slice a0 l0 c0) T del)) rfl (by kernel_rfl) (by kernel_rfl) (by kernel_rfl) (fun _ _ _ h => absurd h.1 (by simp)) (yields_build (by rfl) 41 #[(0, .tmp 69), (1, .tmp 70), (2, .tmp 74), (4, .tmp 76)] rfl _ (by simpa [Act.eval] using hb41)) hS2 ?_
      simp only [List.getElem_toArray, List.getElem_cons_succ, List.getElem_cons_zero, Act.put, List.setIfInBounds_toArray, List.set_cons_zero, List.set_cons_succ]
      refine wpAnyH_ready (rs := [10]) (by kernel_rfl) (by simp) ?_
      refine AllReadyH.cons rfl (fun K hK => ready_alloc (by rfl) 41 rfl _ halloc (hK.out _ _ (hS2.upd ((Upd.refl _ []).alloc _)) (fun hS8 => ?_))) AllReadyH.nil
      clear hK K
      simp only [List.getElem_toArray, List.getElem_cons_succ, List.getElem_cons_zero, Act.put, List.setIfInBounds_toArray, List.set_cons_zero, List.set_cons_succ]
      have hUx : Upd w _ [] := (hU0.tr0 hU7).alloc (.cells zero41 41 (0, 0))
      have hg : _ = some (Obj.cells _ 41 (0, 0)) := heap_alloc_new w7 (.cells zero41 41 (0, 0))
      have hge : w.heap.size ≤ w7.heap.size := by first | exact Nat.le_refl _ | exact hU7.size | (have := hU7.size; simpa using this) | (simp; done)
      refine wpAnyH_ready (rs := [11]) (by kernel_rfl) (by simp) ?_
      refine AllReadyH.cons rfl (fun K hK => ready_store (by rfl) 41 (.tmp 16) (.tmp 77) rfl w7.heap.size (itemOf kk (.slice a0 l0 c0) T del) rfl rfl 41 _ hg (by rw [hsz41]; rfl) rfl (by simp [itemOf, Value.oneCell']) (hK.out _ _ (hS8.setRow (itemOf kk (.slice a0 l0 c0) T del) hlt.1 hlt.2 hge) (fun hS9 => ?_))) AllReadyH.nil
      clear hK K
      refine wpAnyH_done (by kernel_rfl) ?_ _
      exact ⟨rfl, w7.heap.size, rfl, hge, setRow_heap _ _ _ _ _ _ hg, hUx.setRow _ _ (Or.inr hge)⟩
    · clear hK K
      simp only [List.getElem_toArray, List.getElem_cons_succ, List.getElem_cons_zero, Act.put, List.setIfInBounds_toArray, List.set_cons_zero, List.set_cons_succ]
      refine wpAnyH_ready (rs := [6]) (by kernel_rfl) (by simp) ?_
      refine AllReadyH.cons rfl (fun K hK => ?_) AllReadyH.nil
      rw [if_pos (by rfl)]
      refine wp_call_fn2 7 (.tmp 71) (.tmp 73) 30 37 rfl (.agg #[.int .u64 0, .int .i64 0, .pointer none]) (.int .i64 T) rfl rfl (henter7 _ _) (A7 _) ?_
      rintro e w7 ⟨rfl, hU7⟩
      refine ⟨_, rfl, hK.out _ _ (hS8.upd hU7) (fun hS2 => ?_)⟩
      clear hK K
      simp only [List.getElem_toArray, List.getElem_cons_succ, List.getElem_cons_zero, Act.put, List.setIfInBounds_toArray, List.set_cons_zero, List.set_cons_succ]
      refine wpAnyH_take (i := 9) (v := .agg (itemOf kk (.slice a0 l0 c0) T del)) rfl (by kernel_rfl) (by kernel_rfl) (by kernel_rfl) (fun _ _ _ h => absurd h.1 (by simp)) (yields_build (by rfl) 41 #[(0, .tmp 69), (1, .tmp 70), (2, .tmp 74), (4, .tmp 76)] rfl _ (by simpa [Act.eval] using hb41)) hS2 ?_
      simp only [List.getElem_toArray, List.getElem_cons_succ, List.getElem_cons_zero, Act.put, List.setIfInBounds_toArray, List.set_cons_zero, List.set_cons_succ]
      have hUx : Upd w _ [] := (hU0.alloc (.cells zero41 41 (0, 0))).tr0 hU7
      have hg : _ = some (Obj.cells _ 41 (0, 0)) := hU7.heap (heap_alloc_new w.drew (.cells zero41 41 (0, 0))) (by simp)
      have hge : w.heap.size ≤ w.drew.heap.size := by first | exact Nat.le_refl _ | exact hU7.size | (have := hU7.size; simpa using this) | (simp; done)
      refine wpAnyH_ready (rs := [11]) (by kernel_rfl) (by simp) ?_
      refine AllReadyH.cons rfl (fun K hK => ready_store (by rfl) 41 (.tmp 16) (.tmp 77) rfl w.drew.heap.size (itemOf kk (.slice a0 l0 c0) T del) rfl rfl 41 _ hg (by rw [hsz41]; rfl) rfl (by simp [itemOf, Value.oneCell']) (hK.out _ _ (hS2.setRow (itemOf kk (.slice a0 l0 c0) T del) hlt.1 hlt.2 hge) (fun hS9 => ?_))) AllReadyH.nil
      clear hK K
      refine wpAnyH_done (by kernel_rfl) ?_ _
      exact ⟨rfl, w.drew.heap.size, rfl, hge, setRow_heap _ _ _ _ _ _ hg, hUx.setRow _ _ (Or.inr hge)⟩
  · clear hK K
    simp only [List.getElem_toArray, List.getElem_cons_succ, List.getElem_cons_zero, Act.put, List.setIfInBounds_toArray, List.set_cons_zero, List.set_cons_succ]
    refine wpAnyH_ready (rs := [1]) (by kernel_rfl) (by simp) ?_
    refine AllReadyH.cons rfl (fun K hK => ?_) AllReadyH.nil
    rw [if_pos (by rfl)]
    refine wp_call_fn 6 (.tmp 68) 3 rfl (.int .i64 kk) rfl (henter6 _) (A6 _) ?_
    rintro e w6 ⟨rfl, rfl⟩
    refine ⟨_, rfl, hK.out _ _ hS8 (fun hS1 => ?_)⟩
    clear hK K
    simp only [List.getElem_toArray, List.getElem_cons_succ, List.getElem_cons_zero, Act.put, List.setIfInBounds_toArray, List.set_cons_zero, List.set_cons_succ]
    refine wpAnyH_ready (rs := [6]) (by kernel_rfl) (by simp) ?_
    refine AllReadyH.cons rfl (fun K hK => ?_) AllReadyH.nil
    rw [if_pos (by rfl)]
    refine wp_call_fn2 7 (.tmp 71) (.tmp 73) 30 37 rfl (.agg #[.int .u64 0, .int .i64 0, .pointer none]) (.int .i64 T) rfl rfl (henter7 _ _) (A7 _) ?_
    rintro e w7 ⟨rfl, hU7⟩
    refine ⟨_, rfl, hK.out _ _ (hS1.upd hU7) (fun hS2 => ?_)⟩
    clear hK K
    simp only [List.getElem_toArray, List.getElem_cons_succ, List.getElem_cons_zero, Act.put, List.setIfInBounds_toArray, List.set_cons_zero, List.set_cons_succ]
    refine wpAnyH_take (i := 9) (v := .agg (itemOf kk (.slice a0 l0 c0) T del)) rfl (by kernel_rfl) (by kernel_rfl) (by kernel_rfl) (fun _ _ _ h => absurd h.1 (by simp)) (yields_build (by rfl) 41 #[(0, .tmp 69), (1, .tmp 70), (2, .tmp 74), (4, .tmp 76)] rfl _ (by simpa [Act.eval] using hb41)) hS2 ?_
    simp only [List.getElem_toArray, List.getElem_cons_succ, List.getElem_cons_zero, Act.put, List.setIfInBounds_toArray, List.set_cons_zero, List.set_cons_succ]
    have hUx : Upd w _ [] := (hU0.alloc (.cells zero41 41 (0, 0))).tr0 hU7
    have hg : _ = some (Obj.cells _ 41 (0, 0)) := hU7.heap (heap_alloc_new w.drew (.cells zero41 41 (0, 0))) (by simp)
    have hge : w.heap.size ≤ w.drew.heap.size := by first | exact Nat.le_refl _ | exact hU7.size | (have := hU7.size; simpa using this) | (simp; done)
    refine wpAnyH_ready (rs := [11]) (by kernel_rfl) (by simp) ?_
    refine AllReadyH.cons rfl (fun K hK => ready_store (by rfl) 41 (.tmp 16) (.tmp 77) rfl w.drew.heap.size (itemOf kk (.slice a0 l0 c0) T del) rfl rfl 41 _ hg (by rw [hsz41]; rfl) rfl (by simp [itemOf, Value.oneCell']) (hK.out _ _ (hS2.setRow (itemOf kk (.slice a0 l0 c0) T del) hlt.1 hlt.2 hge) (fun hS9 => ?_))) AllReadyH.nil
    clear hK K
    refine wpAnyH_done (by kernel_rfl) ?_ _
    exact ⟨rfl, w.drew.heap.size, rfl, hge, setRow_heap _ _ _ _ _ _ hg, hUx.setRow _ _ (Or.inr hge)⟩
end Go.Proofs.Ybulkjnc
