import Derived.Test.YbulkjjwFmtMsg
namespace Go.Proofs.YbulkjjwFmt
open Go.RowKit

/-- 'copy(dst, src)' as one step of a region that draws: dst in a row that is known whole, at least one element on either side. -/
theorem step_copy_upd {P : Program} {ops : Array Oper} {o : Oper} {a : Act} {w : World} {K : Act → World → Prop} {Q : Exit → Act → World → Prop} {E : Prop} (hgd : o.guard = none) (d s : Operand) (dT sT : TypeId)
    (ho : o.op = .call { callee := .builtin .copy, args := #[d, s], argTypes := #[dT, sT] }) (elem : TypeId) (hu : P.underlying dT = some (.slice elem)) (hsz : (P.info? elem).map (·.size) = some 1)
    (ad : Addr) (dLen dCap sLen sCap : Nat) (g off : Nat) (hd : a.eval d = .slice (some ⟨g, off, none⟩) dLen dCap) (hs : a.eval s = .slice (some ad) sLen sCap)
    (cur : List Value) (t : TypeId) (hg : w.heap[g]? = some (.cells cur.toArray t (0, 0))) (cs : List Value) (hn : cs.length = Nat.min sLen dLen)
    (hsrc : ∀ j v, cs[j]? = some v → w.cell? (ad.add j) = some v)
    (hfit : off + cs.length ≤ cur.length) (h1 : ∀ v ∈ cs, v.oneCell' = true) (k : Nat) (hk : cs.length = k)
    (h : ∀ w', Hid (w'.heap[g]? = some (.cells (splice cur off cs).toArray t (0, 0))) → Upd w w' [g] → K (a.put o.dst (goInt k)) w') :
    if Region.wanted o (yielded ops a.tmps) = true then Oper.wp P o a w K Q else E := by
  subst hk
  have hw : Region.wanted o (yielded ops a.tmps) = true := by simp [Region.wanted, hgd]
  rw [if_pos hw]
  have hrun := run_copy_row (P := P) w dT sT o.type elem g off dLen dCap ad sLen sCap cur.toArray t cs hu hsz hg hn hsrc (by simpa using hfit) h1
  unfold Oper.wp
  simp [execOp, ho, resolve, invoke, builtin, hd, hs, hrun, Result.andThen]
  exact h _ (show _ = _ by simpa [splice] using setRow_heap w g _ _ t _ hg) ((Upd.refl w [g]).setRow g _ (Or.inl (by simp)))

theorem Ybaf.size5 : (Ybaf.prog.info? 5).map (·.size) = some 1 := by kernel_rfl

theorem RowOf.cellAt {w : World} {g i m : Nat} {zs : List Int} (h : RowOf w g zs) : ∀ j u, (byteVals ((zs.drop i).take m))[j]? = some u → w.cell? ((⟨g, i, none⟩ : Addr).add j) = some u := by
  intro j u hu
  have hadd : (⟨g, i, none⟩ : Addr).add j = ⟨g, i + j, none⟩ := by unfold Addr.add; split <;> simp_all
  have hadd0 : (⟨g, 0, none⟩ : Addr).add (i + j) = ⟨g, i + j, none⟩ := by unfold Addr.add; split <;> simp_all
  rw [hadd, ← hadd0]
  refine h.cell (i + j) u ?_
  simp only [byteVals, List.getElem?_map, List.getElem?_take, List.getElem?_drop] at hu ⊢
  split at hu
  · exact hu
  · cases hu

set_option maxHeartbeats 400000 in
theorem read_walk (Br gs n capS i : Nat) (src : List Int) (d o m c : Nat) (cur : List Value) (t : TypeId) (w : World)
    (hr : w.heap[Br]? = some (.cells #[.slice (some ⟨gs, 0, none⟩) n capS, .int .i64 i] 34 (0, 0))) (hs : RowOf w gs src) (hn : src.length = n) (hcap : n ≤ capS)
    (hd : w.heap[d]? = some (.cells cur.toArray t (0, 0))) (hm : 0 < m) (him : i + m ≤ n) (hlim : n ≤ 100000) (hfit : o + m ≤ cur.length) (hne1 : d ≠ Br) :
    Calls Ybaf.prog 43 #[.pointer (some ⟨Br, 0, none⟩), .slice (some ⟨d, o, none⟩) m c] w fun e w' => e = .returned (.tuple #[.int .i64 m, .nilIface]) ∧
      w'.heap[Br]? = some (.cells #[.slice (some ⟨gs, 0, none⟩) n capS, .int .i64 (i + m : Nat)] 34 (0, 0)) ∧
      w'.heap[d]? = some (.cells (splice cur o (byteVals ((src.drop i).take m))).toArray t (0, 0)) ∧ Upd w w' [Br, d] := by
  have e0 := cell_of (j := 0) hr rfl
  have e1 := cell_of (j := 1) hr rfl
  have hlt := lt_of_heap hr
  have HR := hid hr
  have HS := hid hs
  have HD := hid hd
  have HN := hid hn
  have h1 : (i : Int) < (n : Int) := by omega
  have h2 : i < n := by omega
  have h3 : i ≤ n := by omega
  have h4 : ¬ capS = i := by omega
  have HM : Hid ((byteVals ((src.drop i).take m)).length = m) := by show _ = _; rw [byteVals_length, List.length_take, List.length_drop, hn]; omega
  have HL : Hid ((byteVals ((src.drop i).take m)).length = Nat.min (n - i) m) := by show _ = _; rw [HM.out]; exact (Nat.min_eq_right (by omega)).symm
  have HF : Hid (o + (byteVals ((src.drop i).take m)).length ≤ cur.length) := by show _ ≤ _; rw [HM.out]; exact hfit
  clear hr hs hd hn
  go_enter Ybaf.func43, Ybaf.ntmps43
  go_wp2
  go_quiet (fail)
  go_wp2
  go_region_law (refine step_copy_upd rfl (.tmp 18) (.tmp 27) 22 22 rfl 5 Ybaf.underlying22 Ybaf.size5 ⟨gs, i, none⟩ m c (n - i) (capS - i) d o rfl rfl cur t HD.out (byteVals ((src.drop i).take m)) HL.out HS.out.cellAt HF.out (byteVals_one _) m HM.out ?_; intro w1 hg1 hU1; have hb1 := hU1.heap HR.out (by simpa using Ne.symm hne1); have q1 := cell_of (j := 1) hb1 rfl; have f1 := free_of hb1 1; have HB1 := hid hb1; clear hb1)
  all_goals
    go_wp2
    go_ret2
    refine ⟨rfl, heap_set HB1.out, ?_, ?_⟩
    · exact (Below.heap_setCell _ _ _ _ hne1).trans hg1.out
    · exact (((Upd.refl w [Br, d]).drewN (nq + 1)).trans' hU1 (by simp)).setCell ⟨Br, 1, none⟩ _ (Or.inl (by simp))
end Go.Proofs.YbulkjjwFmt
