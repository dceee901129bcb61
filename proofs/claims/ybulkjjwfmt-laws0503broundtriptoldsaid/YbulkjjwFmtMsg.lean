import Derived.Test.YbulkjjwFmtWrite
namespace Go.Proofs.YbulkjjwFmt
open Go.RowKit

/-- What is known of the payload: the slice '.slice ao len cap' holds the bytes 'zs', in blocks below B. -/
def PayIs (B : Nat) (w : World) (ao : Option Addr) (len cap : Nat) (zs : List Int) : Prop :=
  zs.length = len ∧ (ao = none → len = 0 ∧ cap = 0) ∧ ∀ ad, ao = some ad → ∀ j u, (byteVals zs)[j]? = some u → ad.block < B ∧ w.cell? (ad.add j) = some u
theorem add_blk (a : Addr) (j : Nat) : (a.add j).block = a.block := by unfold Addr.add; split <;> rfl
theorem PayIs.carry {B : Nat} {w w' : World} {ao : Option Addr} {len cap : Nat} {zs : List Int} (h : PayIs B w ao len cap zs) (hb : Below B w w') : PayIs B w' ao len cap zs := by
  obtain ⟨h1, h2, h3⟩ := h
  refine ⟨h1, h2, fun ad ha j u hu => ?_⟩
  obtain ⟨h4, h5⟩ := h3 ad ha j u hu
  exact ⟨h4, (hb.cell (by rw [add_blk]; exact h4)).trans h5⟩

def msg (ka : Bool) (id : Int) (zs : List Int) : List Int := if ka then [0, 0, 0, 0] else 0 :: 0 :: (((1 + zs.length) / 256 : Nat) : Int) :: (((1 + zs.length) % 256 : Nat) : Int) :: id :: zs

theorem replicate_made (z : Value) (h : z.cells = #[z]) (n : Nat) : madeCells z.cells (n * 1) = (List.replicate n z).toArray := by
  rw [h, Nat.mul_one]
  apply Array.toList_inj.1
  rw [toList_madeCells_one]

/-- 'make([]T, n, m)', elements of one cell: the new block whole. -/
theorem wpList_make_cap {P : Program} (w : World) {ops : Array Oper} {rest : List Oper} {o : Oper} {a : Act} {Q : Exit → Act → World → Prop}
    (hg : o.guard = none) (l c : Operand) (t : TypeId) (hop : o.op = Op.makeSlice t l c)
    (e : TypeId) (i : TypeInfo) (z : Value) (h1 : P.underlying t = some (.slice e)) (h2 : P.info? e = some i) (h3 : i.zero = some z) (h4 : i.size = 1) (hz : z.cells = #[z])
    (kl kc : IntKind) (L C : Int) (n m : Nat) (hl : a.eval l = .int kl L) (hc : a.eval c = .int kc C) (hL : L = (n : Int)) (hC : C = (m : Int)) (hnm : n ≤ m) (b2 : i.bytes * m ≤ 281474976710656) (b3 : m ≤ 9223372036854775807)
    (hK : ∀ w', w'.heap[w.heap.size]? = some (.cells (List.replicate m z).toArray e (0, 0)) → Upd w w' [] → w'.heap.size = w.heap.size + 1 → wpList P ops Q rest (a.put o.dst (.slice (some ⟨w.heap.size, 0, none⟩) n m)) w') :
    wpList P ops Q (o :: rest) a w := by
  refine wpList_plain hg fun K hK' => ?_
  subst hL
  subst hC
  have hb : (i.bytes : Int) * (m : Int) ≤ 281474976710656 := by
    have h : ((i.bytes * m : Nat) : Int) ≤ 281474976710656 := by omega
    rwa [Int.natCast_mul] at h
  have hrun := run_make (P := P) w t e i z h1 h2 h3 kl kc (n : Int) (m : Int) (by omega) (by omega) hb (by omega)
  simp only [Int.toNat_natCast, h4, replicate_made z hz] at hrun
  unfold Oper.wp
  simp [execOp, hop, hl, hc, hrun, Result.andThen]
  exact hK' _ _ (hK _ (heap_alloc_new w _) ((Upd.refl w []).alloc _) (by simp))

theorem box_kept {w w1 : World} {cs : Array Value} {t : TypeId} (h : Upd (w.alloc (.cells cs t)) w1 []) : w1.heap[w.heap.size]? = some (.cells cs t (0, 0)) :=
  h.heap (heap_alloc_new w _) (by simp)

theorem owns_of_heap {w : World} {g base n cap : Nat} {cs : List Value} (hg : w.heap[g]? = some (.cells cs.toArray 5 (0, 0))) (hb : base ≤ g) (hn : n ≤ cap) (hm : cap ≤ maxLen) (hs : cs.length = cap) :
    w.ownsRow base 5 1 (.slice (some ⟨g, 0, none⟩) n cap) n (cs.take n) :=
  ⟨by simp; omega, Or.inr ⟨g, cap, cs.toArray, rfl, hb, hg, hn, hm, by simp; omega, by simp⟩⟩

theorem app_kept {w2 w3 : World} {o : Obj} {k : Nat} {cs : Array Value} {t : TypeId} (h : w2.heap[k]? = some (.cells cs t (0, 0))) (hg : (w2.alloc o).grownBy w3 (some (k + 1))) (hk : k < w2.heap.size) : w3.heap[k]? = some (.cells cs t (0, 0)) := by
  rw [hg.block k (by simp; omega) (by simp), Below.heap_alloc _ _ _ hk]
  exact h
theorem pay_later {B Bw : Nat} {w w2 w3 : World} {o : Obj} {ao : Option Addr} {len cap : Nat} {zs : List Int} (hp : PayIs B w ao len cap zs) (hU : Upd w w2 []) (hg : (w2.alloc o).grownBy w3 (some (w.heap.size + 1))) (hB : B ≤ Bw) (hlt : Bw < w.heap.size) :
    ∀ ad, ao = some ad → ∀ j u, (byteVals zs)[j]? = some u → w3.cell? (ad.add j) = some u := by
  have hb : Below B w w3 := ((hU.alloc o).grown hg (fun k hk => by cases hk; right; omega)).below (by omega) (by simp)
  exact fun ad ha j u hu => ((hp.carry hb).2.2 ad ha j u hu).2

theorem meth_write (a : Addr) (w : World) : (method 205 23 (.pointer (some a)) "Write").run Ybaf.prog w = .ok (41, .pointer (some a)) w := by kernel_rfl

set_option maxHeartbeats 400000 in
theorem writeMsg_no (Bw B : Nat) (id : Int) (ao : Option Addr) (len cap : Nat) (zs : List Int) (w : World) (hlen : len ≤ 1024) (hB : B ≤ Bw)
    (hw : w.heap[Bw]? = some (.cells #[.int .i64 0, .slice none 0 0, .nilIface] 27 (0, 0))) (hp : PayIs B w ao len cap zs) :
    Calls Ybaf.prog 4 #[.iface 23 (.pointer (some ⟨Bw, 0, none⟩)), .agg #[.bool false, .int .u8 id, .slice ao len cap]] w fun e w' => e = .returned .nilIface ∧
      (∃ g cap', w.heap.size ≤ g ∧ (msg false id zs).length ≤ cap' ∧ RowOf w' g (msg false id zs) ∧ w'.heap[Bw]? = some (.cells #[.int .i64 1, .slice (some ⟨g, 0, none⟩) (msg false id zs).length cap', .nilIface] 27 (0, 0))) ∧ Upd w w' [Bw] := by
  obtain ⟨i0, hi, hz0, hz1, hz2⟩ := info_parts Ybaf.info5
  have hlt := lt_of_heap hw
  have HW := hid hw
  have HP := hid hp
  clear hw hp
  have hmeth := meth_write
  go_enter Ybaf.func4, Ybaf.ntmps4
  go_wp2_with (at_make; refine wpList_make_cap _ rfl (.const (.int .i64 4)) (.tmp 11) 22 rfl 5 i0 (.int .u8 0) Ybaf.underlying22 hi hz0 hz1 rfl .i64 .i64 4 _ 4 (5 + len) rfl rfl rfl (by omega) (by omega) (by rw [hz2]; omega) (by omega) ?_; intro w1 hg1 hU1 hs1; have hbx := box_kept hU1; have q0 := cell_of (j := 0) hbx rfl; have q1 := cell_of (j := 1) hbx rfl; have q2 := cell_of (j := 2) hbx rfl; clear hbx)
  have hg1' : w1.heap[w.heap.size + 1]? = some (.cells (List.replicate (5 + len) (.int .u8 0)).toArray 5 (0, 0)) := by simpa using hg1
  rw [show 5 + len = (1 + len) + 1 + 1 + 1 + 1 by omega, List.replicate_succ, List.replicate_succ, List.replicate_succ, List.replicate_succ] at hg1'
  refine (put32 (w.heap.size + 1) 4 (5 + len) (1 + len) (1 + len) (by omega) _ _ _ _ _ w1 (by omega) (by omega) hg1').mono ?_
  rintro e w2 ⟨rfl, hg2, hU2⟩
  clear hg1 hg1'
  have hU12 : Upd w w2 [] := (((Upd.refl w []).alloc _).trans' hU1 (by simp)).trans' hU2 (by simp)
  have hbx2 := hU2.heap (box_kept hU1) (by simp)
  have hs2 : w1.heap.size ≤ w2.heap.size := hU2.size
  clear hU2 q0 q1 q2
  have q1 := cell_of (j := 1) hbx2 rfl
  have q2 := cell_of (j := 2) hbx2 rfl
  have hown2 := owns_of_heap (base := w.heap.size) (n := 4) (cap := 5 + len) hg2 (by omega) (by omega) (by unfold maxLen; omega) (by simp; omega)
  have HBX := hid hbx2
  have HO2 := hid hown2
  have hs1' : w1.heap.size = w.heap.size + 2 := by simpa using hs1
  clear hbx2 hown2 hg2 hs1
  have hs2' : w.heap.size + 2 ≤ w2.heap.size := by omega
  have ht2 : w.heap.size < w2.heap.size := by omega
  go_wp2_with (first | (at_builtin; refine wpList_append_fits _ rfl (.tmp 24) (.tmp 27) 22 rfl w.heap.size 5 i0 1 Ybaf.underlying22 hi hz1 (w.heap.size + 1) 4 (5 + len) _ rfl (HO2.out.alloc _) ⟨w2.heap.size, 0, none⟩ 1 1 [.int .u8 id] rfl rfl (cell_one_new _ _ _) (byteVals_one [id]) (by omega) ?_; intro w3 hown3 hgr3; have hbx3 := app_kept HBX.out hgr3 ht2; have q2' := cell_of (j := 2) hbx3 rfl; clear hbx3) | (at_builtin; refine wpList_append_fits_any _ rfl (.tmp 29) (.tmp 31) 22 rfl w.heap.size 5 i0 1 Ybaf.underlying22 hi hz1 (w.heap.size + 1) 5 (5 + len) _ rfl hown3 ao len cap (byteVals zs) rfl (by rw [byteVals_length, HP.out.1, Nat.mul_one]) HP.out.2.1 (pay_later HP.out hU12 hgr3 hB hlt) (byteVals_one zs) (by omega) ?_; intro w4 hown4 hgr4))
  have hm4 : w4.ownsRow w.heap.size 5 1 (.slice (some ⟨w.heap.size + 1, 0, none⟩) (5 + len) (5 + len)) (5 + len) (byteVals (msg false id zs)) := by
    refine cast (congrArg _ ?_) hown4
    simp [byteVals, msg, HP.out.1]
  have hU3 : Upd w w3 [] := (hU12.alloc _).grown hgr3 (fun k hk => by cases hk; right; omega)
  have hU4 : Upd w w4 [] := hU3.grown hgr4 (fun k hk => by cases hk; right; omega)
  have hml : (msg false id zs).length = 5 + len := by simp [msg, HP.out.1]; omega
  refine (write_any Bw (w.heap.size + 1) (5 + len) (5 + len) (msg false id zs) w4 hml (by omega) (by omega) (by omega) (hU4.heap HW.out (by simp)) (row_of_owns hm4)).mono ?_
  rintro e w5 ⟨rfl, ⟨g, cap', hgs, hnc, hrow, hbw⟩, hU5⟩
  have HR := hid hrow
  have HBW := hid hbw
  clear hrow hbw hown4 hown3 hgr3 hgr4 hm4
  go_wp2
  go_ret
  refine ⟨rfl, ⟨g, cap', by have := hU4.size; omega, by rw [hml]; exact hnc, HR.out, by rw [hml]; exact HBW.out⟩, hU4.trans hU5⟩

set_option maxHeartbeats 400000 in
theorem writeMsg_yes (Bw : Nat) (id : Int) (ao : Option Addr) (len cap : Nat) (zs : List Int) (w : World) (hlen : len ≤ 1024)
    (hw : w.heap[Bw]? = some (.cells #[.int .i64 0, .slice none 0 0, .nilIface] 27 (0, 0))) :
    Calls Ybaf.prog 4 #[.iface 23 (.pointer (some ⟨Bw, 0, none⟩)), .agg #[.bool true, .int .u8 id, .slice ao len cap]] w fun e w' => e = .returned .nilIface ∧
      (∃ g cap', w.heap.size ≤ g ∧ (msg true id zs).length ≤ cap' ∧ RowOf w' g (msg true id zs) ∧ w'.heap[Bw]? = some (.cells #[.int .i64 1, .slice (some ⟨g, 0, none⟩) (msg true id zs).length cap', .nilIface] 27 (0, 0))) ∧ Upd w w' [Bw] := by
  obtain ⟨i0, hi, hz0, hz1, hz2⟩ := info_parts Ybaf.info5
  have hlt := lt_of_heap hw
  have HW := hid hw
  clear hw
  have hmeth := meth_write
  go_enter Ybaf.func4, Ybaf.ntmps4
  go_wp2_with (at_make; refine wpList_make_cap _ rfl (.const (.int .i64 4)) (.tmp 11) 22 rfl 5 i0 (.int .u8 0) Ybaf.underlying22 hi hz0 hz1 rfl .i64 .i64 4 _ 4 (5 + len) rfl rfl rfl (by omega) (by omega) (by rw [hz2]; omega) (by omega) ?_; intro w1 hg1 hU1 hs1; have hbx := box_kept hU1; have q0 := cell_of (j := 0) hbx rfl; have q1 := cell_of (j := 1) hbx rfl; have q2 := cell_of (j := 2) hbx rfl; clear hbx)
  have hg1' : w1.heap[w.heap.size + 1]? = some (.cells (List.replicate (5 + len) (.int .u8 0)).toArray 5 (0, 0)) := by simpa using hg1
  rw [show 5 + len = (1 + len) + 1 + 1 + 1 + 1 by omega, List.replicate_succ, List.replicate_succ, List.replicate_succ, List.replicate_succ] at hg1'
  have hU : Upd w w1 [] := ((Upd.refl w []).alloc _).trans' hU1 (by simp)
  have hr : RowOf w1 (w.heap.size + 1) (msg true id zs) := ⟨_, hg1', by simp [msg, byteVals]⟩
  refine (write_any Bw (w.heap.size + 1) (5 + len) 4 (msg true id zs) w1 rfl (by omega) (by omega) (by omega) (hU.heap HW.out (by simp)) hr).mono ?_
  rintro e w5 ⟨rfl, ⟨g, cap', hgs, hnc, hrow, hbw⟩, hU5⟩
  have HR := hid hrow
  have HBW := hid hbw
  clear hrow hbw hg1 hg1' hr
  go_wp2
  go_ret
  refine ⟨rfl, ⟨g, cap', by have := hU.size; omega, hnc, HR.out, HBW.out⟩, hU.trans hU5⟩
end Go.Proofs.YbulkjjwFmt
