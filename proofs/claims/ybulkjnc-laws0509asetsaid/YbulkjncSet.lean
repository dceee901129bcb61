import Derived.Test.YbulkjncLaw
import Derived.ProofKit
import Derived.OpenShut
import Derived.ChangeOld
import Derived.Below
import Derived.Deep.Slices
namespace Go.Proofs.Ybulkjnc
open Go.ChangeShapes Go.WideShapes Go.ChangeAt Go.RowKit

set_option maxRecDepth 20000 in
theorem law_long (a : Option Addr) (len cap : Nat) (cut : Int) (w : World) (hlen : 1024 < len) (hm : len ≤ 9223372036854775807) :
    Calls Yba.prog 3 #[.slice a len cap, .int .i64 cut] w fun e w' => e = .returned (.bool true) ∧ Below w.heap.size w w' := by
  have hlen' : (1024 : Int) < (len : Int) := by omega
  have hm' : (len : Int) ≤ 9223372036854775807 := by omega
  go_enter Yba.func3, Yba.ntmps3
  go_wp2
  go_ret
  exact ⟨rfl, Below.refl _ _⟩

theorem own : ownKnob Yba.prog.godebug = none := by kernel_rfl
theorem laidOut : laidOutB Yba.prog = true := by kernel_rfl
theorem cells25 : Yba.prog.cellsOf 25 = 4 := by kernel_rfl
theorem cells23 : Yba.prog.cellsOf 23 = 1 := by kernel_rfl
theorem cells5 : Yba.prog.cellsOf 5 = 1 := by kernel_rfl
theorem cells2 : Yba.prog.cellsOf 2 = 1 := by kernel_rfl
theorem cells4 : Yba.prog.cellsOf 4 = 1 := by kernel_rfl

theorem len4 {α : Type} {l : List α} (h : l.length = 4) : ∃ a b c d, l = [a, b, c, d] := by
  match l, h with
  | [a, b, c, d], _ => exact ⟨a, b, c, d, rfl⟩

/-- One step of the script, read as data. -/
theorem step_of {H : Type} {enc : TypeId × Value → H} {W : World} {n : Nat} {cs : List Value} {x : DataW H × List MemPlace} (h : DataW.trod enc Yba.prog W 0 (fun _ => true) true n 25 cs = some x) :
    ∃ K v zs T del, cs = [.int .u8 K, v, .int .i64 T, .bool del] ∧ 0 ≤ K ∧ K ≤ 255 ∧ Bs W v zs ∧ (∀ z ∈ zs, 0 ≤ z ∧ z ≤ 255) ∧ zs.length ≤ 9223372036854775807 ∧ -9223372036854775808 ≤ T ∧ T ≤ 9223372036854775807 := by
  obtain ⟨xs, m, rfl, rfl, hl, hx, hf⟩ := DataW.trod_struct Yba.underlying25 h
  rw [cells25] at hl
  obtain ⟨c0, c1, c2, c3, rfl⟩ := len4 hl
  obtain ⟨x0, x1, x2, x3, rfl⟩ := len4 (show xs.length = 4 from hx)
  have f0 : DataW.trod enc Yba.prog W 0 (fun _ => true) true m 5 [c0] = some x0 := by have := hf 0 _ rfl; simpa [cells5] using this
  have f1 : DataW.trod enc Yba.prog W 0 (fun _ => true) true m 23 [c1] = some x1 := by have := hf 1 _ rfl; simpa [cells23] using this
  have f2 : DataW.trod enc Yba.prog W 0 (fun _ => true) true m 2 [c2] = some x2 := by have := hf 2 _ rfl; simpa [cells2] using this
  have f3 : DataW.trod enc Yba.prog W 0 (fun _ => true) true m 4 [c3] = some x3 := by have := hf 3 _ rfl; simpa [cells4] using this
  obtain ⟨K, e0, _, w0⟩ := DataW.trod_int Yba.underlying5 f0
  obtain ⟨T, e2, _, w2⟩ := DataW.trod_int Yba.underlying2 f2
  obtain ⟨del, e3, _⟩ := DataW.trod_bool Yba.underlying4 f3
  simp only [List.cons.injEq, and_true] at e0 e2 e3
  subst e0 e2 e3
  obtain ⟨k0, k1⟩ := bounds_u8 w0
  obtain ⟨t0, t1⟩ := bounds_i64 w2
  rcases open_ints Yba.underlying23 Yba.underlying5 cells5 f1 with ⟨e1, _⟩ | ⟨a, len, cap, zs, e1, _, hlc, hm, hz, _, hc, hw⟩
  · simp only [List.cons.injEq, and_true] at e1
    subst e1
    exact ⟨K, _, [], T, del, rfl, k0, k1, .inl ⟨rfl, rfl⟩, by simp, by simp, t0, t1⟩
  · simp only [List.cons.injEq, and_true] at e1
    subst e1
    have hz' : zs.length = cap := by simpa using hz
    have hl' : (zs.take len).length = len := by simp; omega
    refine ⟨K, _, zs.take len, T, del, rfl, k0, k1, .inr ⟨a, len, cap, rfl, hl', fun j u hj => ?_⟩, fun z hz1 => bounds_u8 (hw z (List.mem_of_mem_take hz1)), by rw [hl']; unfold maxLen at hm; omega, t0, t1⟩
    unfold byteVals at hj
    rw [List.getElem?_map, Option.map_eq_some_iff] at hj
    obtain ⟨z, hz1, rfl⟩ := hj
    have hjl : j < len := by
      have := (List.getElem?_eq_some_iff.1 hz1).1
      omega
    have := hc j (by omega)
    rw [List.getElem?_take, if_pos hjl] at hz1
    rw [this]
    simp [List.getD, hz1]

set_option maxRecDepth 100000 in
theorem set_lifted (os : Os) (started : os.Started) (H : Type) (enc : TypeId × Value → H) :
    ReturnsInHanded {} Yba.checked os 3 .any (Rows.lawS0509ASetSpec.pre6 enc Yba.prog Yba.f3 Rows.lawS0509ASetRow.domain false) (Rows.lawS0509ASetSpec.post enc Yba.prog Yba.f3 false true false false) := by
  refine returnsInHanded_of_change (C := Yba.checked) own started (by kernel_rfl) Yba.func3
    (ChangeSpec.witness6 (enc := enc) (C := Yba.checked) false ⟨#[], #[.slice none 0 0, .int .i64 0], []⟩ 8 (by kernel_rfl) (by kernel_rfl) (by kernel_rfl) (by kernel_rfl)) ?_
  intro W base args ds gs before hval0 hW hcnd _
  have hval : ∀ (j : Nat) t v, Yba.f3.params[j]? = some t → args[j]? = some v → Value.okWide Yba.prog W .any base t v := hval0
  have hW' := hW
  obtain ⟨p, q, hA0, hV, rfl, hfz, hnd⟩ := hW
  have hA : DataW.TrodAll enc Yba.prog W 0 (fun _ => true) true Yba.f3.params.toList args.toList ds p := hA0
  rw [Yba.params3] at hA hval
  obtain ⟨v0, vs0, d0, ds0, p0, q0, hargs, rfl, rfl, h0, r0⟩ := trodAll_cons hA
  obtain ⟨v1, vs1, d1, ds1, p1, q1, rfl, rfl, rfl, h1, r1⟩ := trodAll_cons r0
  obtain ⟨rfl, rfl, rfl⟩ := trodAll_nil r1
  obtain rfl : args = #[v0, v1] := by cases args; simp_all
  obtain ⟨rfl, rfl⟩ := trodVars_none hV
  obtain ⟨cut, rfl, rfl, rfl, w1⟩ := open_int Yba.underlying2 (hval 1 2 v1 rfl rfl) h1
  obtain ⟨ao, len, cap, rfl⟩ := okWide_slice Yba.underlying22 (hval 0 22 v0 rfl rfl)
  have k0 := h0
  have lt0 : ∀ x ∈ p0, x.block < W.heap.size := by obtain ⟨m, hm⟩ := k0; exact DataW.trod_lt m _ _ _ hm
  obtain ⟨hm, hsteps⟩ : len ≤ maxLen ∧ ∀ i, i < len → ∃ s : Int × Value × List Int × Int × Bool, StepAt W ao i s.1 s.2.1 s.2.2.1 s.2.2.2.1 s.2.2.2.2 := by
    obtain ⟨fuel, hf⟩ := h0
    rcases Go.Deep.open_slice Yba.underlying22 hf with ⟨hcs, _⟩ | ⟨x, l, c, m, n, D, Pl, hcs, _, hl, hm, hmm, _, hcell⟩
    · simp [Value.cells] at hcs
      obtain ⟨rfl, rfl, rfl⟩ := hcs
      exact ⟨Nat.zero_le _, fun i hi => absurd hi (Nat.not_lt_zero _)⟩
    · simp [Value.cells] at hcs
      obtain ⟨rfl, rfl, rfl⟩ := hcs
      refine ⟨by omega, fun i hi => ?_⟩
      have hm' : m = cap := by simpa using hmm
      obtain ⟨cs', hc1, hc2⟩ := hcell i (by omega)
      obtain ⟨K, v, zs, T, del, rfl, b0, b1, hb, hz0, hzl, t0, t1⟩ := step_of hc2
      rw [cells25] at hc1
      obtain ⟨_, _, hcs⟩ := World.cells?_some hc1
      obtain ⟨b, off, spot⟩ := x
      have hspot : spot = none := by
        obtain ⟨cs0, hd1, hd2⟩ := hcell 0 (by omega)
        rw [cells25] at hd1
        obtain ⟨K0, v0, zs0, T0, del0, rfl, _⟩ := step_of hd2
        have := World.cell?_spot ((World.cells?_some hd1).2.2 0 (by omega))
        simpa [Addr.add] using this
      subst hspot
      have ad : ∀ j, j < 4 → (Addr.add (Addr.add ⟨b, off, none⟩ (i * 4)) j) = ⟨b, off + i * 4 + j, none⟩ := fun j _ => by simp [Go.WideShapes.add_plain]
      refine ⟨(K, v, zs, T, del), ⟨b, off, rfl, ?_, ?_, ?_, ?_⟩, b0, b1, hb, hz0, hzl, t0, t1⟩
      · have := hcs 0 (by omega)
        rw [ad 0 (by omega)] at this
        simpa using this
      · have := hcs 1 (by omega)
        rw [ad 1 (by omega)] at this
        simpa using this
      · have := hcs 2 (by omega)
        rw [ad 2 (by omega)] at this
        simpa using this
      · have := hcs 3 (by omega)
        rw [ad 3 (by omega)] at this
        simpa using this
  clear hA0 hval0
  obtain ⟨f, hstep⟩ := Go.Deep.choose_lt (α := Int × Value × List Int × Int × Bool) hsteps
  obtain ⟨hc0, hc1⟩ := bounds_i64 w1
  have fin : Calls Yba.prog 3 #[.slice ao len cap, .int .i64 cut] W fun e w' => e = .returned (.bool true) ∧ Below W.heap.size W w' := by
    by_cases hl : len ≤ 1024
    · exact law_walk W ao len cap cut (fun i => (f i).1) (fun i => (f i).2.2.2.1) (fun i => (f i).2.1) (fun i => (f i).2.2.1) (fun i => (f i).2.2.2.2) hl hc0 hc1 hstep
    · exact law_long ao len cap cut W (by omega) (by unfold maxLen at hm; omega)
  refine fin.mono fun e W' ⟨he, bel⟩ => ?_
  subst he
  exact ⟨_, rfl, _, _, _, [], _, [], hW', trodAll_mk1 (shut_bool Yba.underlying4 _), (trodAll_cons_mk (Below.trod laidOut (by kernel_rfl) (of_decide_eq_true (by kernel_rfl)) k0 bel lt0) (trodAll_cons_mk (shut_int Yba.underlying2 w1) trodAll_mk0)), rfl, bel.frame _, fun h => by cases h⟩

/-- The statement 'Rows.LawS0509ASetSaid'. -/
theorem set_proved : Rows.LawS0509ASetSaid :=
  OpenClaim.holds_of_wide 3 Yba.f3 rfl rfl rfl rfl rfl rfl rfl ⟨rfl, rfl, rfl, rfl, rfl⟩ rfl rfl rfl rfl rfl (by kernel_rfl) Yba.func3 (by kernel_rfl)
    (of_decide_eq_true (by kernel_rfl)) (by unfold Func.isWrapper; first | (rw [if_pos (by decide +kernel)]; kernel_rfl) | (rw [if_neg (by decide +kernel)]; exact ⟨rfl, rfl⟩))
    (fun os started H enc _ => set_lifted os started H enc)
end Go.Proofs.Ybulkjnc
