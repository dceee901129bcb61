import Derived.Test.YbulkjncSto3
namespace Go.Proofs.Ybulkjnc
open Go.RowKit
section
variable {B M : Nat} {S n : Nat} {x : Nat → Ent} {sl : Value} {hv : Nat → Bool} {E : Nat → Ent}
set_option maxHeartbeats 400000 in
theorem set_old (w : World) (s : Sto B w S M n x sl hv E) (k : Nat) (hk : k < 4) (hn : hv k = true) (v : Value) (zs : List Int) (hz : Bs w v zs) (hzl : zs.length ≤ 1024) (d : Int) (del : Bool) :
    Calls Yba.prog 8 #[.pointer (some ⟨S, 0, none⟩), .agg (itemOf k v d del)] w fun e w' => ∃ v' n' x' sl' e', e = .returned (.agg (itemOf k v' d del)) ∧ Sto B w' S M n' x' sl' (setk hv k true) (setk E k e') ∧ e'.d = d ∧ e'.del = del ∧ Kin B M w w' ∧ w'.ownsRow w.heap.size 5 1 v' zs.length (byteVals zs) := by
  unfold itemOf
  go_enter Yba.func8, Yba.ntmps8
  go_wp2_with fail
  refine (clone_is v zs _ ?z1 hzl).mono ?_
  case z1 => exact hz.upd fun k hk _ _ _ _ _ => (((Upd.refl w []).alloc _).alloc _).block k hk (by simp)
  rintro e w2 ⟨v', rfl, ho, hU⟩
  obtain ⟨a', c', rfl⟩ := own_slice ho
  obtain ⟨p1, p2, p3, p4, p5⟩ := set_pre w w2 k v _ d del zs hU ho
  have c1 : w2.cell? ⟨w.heap.size, 1, none⟩ = some v := cell_of p1 rfl
  have f1 : w2.frozen? ⟨w.heap.size, 1, none⟩ = false := free_of p1 1
  have P2 := hid p2
  have P3 := hid p3
  have P4 := hid p4
  have P5 := hid p5
  clear p1 p2 p3 p4 p5 ho hU
  go_wp2_with fail
  generalize hw3 : w2.setCell ⟨w.heap.size, 1, none⟩ (.slice a' zs.length c') = w3 at *
  clear hw3 c1 f1
  have s3 : Sto B w3 S M n x sl hv E := s.upd P4.out (by simp)
  have cS : w3.cell? ⟨S, 0, none⟩ = some (.map (some M)) := cell_of s3.q.st rfl
  have c0 : w3.cell? ⟨w.heap.size, 0, none⟩ = some (.string (kb k)) := cell_of P2.out rfl
  have c1 : w3.cell? ⟨w.heap.size, 1, none⟩ = some (.slice a' zs.length c') := cell_of P2.out rfl
  have c2 : w3.cell? ⟨w.heap.size, 2, none⟩ = some (.int .u64 (nsOf d)) := cell_of P2.out rfl
  have c3 : w3.cell? ⟨w.heap.size, 3, none⟩ = some (.int .i64 (scOf d)) := cell_of P2.out rfl
  have c4 : w3.cell? ⟨w.heap.size, 4, none⟩ = some (.pointer none) := cell_of P2.out rfl
  have c5 : w3.cell? ⟨w.heap.size, 5, none⟩ = some (.int .i64 0) := cell_of P2.out rfl
  have c6 : w3.cell? ⟨w.heap.size, 6, none⟩ = some (.string ⟨#[]⟩) := cell_of P2.out rfl
  have c7 : w3.cell? ⟨w.heap.size, 7, none⟩ = some (.bool del) := cell_of P2.out rfl
  have hl := s3.m.look_yes hk hn
  have hl2 := (s3.m.kept (w' := w3.drew) rfl).look_yes hk hn
  have HS := hid s
  have HS3 := hid s3
  have HZ := hid hz
  clear s s3 hz
  go_region
  clear hl hl2
  obtain ⟨i, hi, hxi⟩ := (HS3.out.mem (E k)).2 ⟨k, hk, hn, rfl⟩
  obtain ⟨g, cap, hsl, hg, q3⟩ := HS3.out.q.qu (by omega)
  have hE3 := q3.ent i hi
  have hl := lvc_le hv E
  have hC := count_walk S (E k).b (E k).del (lvc hv E) (-1) w3.drew (cell_of (w := w3.drew) q3.st rfl) (free_of (w := w3.drew) q3.st 2) (cell_of (w := w3.drew) (hxi ▸ hE3) rfl) ⟨by omega, by omega⟩ ⟨by omega, by omega⟩
  go_wp2_with fail
  refine hC.mono ?_
  rintro e w4 ⟨rfl, h4⟩
  clear hC
  obtain ⟨q4, hU4⟩ := Qu.count (w := w3.drew) (q3.upd ((Upd.refl w3 []).drew)) (E k).del (-1) h4
  have hE4 : w4.heap[(E k).b]? = some (.cells ((E k).cells i) 52 (0, 0)) := by rw [← hxi]; exact q4.ent i hi
  have hSne : ∀ {j : Nat} {cs : Array Value}, w3.heap[j]? = some (.cells cs 41 (0, 0)) → ¬ j = S := by
    rintro j cs hj rfl
    rw [q3.st] at hj
    simp at hj
  have hU4' : Upd w3 w4 [S] := ⟨hU4.os, hU4.tape, hU4.output, hU4.size, hU4.block⟩
  have hP4 := hU4'.heap P2.out (by have := hSne P2.out; simpa using this)
  clear c0 c1 c2 c3 c4 c5 c6 c7 cS
  have c0 : w4.cell? ⟨w.heap.size, 0, none⟩ = some (.string (kb k)) := cell_of hP4 rfl
  have c1 : w4.cell? ⟨w.heap.size, 1, none⟩ = some (.slice a' zs.length c') := cell_of hP4 rfl
  have c2 : w4.cell? ⟨w.heap.size, 2, none⟩ = some (.int .u64 (nsOf d)) := cell_of hP4 rfl
  have c3 : w4.cell? ⟨w.heap.size, 3, none⟩ = some (.int .i64 (scOf d)) := cell_of hP4 rfl
  have c4 : w4.cell? ⟨w.heap.size, 4, none⟩ = some (.pointer none) := cell_of hP4 rfl
  have c5 : w4.cell? ⟨w.heap.size, 5, none⟩ = some (.int .i64 0) := cell_of hP4 rfl
  have c6 : w4.cell? ⟨w.heap.size, 6, none⟩ = some (.string ⟨#[]⟩) := cell_of hP4 rfl
  have c7 : w4.cell? ⟨w.heap.size, 7, none⟩ = some (.bool del) := cell_of hP4 rfl
  have d0 : w4.cell? ⟨(E k).b, 0, none⟩ = some _ := cell_of hE4 rfl
  have f0 := free_of hE4 0
  have d1 : w4.cell? ⟨(E k).b, 1, none⟩ = some _ := cell_of hE4 rfl
  have f1 := free_of hE4 1
  have d2 : w4.cell? ⟨(E k).b, 2, none⟩ = some _ := cell_of hE4 rfl
  have f2 := free_of hE4 2
  have d3 : w4.cell? ⟨(E k).b, 3, none⟩ = some _ := cell_of hE4 rfl
  have f3 := free_of hE4 3
  have d4 : w4.cell? ⟨(E k).b, 4, none⟩ = some _ := cell_of hE4 rfl
  have f4 := free_of hE4 4
  have d5 : w4.cell? ⟨(E k).b, 5, none⟩ = some _ := cell_of hE4 rfl
  have f5 := free_of hE4 5
  have d6 : w4.cell? ⟨(E k).b, 6, none⟩ = some _ := cell_of hE4 rfl
  have f6 := free_of hE4 6
  have d7 : w4.cell? ⟨(E k).b, 7, none⟩ = some _ := cell_of hE4 rfl
  have f7 := free_of hE4 7
  have HE4 := hid hE4
  have Q4 := hid q4
  have Q3 := hid q3
  have HU4 := hid hU4'
  have HE3 := hid hE3
  clear hE4 q4 q3 hU4 hU4' hE3 h4 hP4
  go_wp2_with fail
  obtain ⟨E0, hE0⟩ : ∃ E0 : Ent, E0 = { b := (E k).b, k := k, v := .slice a' zs.length c', d := d, del := del } := ⟨_, rfl⟩
  have hU5 := put8_upd w4 (E k).b k (.slice a' zs.length c') d del
  have hE5 := put8_ent w4 (E k).b k (.slice a' zs.length c') d del (E k) i HE4.out E0 hE0
  have hw : put8 w4 (E k).b k (.slice a' zs.length c') d del = put8 w4 (E k).b k (.slice a' zs.length c') d del := rfl
  conv at hw => lhs; unfold put8
  rw [hw]
  clear hw
  generalize put8 w4 (E k).b k (.slice a' zs.length c') d del = w5 at *
  clear c0 c1 c2 c3 c4 c5 c6 c7 d0 d1 d2 d3 d4 d5 d6 d7 f0 f1 f2 f3 f4 f5 f6 f7
  have h0b : E0.b = (x i).b := by rw [hE0, hxi]
  have q5 : Qu w5 S g n cap (setk x i E0) (.map (some M)) (lvc hv E + if (E k).del = true then 0 else -1) := Q4.out.stored hi E0 h0b (by rw [hxi]; exact hU5) (by rw [hxi]; exact hE5)
  have hn4 : n ≤ 4 := by have := HS3.out.num; have := cnt_le hv; omega
  have hN := near_of x n i E0 hn4 hi HS3.out.heap
  have hBx5 : ∀ j, j < n → B ≤ (setk x i E0 j).b := fun j hj => by
    by_cases e : j = i
    · subst e; rw [setk_same, h0b]; exact HS3.out.bx j hj
    · rw [setk_other _ _ _ e]; exact HS3.out.bx j hj
  have hF := fix_walk (M := w5.heap.size) (w := w5.drew) (q5.upd ((Upd.refl w5 []).drew)) hg hBx5 i hi hn4 hN
  have c8 : w5.cell? ⟨(E k).b, 8, none⟩ = some (.int .i64 i) := cell_of hE5 rfl
  have Q5 := hid q5
  have HU5 := hid hU5
  have HE0 := hid hE0
  clear q5 hU5 hE5 hE0
  go_region_with (go_at_call 20; refine hF.mono ?_; rintro e w6 ⟨rfl, x6, q6, hs6, hh6, hK6⟩)
  clear hF c8
  obtain ⟨i6, hi6, hx6⟩ := (hs6 E0).1 ⟨i, hi, setk_same _ _ _⟩
  have hE6 : w6.heap[E0.b]? = some (.cells (E0.cells i6) 52 (0, 0)) := by rw [← hx6]; exact q6.ent i6 hi6
  have hl2 : -100 ≤ (lvc hv E + if (E k).del = true then 0 else -1) ∧ (lvc hv E + if (E k).del = true then 0 else -1) ≤ 100 := by
    cases (E k).del <;> simp <;> omega
  have hC := count_walk S E0.b E0.del (lvc hv E + if (E k).del = true then 0 else -1) 1 w6 (cell_of q6.st rfl) (free_of q6.st 2) (cell_of hE6 rfl) hl2 ⟨by omega, by omega⟩
  have eb : (E k).b = E0.b := by rw [HE0.out]
  rw [eb]
  have HX := hid hxi
  have HB := hid eb
  clear h0b hxi eb
  go_wp2_with fail
  refine hC.mono ?_
  rintro e w7 ⟨rfl, h7⟩
  obtain ⟨q7, hU7⟩ := q6.count E0.del 1 h7
  have hK6' : Kin B M w5 w6 := (Kin.upd0 (Upd.refl w5 []).drew).trans (hK6.weak (Nat.le_refl _))
  have K37 : Kin B M w3 w7 := (((Kin.own1 HU4.out HS3.out.bS Q3.out.st (.inl rfl)).trans (Kin.own1 HU5.out (by rw [← HX.out]; exact HS3.out.bx i hi) HE4.out (.inr (.inl rfl)))).trans hK6').trans (Kin.own1 hU7 HS3.out.bS q6.st (.inl rfl))
  have h47 := K37.cells P3.out (HS3.out.ne_M P3.out) (by decide) (by decide) (by decide)
  have mS : ∀ w, Mp w M hv E → ∀ cs, w.heap[S]? = some (.cells cs 50 (0, 0)) → ¬ M = S := by
    rintro w m cs h rfl
    obtain ⟨es, c, hb⟩ := m.block
    rw [h] at hb
    cases hb
  have lt : ∀ w, Mp w M hv E → M < w.heap.size := fun w m => by obtain ⟨es, c, hb⟩ := m.block; exact lt_of_heap hb
  have m4 : Mp w4 M hv E := HS3.out.m.kept (HU4.out.block M (lt _ HS3.out.m) (by have := mS _ HS3.out.m _ Q3.out.st; simpa using this))
  have m5 : Mp w5 M hv E := m4.kept (HU5.out.block M (lt _ m4) (by
    simp only [List.mem_singleton]
    intro e
    obtain ⟨es, c, hb⟩ := m4.block
    have h := HE4.out
    rw [← e, hb] at h
    cases h))
  have m6 : Mp w6 M hv E := Mp.kin (w := w5.drew) (m5.kept rfl) hK6 (Nat.le_refl _)
  have m7 : Mp w7 M hv E := m6.kept (hU7.block M (lt _ m6) (by have := mS _ m6 _ q6.st; simpa using this))
  have HS7 := hid (sto_old HS3.out hk hn hi HX.out E0 (by rw [HE0.out]) HB.out.symm q7 hg hs6 hh6 m7)
  have ec : E0.cells i6 = #[.string (kb k), .slice a' zs.length c', .int .u64 (nsOf d), .int .i64 (scOf d), .pointer none, .int .i64 0, .string ⟨#[]⟩, .bool del, .int .i64 i6] := by rw [HE0.out]; rfl
  have hE7 : w7.heap[E0.b]? = some (.cells #[.string (kb k), .slice a' zs.length c', .int .u64 (nsOf d), .int .i64 (scOf d), .pointer none, .int .i64 0, .string ⟨#[]⟩, .bool del, .int .i64 i6] 52 (0, 0)) := by
    rw [← ec, ← hx6]; exact q7.ent i6 hi6
  have HO7 : Hid (w7.ownsRow w.heap.size 5 1 (.slice a' zs.length c') zs.length (byteVals zs)) := own_keep P5.out fun i cs hi => K37.cells hi (HS3.out.ne_M hi) (by decide) (by decide) (by decide)
  have HK7 : Hid (Kin B M w w7) := (Kin.upd0 P4.out).trans K37
  have e1 : E0.d = d := by rw [HE0.out]
  have e2 : E0.del = del := by rw [HE0.out]
  have H47 := hid h47
  clear hC h7 hU7 q7 K37 m7 m6 m5 m4 lt mS hK6 hK6' hs6 hh6 q6 hE6 ec P2 P3 P4 P5 HS HZ hi6 hx6 HE0 hl2 hn4 hN hBx5 hSne HX HB
  have c0 : w7.cell? ⟨E0.b, 0, none⟩ = some (.string (kb k)) := cell_of hE7 rfl
  have c1 : w7.cell? ⟨E0.b, 1, none⟩ = some (.slice a' zs.length c') := cell_of hE7 rfl
  have c2 : w7.cell? ⟨E0.b, 2, none⟩ = some (.int .u64 (nsOf d)) := cell_of hE7 rfl
  have c3 : w7.cell? ⟨E0.b, 3, none⟩ = some (.int .i64 (scOf d)) := cell_of hE7 rfl
  have c4 : w7.cell? ⟨E0.b, 4, none⟩ = some (.pointer none) := cell_of hE7 rfl
  have c5 : w7.cell? ⟨E0.b, 5, none⟩ = some (.int .i64 0) := cell_of hE7 rfl
  have c6 : w7.cell? ⟨E0.b, 6, none⟩ = some (.string ⟨#[]⟩) := cell_of hE7 rfl
  have c7 : w7.cell? ⟨E0.b, 7, none⟩ = some (.bool del) := cell_of hE7 rfl
  have d0 : w7.cell? ⟨w.heap.size + 1, 0, none⟩ = some (.string ⟨#[]⟩) := cell_of h47 rfl
  have d1 : w7.cell? ⟨w.heap.size + 1, 1, none⟩ = some (.slice none 0 0) := cell_of h47 rfl
  have d2 : w7.cell? ⟨w.heap.size + 1, 2, none⟩ = some (.int .u64 0) := cell_of h47 rfl
  have d3 : w7.cell? ⟨w.heap.size + 1, 3, none⟩ = some (.int .i64 0) := cell_of h47 rfl
  have d4 : w7.cell? ⟨w.heap.size + 1, 4, none⟩ = some (.pointer none) := cell_of h47 rfl
  have d5 : w7.cell? ⟨w.heap.size + 1, 5, none⟩ = some (.int .i64 0) := cell_of h47 rfl
  have d6 : w7.cell? ⟨w.heap.size + 1, 6, none⟩ = some (.string ⟨#[]⟩) := cell_of h47 rfl
  have d7 : w7.cell? ⟨w.heap.size + 1, 7, none⟩ = some (.bool false) := cell_of h47 rfl
  have f0 := free_of h47 0
  have f1 := free_of h47 1
  have f2 := free_of h47 2
  have f3 := free_of h47 3
  have f4 := free_of h47 4
  have f5 := free_of h47 5
  have f6 := free_of h47 6
  have f7 := free_of h47 7
  clear h47 hE7
  go_wp2_with fail
  refine bodyPost_ret (v := .agg #[.string (kb k), .slice a' zs.length c', .int .u64 (nsOf d), .int .i64 (scOf d), .pointer none, .int .i64 0, .string ⟨#[]⟩, .bool del]) (by simp [results, Yba.results8, go_sem, d0, d1, d2, d3, d4, d5, d6, d7]) rfl ?_
  have hU8 : ∀ w8, Upd w7 w8 [w.heap.size + 1] → (Sto B w8 S M n x6 (.slice (some ⟨g, 0, none⟩) n cap) (setk hv k true) (setk E k E0) ∧ E0.d = d ∧ E0.del = del ∧ Kin B M w w8 ∧ w8.ownsRow w.heap.size 5 1 (.slice a' zs.length c') zs.length (byteVals zs)) := fun w8 hU =>
    ⟨HS7.out.upd hU (fun y hy => by simp only [List.mem_singleton] at hy; subst hy; exact ⟨_, _, _, H47.out, by decide, by decide, by decide⟩), e1, e2, HK7.out.trans_new hU (by simp), own_keep HO7.out fun i cs hi => hU.heap hi (by
      simp only [List.mem_singleton]
      rintro rfl
      rw [H47.out] at hi
      simp at hi)⟩
  refine ⟨_, _, _, _, E0, rfl, hU8 _ ?_⟩
  exact (((((((((Upd.refl w7 [w.heap.size + 1]).setCell _ _ (.inl (by simp))).setCell _ _ (.inl (by simp))).setCell _ _ (.inl (by simp))).setCell _ _ (.inl (by simp))).setCell _ _ (.inl (by simp))).setCell _ _ (.inl (by simp))).setCell _ _ (.inl (by simp))).setCell _ _ (.inl (by simp)))
end
end Go.Proofs.Ybulkjnc
