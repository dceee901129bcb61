import Derived.Test.YbulkjncSto2
namespace Go.Proofs.Ybulkjnc
open Go.RowKit
section
variable {B M : Nat} {S n : Nat} {x : Nat → Ent} {sl : Value} {hv : Nat → Bool} {E : Nat → Ent}
set_option maxHeartbeats 400000 in
theorem set_new (w : World) (s : Sto B w S M n x sl hv E) (k : Nat) (hk : k < 4) (hn : hv k = false) (v : Value) (zs : List Int) (hz : Bs w v zs) (hzl : zs.length ≤ 1024) (d : Int) (del : Bool) :
    Calls Yba.prog 8 #[.pointer (some ⟨S, 0, none⟩), .agg (itemOf k v d del)] w fun e w' => ∃ v' n' x' sl' e', e = .returned (.agg (itemOf k v' d del)) ∧ Sto B w' S M n' x' sl' (setk hv k true) (setk E k e') ∧ e'.d = d ∧ e'.del = del ∧ Kin B M w w' ∧ w'.ownsRow w.heap.size 5 1 v' zs.length (byteVals zs) := by
  unfold itemOf
  go_enter Yba.func8, Yba.ntmps8
  go_wp2_with fail
  refine (clone_is v zs _ ?z1 hzl).mono ?_
  case z1 => exact hz.upd fun k hk _ _ _ _ _ => (((Upd.refl w []).alloc _).alloc _).block k hk (by simp)
  rintro e w2 ⟨v', rfl, ho, hU⟩
  obtain ⟨a', c', rfl⟩ := own_slice ho
  obtain ⟨p1, p2, p3, p4, p5⟩ := set_pre w w2 k v _ d del zs hU ho
  have c1 : w2.cell? ⟨w.heap.size, 1, none⟩ = some v := cell_of p1 rfl
  have f1 : w2.frozen? ⟨w.heap.size, 1, none⟩ = false := free_of p1 1
  have P2 := hid p2
  have P3 := hid p3
  have P4 := hid p4
  have P5 := hid p5
  clear p1 p2 p3 p4 p5 ho hU
  go_wp2_with fail
  generalize hw3 : w2.setCell ⟨w.heap.size, 1, none⟩ (.slice a' zs.length c') = w3 at *
  clear hw3 c1 f1
  have s3 : Sto B w3 S M n x sl hv E := s.upd P4.out (by simp)
  have cS : w3.cell? ⟨S, 0, none⟩ = some (.map (some M)) := cell_of s3.q.st rfl
  have c0 : w3.cell? ⟨w.heap.size, 0, none⟩ = some (.string (kb k)) := cell_of P2.out rfl
  have c1 : w3.cell? ⟨w.heap.size, 1, none⟩ = some (.slice a' zs.length c') := cell_of P2.out rfl
  have c2 : w3.cell? ⟨w.heap.size, 2, none⟩ = some (.int .u64 (nsOf d)) := cell_of P2.out rfl
  have c3 : w3.cell? ⟨w.heap.size, 3, none⟩ = some (.int .i64 (scOf d)) := cell_of P2.out rfl
  have c4 : w3.cell? ⟨w.heap.size, 4, none⟩ = some (.pointer none) := cell_of P2.out rfl
  have c5 : w3.cell? ⟨w.heap.size, 5, none⟩ = some (.int .i64 0) := cell_of P2.out rfl
  have c6 : w3.cell? ⟨w.heap.size, 6, none⟩ = some (.string ⟨#[]⟩) := cell_of P2.out rfl
  have c7 : w3.cell? ⟨w.heap.size, 7, none⟩ = some (.bool del) := cell_of P2.out rfl
  have hl := s3.m.look_no hk hn
  have hl2 := (s3.m.kept (w' := w3.drew) rfl).look_no hk hn
  have HS := hid s
  have HS3 := hid s3
  have HZ := hid hz
  clear s s3 hz
  go_region
  clear hl hl2
  go_wp2_with fail
  obtain ⟨E0, hE0⟩ : ∃ E0 : Ent, E0 = { b := w3.heap.size, k := k, v := .slice a' zs.length c', d := d, del := del } := ⟨_, rfl⟩
  have ha : (w3.alloc (.cells #[.string (kb k), .slice a' zs.length c', .int .u64 (nsOf d), .int .i64 (scOf d), .pointer none, .int .i64 0, .string ⟨#[]⟩, .bool del, .int .i64 0] 52 (0, 0))).drew = (w3.alloc (.cells (E0.cells 0) 52 (0, 0))).drew := by rw [hE0]; rfl
  rw [ha]
  have hU4 : Upd w3 ((w3.alloc (.cells (E0.cells 0) 52 (0, 0))).drew) [] := ((Upd.refl w3 []).alloc _).drew
  have hE4 : ((w3.alloc (.cells (E0.cells 0) 52 (0, 0))).drew).heap[E0.b]? = some (.cells (E0.cells 0) 52 (0, 0)) := by
    rw [hE0]; exact heap_alloc_new w3 _
  have eb : w3.heap.size = E0.b := by rw [hE0]
  rw [eb]
  have HE0 := hid hE0
  clear ha hE0
  generalize hw4 : (w3.alloc (.cells (E0.cells 0) 52 (0, 0))).drew = w4 at *
  clear hw4
  have s4 := HS3.out.upd hU4 (by simp)
  obtain ⟨w5, hput, m5, hU5, hs5⟩ := (s4.m.kept (w' := w4.drew) rfl).put hk hn E0
  have cS4 : w4.cell? ⟨S, 0, none⟩ = some (.map (some M)) := cell_of s4.q.st rfl
  have c04 : w4.cell? ⟨w.heap.size, 0, none⟩ = some (.string (kb k)) := cell_of (hU4.heap P2.out (by simp)) rfl
  have HS4 := hid s4
  have HE4 := hid hE4
  have HU4 := hid hU4
  have HU5 := hid hU5
  have HM5 := hid m5
  clear s4 hE4 hU4 hU5 m5 cS c0 c1 c2 c3 c4 c5 c6 c7
  go_region
  clear hput cS4 c04
  go_wp2_with fail
  have hM5 : ¬ E0.b = M := fun e => by
    obtain ⟨es, c, hb⟩ := HS4.out.m.block
    have h := HE4.out
    rw [e, hb] at h
    cases h
  have hU5' : Upd w4 w5 [M] := ⟨HU5.out.os, HU5.out.tape, HU5.out.output, HU5.out.size, HU5.out.block⟩
  have q5 : Qn B w5 S n x (.map (some M)) sl (lvc hv E) := HS4.out.q.kept fun i o hi ho => hU5'.heap hi (by
    simp only [List.mem_singleton]
    rintro rfl
    obtain ⟨es, c, hb⟩ := HS4.out.m.block
    rw [hb] at hi
    obtain ⟨cs, t, fz, e, _⟩ := ho
    rw [e] at hi
    cases hi)
  have hE5 := hU5'.heap HE4.out (by simpa using hM5)
  have hbs : B ≤ w3.heap.size := by have := lt_of_heap HS3.out.q.st; have := HS3.out.bS; omega
  have hBE : B ≤ E0.b := by rw [← eb]; exact hbs
  have hn3 : n ≤ 3 := by
    have h1 := cnt_add hv k hk hn
    have h2 := cnt_le (setk hv k true)
    have h3 := HS3.out.num
    omega
  have hP := hpush_walk (M := w5.heap.size) q5 HS3.out.heap hn3 E0 0 hE5 HS3.out.bS hBE HS3.out.bx (fun i hi e => by
    have := lt_of_heap (HS3.out.q.ent i hi)
    omega) (by have := hU5'.size; have := HU4.out.size; omega)
  refine hP.mono ?_
  rintro e w6 ⟨rfl, g6, cap6, x6, q6, hg6, hs6, hh6, hK6⟩
  clear hP
  have m6 := HM5.out.kin hK6 (Nat.le_refl _)
  obtain ⟨i6, hi6, hx6⟩ := (hs6 E0).1 ⟨n, by omega, by simp [ext]⟩
  have hE6 : w6.heap[E0.b]? = some (.cells (E0.cells i6) 52 (0, 0)) := by rw [← hx6]; exact q6.ent i6 hi6
  have hl := lvc_le hv E
  have e7 : E0.del = del := by rw [HE0.out]
  have hC := count_walk S E0.b E0.del (lvc hv E) 1 w6 (cell_of q6.st rfl) (free_of q6.st 2) (cell_of hE6 rfl) ⟨by omega, by omega⟩ ⟨by omega, by omega⟩
  go_wp2_with fail
  refine hC.mono ?_
  rintro e w7 ⟨rfl, h7⟩
  obtain ⟨q7, hU7⟩ := q6.count E0.del 1 h7
  have K37 : Kin B M w3 w7 := (((Kin.upd0 HU4.out).trans (Kin.updM hU5' HS3.out.bM)).trans (hK6.weak (Nat.le_refl _))).trans (Kin.own1 hU7 HS3.out.bS q6.st (.inl rfl))
  have h47 := K37.cells P3.out (HS3.out.ne_M P3.out) (by decide) (by decide) (by decide)
  have m7 : Mp w7 M (setk hv k true) (setk E k E0) := m6.kept (hU7.block M (by obtain ⟨es, c, hb⟩ := m6.block; exact lt_of_heap hb) (by
    simp only [List.mem_singleton]
    rintro rfl
    obtain ⟨es, c, hb⟩ := m6.block
    rw [q6.st] at hb
    cases hb))
  have HS7 := hid (sto_new HS3.out hk hn E0 (by rw [HE0.out]) hBE q7 hg6 hs6 hh6 m7)
  have ec : E0.cells i6 = #[.string (kb k), .slice a' zs.length c', .int .u64 (nsOf d), .int .i64 (scOf d), .pointer none, .int .i64 0, .string ⟨#[]⟩, .bool del, .int .i64 i6] := by rw [HE0.out]; rfl
  have hE7 : w7.heap[E0.b]? = some (.cells #[.string (kb k), .slice a' zs.length c', .int .u64 (nsOf d), .int .i64 (scOf d), .pointer none, .int .i64 0, .string ⟨#[]⟩, .bool del, .int .i64 i6] 52 (0, 0)) := by
    rw [← ec, ← hx6]; exact q7.ent i6 hi6
  have HO7 : Hid (w7.ownsRow w.heap.size 5 1 (.slice a' zs.length c') zs.length (byteVals zs)) := own_keep P5.out fun i cs hi => K37.cells hi (HS3.out.ne_M hi) (by decide) (by decide) (by decide)
  have HK7 : Hid (Kin B M w w7) := (Kin.upd0 P4.out).trans K37
  have e1 : E0.d = d := by rw [HE0.out]
  have e2 : E0.del = del := e7
  have H47 := hid h47
  clear hC h7 hU7 q7 K37 m7 m6 hK6 hs6 hh6 q6 hE6 ec q5 hE5 hU5' HU4 HU5 HM5 HE4 HS4 P2 P3 P4 P5 HS HZ e7 hi6 hx6 HE0 hg6
  have c0 : w7.cell? ⟨E0.b, 0, none⟩ = some (.string (kb k)) := cell_of hE7 rfl
  have c1 : w7.cell? ⟨E0.b, 1, none⟩ = some (.slice a' zs.length c') := cell_of hE7 rfl
  have c2 : w7.cell? ⟨E0.b, 2, none⟩ = some (.int .u64 (nsOf d)) := cell_of hE7 rfl
  have c3 : w7.cell? ⟨E0.b, 3, none⟩ = some (.int .i64 (scOf d)) := cell_of hE7 rfl
  have c4 : w7.cell? ⟨E0.b, 4, none⟩ = some (.pointer none) := cell_of hE7 rfl
  have c5 : w7.cell? ⟨E0.b, 5, none⟩ = some (.int .i64 0) := cell_of hE7 rfl
  have c6 : w7.cell? ⟨E0.b, 6, none⟩ = some (.string ⟨#[]⟩) := cell_of hE7 rfl
  have c7 : w7.cell? ⟨E0.b, 7, none⟩ = some (.bool del) := cell_of hE7 rfl
  have d0 : w7.cell? ⟨w.heap.size + 1, 0, none⟩ = some (.string ⟨#[]⟩) := cell_of h47 rfl
  have d1 : w7.cell? ⟨w.heap.size + 1, 1, none⟩ = some (.slice none 0 0) := cell_of h47 rfl
  have d2 : w7.cell? ⟨w.heap.size + 1, 2, none⟩ = some (.int .u64 0) := cell_of h47 rfl
  have d3 : w7.cell? ⟨w.heap.size + 1, 3, none⟩ = some (.int .i64 0) := cell_of h47 rfl
  have d4 : w7.cell? ⟨w.heap.size + 1, 4, none⟩ = some (.pointer none) := cell_of h47 rfl
  have d5 : w7.cell? ⟨w.heap.size + 1, 5, none⟩ = some (.int .i64 0) := cell_of h47 rfl
  have d6 : w7.cell? ⟨w.heap.size + 1, 6, none⟩ = some (.string ⟨#[]⟩) := cell_of h47 rfl
  have d7 : w7.cell? ⟨w.heap.size + 1, 7, none⟩ = some (.bool false) := cell_of h47 rfl
  have f0 := free_of h47 0
  have f1 := free_of h47 1
  have f2 := free_of h47 2
  have f3 := free_of h47 3
  have f4 := free_of h47 4
  have f5 := free_of h47 5
  have f6 := free_of h47 6
  have f7 := free_of h47 7
  clear h47 hE7
  go_wp2_with fail
  refine bodyPost_ret (v := .agg #[.string (kb k), .slice a' zs.length c', .int .u64 (nsOf d), .int .i64 (scOf d), .pointer none, .int .i64 0, .string ⟨#[]⟩, .bool del]) (by simp [results, Yba.results8, go_sem, d0, d1, d2, d3, d4, d5, d6, d7]) rfl ?_
  have hU8 : ∀ w8, Upd w7 w8 [w.heap.size + 1] → (Sto B w8 S M (n + 1) x6 (.slice (some ⟨g6, 0, none⟩) (n + 1) cap6) (setk hv k true) (setk E k E0) ∧ E0.d = d ∧ E0.del = del ∧ Kin B M w w8 ∧ w8.ownsRow w.heap.size 5 1 (.slice a' zs.length c') zs.length (byteVals zs)) := fun w8 hU =>
    ⟨HS7.out.upd hU (fun y hy => by simp only [List.mem_singleton] at hy; subst hy; exact ⟨_, _, _, H47.out, by decide, by decide, by decide⟩), e1, e2, HK7.out.trans_new hU (by simp), own_keep HO7.out fun i cs hi => hU.heap hi (by
      simp only [List.mem_singleton]
      rintro rfl
      rw [H47.out] at hi
      simp at hi)⟩
  refine ⟨_, _, _, _, E0, rfl, hU8 _ ?_⟩
  exact (((((((((Upd.refl w7 [w.heap.size + 1]).setCell _ _ (.inl (by simp))).setCell _ _ (.inl (by simp))).setCell _ _ (.inl (by simp))).setCell _ _ (.inl (by simp))).setCell _ _ (.inl (by simp))).setCell _ _ (.inl (by simp))).setCell _ _ (.inl (by simp))).setCell _ _ (.inl (by simp)))
end
end Go.Proofs.Ybulkjnc
