import Derived.Test.YbulkjncSto3
namespace Go.Proofs.Ybulkjnc
open Go.RowKit

theorem Qu.kept {w w' : World} {S g n cap : Nat} {x : Nat → Ent} {mv : Value} {lv : Int} (q : Qu w S g n cap x mv lv) (h : ∀ (k : Nat) (o : Obj), w.heap[k]? = some o → Obj.own o → w'.heap[k]? = some o) : Qu w' S g n cap x mv lv := by
  refine ⟨h _ _ q.st ⟨_, 50, _, rfl, .inl rfl⟩, ?_, q.caps, fun i hi => h _ _ (q.ent i hi) ⟨_, 52, _, rfl, .inr (.inl rfl)⟩⟩
  obtain ⟨cs, h1, z, k⟩ := q.row
  exact ⟨cs, h _ _ h1 ⟨_, 53, _, rfl, .inr (.inr rfl)⟩, z, k⟩
theorem keep_map {w w' : World} {M : Nat} {hv : Nat → Bool} {E : Nat → Ent} (m : Mp w M hv E) (hU : Upd w w' [M]) : ∀ (k : Nat) (o : Obj), w.heap[k]? = some o → Obj.own o → w'.heap[k]? = some o := by
  intro k o hk ho
  refine hU.heap hk ?_
  simp only [List.mem_singleton]
  rintro rfl
  obtain ⟨es, c, hb⟩ := m.block
  rw [hb] at hk
  obtain ⟨cs, t, fz, e, _⟩ := ho
  rw [e] at hk
  cases hk
theorem sto_drop {B : Nat} {w w' : World} {S M n : Nat} {x : Nat → Ent} {sl : Value} {hv : Nat → Bool} {E : Nat → Ent} (s : Sto B w S M (n + 1) x sl hv E) {k : Nat} (hk : k < 4) (hn : hv k = true) (hx0 : E k = x 0)
    {g cap : Nat} {x' : Nat → Ent} (q : Qu w' S g n cap x' (.map (some M)) (lvc hv E + if (E k).del = true then 0 else -1)) (hg : B ≤ g) (hs : ∀ e, (∃ i, i < n ∧ x' i = e) ↔ (∃ i, i < n + 1 ∧ x i = e) ∧ ¬ e = x 0) (hh : HeapOK x' n) (m : Mp w' M (setk hv k false) E) :
    Sto B w' S M n x' (.slice (some ⟨g, 0, none⟩) n cap) (setk hv k false) E := by
  have hl : lvc (setk hv k false) E = lvc hv E + if (E k).del = true then 0 else -1 := by
    rw [lvc_drop hv E k hk, hn]
    cases (E k).del <;> simp [one] <;> omega
  refine ⟨?_, m, s.bS, s.bM, fun i hi => ?_, hh, ?_, fun e => ?_, fun k' hk' hh' => ?_⟩
  · rw [hl]; exact q.qn hg
  · obtain ⟨⟨j, hj, e⟩, _⟩ := (hs (x' i)).1 ⟨i, hi, rfl⟩
    rw [← e]; exact s.bx j hj
  · have h1 := cnt_sub hv k hk hn
    have h2 := s.num
    omega
  · rw [hs e, s.mem e]
    constructor
    · rintro ⟨⟨k', a, b, c⟩, ne⟩
      have nk : ¬ k' = k := by rintro rfl; exact ne (by rw [← c, hx0])
      exact ⟨k', a, by rw [setk_other _ _ _ nk]; exact b, c⟩
    · rintro ⟨k', a, b, c⟩
      have nk : ¬ k' = k := by rintro rfl; rw [setk_same] at b; cases b
      rw [setk_other _ _ _ nk] at b
      refine ⟨⟨k', a, b, c⟩, fun e0 => nk ?_⟩
      have h1 := s.key k' a b
      have h2 := s.key k hk hn
      rw [c, e0, ← hx0, h2] at h1
      exact h1.symm
  · have nk : ¬ k' = k := by rintro rfl; rw [setk_same] at hh'; cases hh'
    rw [setk_other _ _ _ nk] at hh'
    exact s.key k' hk' hh'

section
variable {B M : Nat} {S n : Nat} {x : Nat → Ent} {sl : Value} {hv : Nat → Bool} {E : Nat → Ent}
set_option maxHeartbeats 400000 in
theorem rm_walk (w : World) (s : Sto B w S M (n + 1) x sl hv E) :
    Calls Yba.prog 22 #[.pointer (some ⟨S, 0, none⟩), .pointer (some ⟨(x 0).b, 0, none⟩)] w fun e w' => e = .returned (.tuple #[]) ∧ ∃ k x' sl', k < 4 ∧ hv k = true ∧ E k = x 0 ∧ Sto B w' S M n x' sl' (setk hv k false) E ∧ Kin B M w w' := by
  obtain ⟨k, hk, hn, hx0⟩ := (s.mem (x 0)).1 ⟨0, by omega, rfl⟩
  obtain ⟨g, cap, hsl, hg, q⟩ := s.q.qu (by omega)
  have hn3 : n ≤ 3 := by have := s.num; have := cnt_le hv; omega
  have hR := hremove_walk (M := w.heap.size) (w := w.drew) (q.upd ((Upd.refl w []).drew)) s.heap hn3 s.bS hg s.bx
  have c8 : w.cell? ⟨(x 0).b, 8, none⟩ = some (.int .i64 0) := cell_of (q.ent 0 (by omega)) rfl
  have HS := hid s
  have HQ := hid q
  have HX := hid hx0
  clear s q hx0
  go_enter Yba.func22, Yba.ntmps22
  go_wp2_with fail
  go_region_with (go_at_call 25; refine hR.mono ?_; rintro e w1 ⟨⟨v, rfl⟩, x1, a1, q1, hs1, hh1, hK1, hE1⟩)
  clear hR c8
  have m1 : Mp w1 M hv E := Mp.kin (w := w.drew) (HS.out.m.kept rfl) hK1 (Nat.le_refl _)
  obtain ⟨w2, hdel, m2, hU2, hs2⟩ := (m1.kept (w' := w1.drew) rfl).drop hk hn 0
  have ek : (x 0).k = k := by rw [← HX.out]; exact HS.out.key k hk hn
  have cS : w1.cell? ⟨S, 0, none⟩ = some (.map (some M)) := cell_of q1.st rfl
  have cK : w1.cell? ⟨(x 0).b, 0, none⟩ = some (.string (kb k)) := by rw [← ek]; exact cell_of hE1 rfl
  have Q1 := hid q1
  have HE1 := hid hE1
  have HEK := hid ek
  clear q1 hE1 ek
  go_wp2_with fail
  go_region
  clear hdel cS cK
  have hU2' : Upd w1 w2 [M] := ⟨hU2.os, hU2.tape, hU2.output, hU2.size, hU2.block⟩
  have kp := keep_map m1 hU2'
  have q2 := Q1.out.kept kp
  have hE2 := kp _ _ HE1.out ⟨_, 52, _, rfl, .inr (.inl rfl)⟩
  have hl := lvc_le hv E
  have hC := count_walk S (x 0).b (x 0).del (lvc hv E) (-1) w2 (cell_of q2.st rfl) (free_of q2.st 2) (cell_of hE2 rfl) ⟨by omega, by omega⟩ ⟨by omega, by omega⟩
  have Q2 := hid q2
  have HK1 := hid hK1
  have HM2 := hid m2
  have HU2 := hid hU2'
  have HS1 := hid hs1
  have KP := hid kp
  clear q2 hK1 m2 hU2' hs1 kp hU2 hE2 m1
  go_wp2_with fail
  refine hC.mono ?_
  rintro e w3 ⟨rfl, h3⟩
  clear hC
  obtain ⟨q3, hU3⟩ := Q2.out.count (x 0).del (-1) h3
  have m3 : Mp w3 M (setk hv k false) E := HM2.out.kept (hU3.block M (by obtain ⟨es, c, hb⟩ := HM2.out.block; exact lt_of_heap hb) (by
    simp only [List.mem_singleton]
    rintro rfl
    obtain ⟨es, c, hb⟩ := HM2.out.block
    rw [Q2.out.st] at hb
    cases hb))
  have HS3 := hid (sto_drop HS.out hk hn HX.out (by rw [HX.out]; exact q3) hg HS1.out hh1 m3)
  have hK : Kin B M w w3 := (((Kin.upd0 ((Upd.refl w []).drew)).trans (HK1.out.weak (Nat.le_refl _))).trans (Kin.updM HU2.out HS.out.bM)).trans (Kin.own1 hU3 HS.out.bS Q2.out.st (.inl rfl))
  have HK := hid hK
  clear q3 hU3 m3 hK h3
  go_wp2
  go_end0
  exact ⟨rfl, k, x1, _, hk, hn, HX.out, HS3.out, HK.out⟩
end
end Go.Proofs.Ybulkjnc
