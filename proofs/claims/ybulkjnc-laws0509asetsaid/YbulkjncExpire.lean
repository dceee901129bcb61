import Derived.Test.YbulkjncRm
namespace Go.Proofs.Ybulkjnc
open Go.RowKit

/-- The queue's length, read of the world. -/
def qlen (w : World) (S : Nat) : Nat := match w.cell? ⟨S, 1, none⟩ with
  | some (.slice _ n _) => n
  | _ => 0

section
variable {B M : Nat} {S n : Nat} {x : Nat → Ent} {sl : Value} {hv : Nat → Bool} {E : Nat → Ent}
theorem Sto.qlen {w : World} (s : Sto B w S M n x sl hv E) : qlen w S = n := by
  obtain ⟨a, c, rfl⟩ := own_slice s.q.own
  have : w.cell? ⟨S, 1, none⟩ = some (.slice a n c) := cell_of s.q.st rfl
  simp [Ybulkjnc.qlen, this]

/-- What is left of the keys while those go that have expired. -/
def Left (hv hv' : Nat → Bool) (E : Nat → Ent) (cut : Int) : Prop := ∀ k, k < 4 → (hv' k = true → hv k = true) ∧ (hv k = true → hv' k = false → (E k).d ≤ cut)

theorem heap_top (x : Nat → Ent) (n i : Nat) (hn : n ≤ 4) (hi : i < n) (h : HeapOK x n) : (x 0).d ≤ (x i).d := by
  unfold HeapOK at h
  have : i = 0 ∨ i = 1 ∨ i = 2 ∨ i = 3 := by omega
  rcases this with rfl | rfl | rfl | rfl <;> omega
theorem left_done {w : World} {n' : Nat} {x' : Nat → Ent} {sl' : Value} {hv' : Nat → Bool} (s : Sto B w S M n' x' sl' hv' E) {cut : Int} (hL : Left hv hv' E cut) (h : n' = 0 ∨ cut < (x' 0).d) : ∀ k, k < 4 → (hv' k = true ↔ hv k = true ∧ cut < (E k).d) := by
  intro k hk
  constructor
  · intro hh
    refine ⟨(hL k hk).1 hh, ?_⟩
    obtain ⟨i, hi, e⟩ := (s.mem (E k)).2 ⟨k, hk, hh, rfl⟩
    have h1 := heap_top x' n' i (by have := s.num; have := cnt_le hv'; omega) hi s.heap
    rw [e] at h1
    omega
  · rintro ⟨h1, h2⟩
    cases hh : hv' k with
    | true => rfl
    | false => have := (hL k hk).2 h1 hh; omega

set_option maxHeartbeats 400000 in
theorem expire_walk (w : World) (s : Sto B w S M n x sl hv E) (cut : Int) :
    Calls Yba.prog 12 #[.pointer (some ⟨S, 0, none⟩), .agg #[.int .u64 (nsOf cut), .int .i64 (scOf cut), .pointer none]] w fun e w' => e = .returned (.tuple #[]) ∧ ∃ n' x' sl' hv', Sto B w' S M n' x' sl' hv' E ∧ (∀ k, k < 4 → (hv' k = true ↔ hv k = true ∧ cut < (E k).d)) ∧ Kin B M w w' := by
  have hb : B ≤ w.heap.size := by have := lt_of_heap s.q.st; have := s.bS; omega
  go_enter Yba.func12, Yba.ntmps12
  go_wp2
  go_loopw [24] (fun _ wr => ∃ n' x' sl' hv', Sto B wr S M n' x' sl' hv' E ∧ Left hv hv' E cut ∧ Kin B M w wr ∧ wr.heap[w.heap.size]? = some (.cells #[.int .u64 (nsOf cut), .int .i64 (scOf cut), .pointer none] 30 (0, 0))) (fun _ wr => qlen wr S)
  case atStart =>
    exact ⟨n, x, sl, hv, s.upd ((Upd.refl w []).alloc _) (by simp), fun k _ => ⟨id, fun h1 h2 => by rw [h1] at h2; cases h2⟩, Kin.upd0 ((Upd.refl w []).alloc _), heap_alloc_new w _⟩
  case round =>
    obtain ⟨n', x', sl', hv', s', hL, hK, hT⟩ := hrel
    obtain ⟨a', c', rfl⟩ := own_slice s'.q.own
    have cS : wr.cell? ⟨S, 1, none⟩ = some (.slice a' n' c') := cell_of s'.q.st rfl
    have HS := hid s'
    have HT := hid hT
    have HK := hid hK
    have HL := hid hL
    clear s' hT hK hL s
    by_cases h0 : n' = 0
    · subst h0
      go_wp2_with fail
      go_quiet (fail)
      go_wp2
      go_end0
      exact ⟨rfl, 0, x', _, hv', HS.out.upd ((Upd.refl wr []).drewN nq) (by simp), left_done HS.out HL.out (.inl rfl), HK.out.trans (Kin.upd0 ((Upd.refl wr []).drewN nq))⟩
    · obtain ⟨g, cap, hsl, hg, q⟩ := HS.out.q.qu (by omega)
      simp only [Value.slice.injEq] at hsl
      obtain ⟨rfl, _, rfl⟩ := hsl
      have h0' : (0 : Int) < (n' : Int) := by omega
      have hd : decide ((0 : Int) < (n' : Int)) = true := decide_eq_true h0'
      have h0n : 0 < n' := by omega
      clear h0
      have hg0 := q.row_cell (i := 0) (by omega)
      have hE0 := q.ent 0 (by omega)
      have t0 : wr.cell? ⟨w.heap.size, 0, none⟩ = some (.int .u64 (nsOf cut)) := cell_of HT.out rfl
      have t1 : wr.cell? ⟨w.heap.size, 1, none⟩ = some (.int .i64 (scOf cut)) := cell_of HT.out rfl
      have t2 : wr.cell? ⟨w.heap.size, 2, none⟩ = some (.pointer none) := cell_of HT.out rfl
      have e0 : wr.cell? ⟨(x' 0).b, 2, none⟩ = some (.int .u64 (nsOf (x' 0).d)) := cell_of hE0 rfl
      have e1 : wr.cell? ⟨(x' 0).b, 3, none⟩ = some (.int .i64 (scOf (x' 0).d)) := cell_of hE0 rfl
      have e2 : wr.cell? ⟨(x' 0).b, 4, none⟩ = some (.pointer none) := cell_of hE0 rfl
      clear q hE0
      go_wp2_with fail
      go_region_held3 (fun w' => w'.cell? ⟨S, 1, none⟩ = some (.slice (some ⟨g, 0, none⟩) n' c') ∧ w'.cell? ⟨g, 0, none⟩ = some (.pointer (some ⟨(x' 0).b, 0, none⟩)) ∧ w'.cell? ⟨w.heap.size, 0, none⟩ = some (.int .u64 (nsOf cut)) ∧ w'.cell? ⟨w.heap.size, 1, none⟩ = some (.int .i64 (scOf cut)) ∧ w'.cell? ⟨w.heap.size, 2, none⟩ = some (.pointer none) ∧ w'.cell? ⟨(x' 0).b, 2, none⟩ = some (.int .u64 (nsOf (x' 0).d)) ∧ w'.cell? ⟨(x' 0).b, 3, none⟩ = some (.int .i64 (scOf (x' 0).d)) ∧ w'.cell? ⟨(x' 0).b, 4, none⟩ = some (.pointer none))
        (first | exact ⟨cS, hg0, t0, t1, t2, e0, e1, e2⟩ | exact ⟨upd_cell hU cS, upd_cell hU hg0, upd_cell hU t0, upd_cell hU t1, upd_cell hU t2, upd_cell hU e0, upd_cell hU e1, upd_cell hU e2⟩)
        (first | (go_at_call 13; refine (before_is cut (x' 0).d _).mono ?_; rintro e w1 ⟨rfl, hU⟩))
      have hU1 : Upd wr w1 [] := ((Upd.refl wr []).drew).trans hU
      have s1 := HS.out.upd hU1 (by simp)
      clear hU
      by_cases hlt : cut < (x' 0).d
      · rw [decide_eq_true hlt]
        have HD := hid (left_done HS.out HL.out (.inr hlt))
        clear hlt
        have HS1 := hid s1
        have HU1 := hid hU1
        clear s1 hU1
        go_wp2
        go_end0
        exact ⟨rfl, n', x', _, hv', HS1.out, HD.out, HK.out.trans (Kin.upd0 HU1.out)⟩
      · rw [decide_eq_false hlt]
        have HN := hid hlt
        clear hlt hd
        obtain ⟨n1, rfl⟩ : ∃ n1, n' = n1 + 1 := ⟨n' - 1, by omega⟩
        have hR := rm_walk w1 s1
        have cS1 := upd_cell hU1 cS
        have hg1 := upd_cell hU1 hg0
        have h0i : (0 : Int) < (n1 : Int) + 1 := by omega
        have HS1 := hid s1
        have HU1 := hid hU1
        clear s1 hU1 cS hg0 t0 t1 t2 e0 e1 e2
        go_wp2_with fail
        refine hR.mono ?_
        rintro e w2 ⟨rfl, k, x2, sl2, hk, hhk, hE, s2, hK2⟩
        clear hR cS1 hg1
        have hq2 := s2.qlen
        have hqr := HS.out.qlen
        have hL2 : Left hv (setk hv' k false) E cut := fun k' hk' => by
          by_cases e : k' = k
          · subst e
            refine ⟨fun h => (by rw [setk_same] at h; cases h), fun _ _ => ?_⟩
            rw [hE]
            have := HN.out
            omega
          · rw [setk_other _ _ _ e]; exact HL.out k' hk'
        have hT2 := hK2.cells (HU1.out.heap HT.out (by simp)) (HS1.out.ne_M (HU1.out.heap HT.out (by simp))) (by decide) (by decide) (by decide)
        have HS2 := hid s2
        have HK2 := hid hK2
        have HL2 := hid hL2
        have HT2 := hid hT2
        have HQ := hid (And.intro hq2 hqr)
        clear s2 hK2 hL2 hT2 hq2 hqr hE
        go_wp2
        go_roundw
        case rel => exact ⟨n1, x2, sl2, _, HS2.out, HL2.out, (HK.out.trans (Kin.upd0 HU1.out)).trans HK2.out, HT2.out⟩
        case measure => rw [HQ.out.1, HQ.out.2]; omega
end
end Go.Proofs.Ybulkjnc
