import Derived.Test.YbulkjncUp
namespace Go.Proofs.Ybulkjnc
open Go.RowKit

/-- In heap order but around place i. -/
def Near (x : Nat → Ent) (m i : Nat) : Prop :=
  (1 < m ∧ i ≠ 0 ∧ i ≠ 1 → (x 0).d ≤ (x 1).d) ∧ (2 < m ∧ i ≠ 0 ∧ i ≠ 2 → (x 0).d ≤ (x 2).d) ∧ (3 < m ∧ i ≠ 1 ∧ i ≠ 3 → (x 1).d ≤ (x 3).d) ∧ (3 < m ∧ i = 1 → (x 0).d ≤ (x 3).d)
/-- Place i and its parent are in order. -/
def ParOK (x : Nat → Ent) (m i : Nat) : Prop :=
  (i = 1 ∧ 1 < m → (x 0).d ≤ (x 1).d) ∧ (i = 2 ∧ 2 < m → (x 0).d ≤ (x 2).d) ∧ (i = 3 ∧ 3 < m → (x 1).d ≤ (x 3).d)
/-- Place i and its children are in order. -/
def KidsOK (x : Nat → Ent) (m i : Nat) : Prop :=
  (i = 0 ∧ 1 < m → (x 0).d ≤ (x 1).d) ∧ (i = 0 ∧ 2 < m → (x 0).d ≤ (x 2).d) ∧ (i = 1 ∧ 3 < m → (x 1).d ≤ (x 3).d)

theorem down_step (y : Nat → Ent) (m i j : Nat) (hm : m ≤ 4) (hj : j < m) (hp : i = 0 ∧ j = 1 ∧ (2 < m → (y 1).d ≤ (y 2).d) ∨ i = 0 ∧ j = 2 ∧ (y 2).d < (y 1).d ∨ i = 1 ∧ j = 3) (h : Near y m i) (hlt : (y j).d < (y i).d) :
    Near (swp y i j) m j ∧ ParOK (swp y i j) m j := by
  unfold Near ParOK at *
  rcases hp with ⟨rfl, rfl, h2⟩ | ⟨rfl, rfl, h2⟩ | ⟨rfl, rfl⟩ <;> simp [swp] at * <;> omega

theorem down_heap (y : Nat → Ent) (m k : Nat) (hm : m ≤ 4) (h : Near y m k) (hp : ParOK y m k) (hc : KidsOK y m k) : HeapOK y m := by
  unfold Near ParOK KidsOK HeapOK at *
  omega
theorem down_up (y : Nat → Ent) (m k : Nat) (hm : m ≤ 4) (h : Near y m k) (hc : KidsOK y m k) : UpInv y m k := by
  unfold Near KidsOK UpInv at *
  omega
/-- What 'down' says of the queue that it leaves at place k. -/
theorem down_ends (y : Nat → Ent) (m i0 k : Nat) (hm : m ≤ 4) (hik : i0 ≤ k) (h : Near y m k) (hp : i0 < k → ParOK y m k) (hc : KidsOK y m k) (r : Bool) (hr : r = decide ((i0 : Int) < (k : Int))) :
    (r = true → HeapOK y m) ∧ (r = false → UpInv y m i0) := by
  subst hr
  by_cases e : i0 < k
  · have e' : (i0 : Int) < (k : Int) := by omega
    exact ⟨fun _ => down_heap y m k hm h (hp e) hc, fun h => by simp [e'] at h⟩
  · have e2 : i0 = k := by omega
    subst e2
    exact ⟨fun h => by simp at h, fun _ => down_up y m i0 hm h hc⟩

set_option maxHeartbeats 400000 in
theorem down_walk {S g n cap : Nat} {x : Nat → Ent} {mv : Value} {lv : Int} (m i0 : Nat) (w : World) (q : Qu w S g n cap x mv lv) (hi0 : i0 < m) (hm : m ≤ n) (hn : n ≤ 4) (hI : Near x m i0) (xs : List Nat) (hg : g ∈ xs) (hx : ∀ k, k < n → (x k).b ∈ xs) :
    Calls Yba.prog 24 #[.iface 60 (.pointer (some ⟨S, 1, none⟩)), .int .i64 i0, .int .i64 m] w fun e w' => ∃ r, e = .returned (.bool r) ∧ ∃ x', Qu w' S g n cap x' mv lv ∧ Sm x x' n m ∧ Upd w w' xs ∧
      (r = true → HeapOK x' m) ∧ (r = false → UpInv x' m i0) := by
  go_enter Yba.func24, Yba.ntmps24
  go_wp2
  go_loopw [7] (fun i wr => ∃ (k : Nat) (y : Nat → Ent), i0 ≤ k ∧ k < m ∧ i = .int .i64 k ∧ Qu wr S g n cap y mv lv ∧ Sm x y n m ∧ Near y m k ∧ (i0 < k → ParOK y m k) ∧ Upd w wr xs) (fun i _ => 4 - (intOf i).toNat)
  case atStart => exact ⟨i0, x, Nat.le_refl _, hi0, rfl, q, Sm.refl _ _ _, hI, fun h => absurd h (Nat.lt_irrefl _), Upd.refl _ _⟩
  case round =>
    obtain ⟨k, y, hik, hk, rfl, q', hs, hI', hP, hU⟩ := hrel
    by_cases h0 : 2 * k + 1 < m
    · by_cases h2 : 2 * k + 2 < m
      · -- two children
        have hk0 : k = 0 := by omega
        subst hk0
        have hi00 : i0 = 0 := by omega
        subst hi00
        have hm3 : (2 : Int) < m := by omega
        have hm3' : (1 : Int) < m := by omega
        have hL := q'.less (i := 2) (j := 1) (by omega) (by omega)
        have hM := meth_less S _ wr (cell_of q'.st rfl)
        go_wp2_with fail
        refine hL.mono ?_
        rintro e w1 ⟨rfl, hU1⟩
        clear hL hM
        have q1 := q'.upd hU1
        have hU' := hU.trans' hU1 (by simp)
        by_cases h21 : (y 2).d < (y 1).d
        · rw [decide_eq_true h21]
          have H21 := hid h21
          clear h21
          have hL2 := q1.less (i := 2) (j := 0) (by omega) (by omega)
          have hM2 := meth_less S _ w1 (cell_of q1.st rfl)
          go_wp2_with fail
          refine hL2.mono ?_
          rintro e w2 ⟨rfl, hU2⟩
          clear hL2 hM2
          have q2 := q1.upd hU2
          by_cases hlt : (y 2).d < (y 0).d
          · rw [decide_eq_true hlt]
            have hS := q2.swap (i := 0) (j := 2) (by omega) (by omega) (by omega) xs hg (hs.1.mem hx)
            have hM3 := meth_swap S _ w2 (cell_of q2.st rfl)
            have HS := hid (down_step y m 0 2 (by omega) (by omega) (.inr (.inl ⟨rfl, rfl, H21.out⟩)) hI' hlt)
            have Hl := hid hlt
            clear hlt
            go_wp2_with fail
            refine hS.mono ?_
            rintro e w3 ⟨rfl, q3, hU3⟩
            clear hS hM3
            go_wp2
            go_roundw
            case rel => (repeat apply Exists.intro); exact ⟨⟨2, _, by omega, by omega, by go_num, q3, hs.trans (Sm.swp y (by omega) (by omega) (by omega)), HS.out.1, fun _ => HS.out.2, (hU'.trans' hU2 (by simp)).trans' hU3 (fun y hy => .inl hy)⟩, rfl⟩
            case measure => simp [intOf] <;> omega
          · rw [decide_eq_false hlt]
            have HK := hid (show KidsOK y m 0 by have := H21.out; unfold KidsOK; omega)
            clear hlt
            go_wp2
            go_ret
            exact ⟨_, rfl, y, q2, hs, hU'.trans' hU2 (by simp), down_ends y m _ 0 (by omega) (by omega) hI' hP HK.out _ (by simp)⟩
        · rw [decide_eq_false h21]
          have H21 := hid h21
          clear h21
          have hL2 := q1.less (i := 1) (j := 0) (by omega) (by omega)
          have hM2 := meth_less S _ w1 (cell_of q1.st rfl)
          go_wp2_with fail
          refine hL2.mono ?_
          rintro e w2 ⟨rfl, hU2⟩
          clear hL2 hM2
          have q2 := q1.upd hU2
          by_cases hlt : (y 1).d < (y 0).d
          · rw [decide_eq_true hlt]
            have hS := q2.swap (i := 0) (j := 1) (by omega) (by omega) (by omega) xs hg (hs.1.mem hx)
            have hM3 := meth_swap S _ w2 (cell_of q2.st rfl)
            have HS := hid (down_step y m 0 1 (by omega) (by omega) (.inl ⟨rfl, rfl, fun _ => by have := H21.out; omega⟩) hI' hlt)
            have Hl := hid hlt
            clear hlt
            go_wp2_with fail
            refine hS.mono ?_
            rintro e w3 ⟨rfl, q3, hU3⟩
            clear hS hM3
            go_wp2
            go_roundw
            case rel => (repeat apply Exists.intro); exact ⟨⟨1, _, by omega, by omega, by go_num, q3, hs.trans (Sm.swp y (by omega) (by omega) (by omega)), HS.out.1, fun _ => HS.out.2, (hU'.trans' hU2 (by simp)).trans' hU3 (fun y hy => .inl hy)⟩, rfl⟩
            case measure => simp [intOf] <;> omega
          · rw [decide_eq_false hlt]
            have HK := hid (show KidsOK y m 0 by have := H21.out; unfold KidsOK; omega)
            clear hlt
            go_wp2
            go_ret
            exact ⟨_, rfl, y, q2, hs, hU'.trans' hU2 (by simp), down_ends y m _ 0 (by omega) (by omega) hI' hP HK.out _ (by simp)⟩
      · obtain ⟨c, hc, hc2⟩ : ∃ c : Nat, (k = 0 ∧ c = 1 ∨ k = 1 ∧ c = 3) ∧ (2 * (k : Int) + 1 = (c : Int)) := ⟨2 * k + 1, by omega, by omega⟩
        have hc3 : (c : Int) < m := by omega
        have hc4 : ¬ ((c : Int) + 1 < m) := by omega
        have hc5 : ¬ (c : Int) < 0 := by omega
        have hL2 := q'.less (i := c) (j := k) (by omega) (by omega)
        have hM2 := meth_less S _ wr (cell_of q'.st rfl)
        go_wp2_with fail
        refine hL2.mono ?_
        rintro e w2 ⟨rfl, hU2⟩
        clear hL2 hM2
        have q2 := q'.upd hU2
        by_cases hlt : (y c).d < (y k).d
        · rw [decide_eq_true hlt]
          have hS := q2.swap (i := k) (j := c) (by omega) (by omega) (by omega) xs hg (hs.1.mem hx)
          have hM3 := meth_swap S _ w2 (cell_of q2.st rfl)
          have HS := hid (down_step y m k c (by omega) (by omega) (hc.elim (fun h => .inl ⟨h.1, h.2, fun _ => by omega⟩) (fun h => .inr (.inr h))) hI' hlt)
          have Hl := hid hlt
          clear hlt
          go_wp2_with fail
          refine hS.mono ?_
          rintro e w3 ⟨rfl, q3, hU3⟩
          clear hS hM3
          go_wp2
          go_roundw
          case rel => exact ⟨c, _, by omega, by omega, by go_num, q3, hs.trans (Sm.swp y (by omega) (by omega) (by omega)), HS.out.1, fun _ => HS.out.2, (hU.trans' hU2 (by simp)).trans' hU3 (fun y hy => .inl hy)⟩
          case measure => simp [intOf] <;> omega
        · rw [decide_eq_false hlt]
          have HK := hid (show KidsOK y m k by unfold KidsOK; rcases hc with ⟨rfl, rfl⟩ | ⟨rfl, rfl⟩ <;> omega)
          clear hlt
          go_wp2
          go_ret
          exact ⟨_, rfl, y, q2, hs, hU.trans' hU2 (by simp), down_ends y m _ k (by omega) (by omega) hI' hP HK.out _ (by simp)⟩
    · have hc3 : (m : Int) ≤ 2 * (k : Int) + 1 := by omega
      have HK := hid (show KidsOK y m k by unfold KidsOK; omega)
      go_wp2
      go_ret
      exact ⟨_, rfl, y, q', hs, hU, down_ends y m _ k (by omega) (by omega) hI' hP HK.out _ (by simp)⟩
end Go.Proofs.Ybulkjnc
