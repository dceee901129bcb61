import Derived.Test.YbulkjncMeth
namespace Go.Proofs.Ybulkjnc
open Go.RowKit

def UpInv (x : Nat → Ent) (m j : Nat) : Prop :=
  (1 < m ∧ j ≠ 1 → (x 0).d ≤ (x 1).d) ∧ (2 < m ∧ j ≠ 2 → (x 0).d ≤ (x 2).d) ∧ (3 < m ∧ j ≠ 3 → (x 1).d ≤ (x 3).d) ∧ (3 < m ∧ j = 1 → (x 0).d ≤ (x 3).d)
def HeapOK (x : Nat → Ent) (m : Nat) : Prop :=
  (1 < m → (x 0).d ≤ (x 1).d) ∧ (2 < m → (x 0).d ≤ (x 2).d) ∧ (3 < m → (x 1).d ≤ (x 3).d)
/-- The two queues hold the same entries. -/
def Same (x y : Nat → Ent) (n : Nat) : Prop := ∀ e, (∃ i, i < n ∧ x i = e) ↔ ∃ i, i < n ∧ y i = e
theorem Same.refl (x : Nat → Ent) (n : Nat) : Same x x n := fun _ => Iff.rfl
theorem Same.trans {x y z : Nat → Ent} {n : Nat} (h : Same x y n) (k : Same y z n) : Same x z n := fun e => (h e).trans (k e)
theorem Same.swp (x : Nat → Ent) {n i j : Nat} (hi : i < n) (hj : j < n) : Same x (swp x i j) n := by
  intro e
  constructor
  · rintro ⟨k, hk, rfl⟩
    by_cases h1 : k = i
    · subst h1
      refine ⟨j, hj, ?_⟩
      unfold Ybulkjnc.swp
      by_cases h2 : j = k
      · rw [if_pos h2, h2]
      · rw [if_neg h2, if_pos rfl]
    · by_cases h2 : k = j
      · subst h2
        exact ⟨i, hi, by simp [Ybulkjnc.swp]⟩
      · exact ⟨k, hk, by simp [Ybulkjnc.swp, h1, h2]⟩
  · rintro ⟨k, hk, rfl⟩
    unfold Ybulkjnc.swp
    split
    · exact ⟨j, hj, rfl⟩
    · split
      · exact ⟨i, hi, rfl⟩
      · exact ⟨k, hk, rfl⟩
theorem Same.mem {x y : Nat → Ent} {n : Nat} (h : Same x y n) {xs : List Nat} (hx : ∀ k, k < n → (x k).b ∈ xs) : ∀ k, k < n → (y k).b ∈ xs := by
  intro k hk
  obtain ⟨i, hi, e⟩ := (h (y k)).2 ⟨k, hk, rfl⟩
  rw [← e]
  exact hx i hi

/-- The two queues hold the same entries, and from place m on they are one. -/
def Sm (x y : Nat → Ent) (n m : Nat) : Prop := Same x y n ∧ ∀ i, m ≤ i → y i = x i
theorem Sm.refl (x : Nat → Ent) (n m : Nat) : Sm x x n m := ⟨Same.refl _ _, fun _ _ => rfl⟩
theorem Sm.trans {x y z : Nat → Ent} {n m : Nat} (h : Sm x y n m) (k : Sm y z n m) : Sm x z n m := ⟨h.1.trans k.1, fun i hi => (k.2 i hi).trans (h.2 i hi)⟩
theorem Sm.swp (x : Nat → Ent) {n m i j : Nat} (hi : i < m) (hj : j < m) (hm : m ≤ n) : Sm x (swp x i j) n m :=
  ⟨Same.swp x (by omega) (by omega), fun k hk => by unfold Ybulkjnc.swp; rw [if_neg (by omega), if_neg (by omega)]⟩

theorem up_step (y : Nat → Ent) (m k p : Nat) (hp : k = 1 ∧ p = 0 ∨ k = 2 ∧ p = 0 ∨ k = 3 ∧ p = 1) (h : UpInv y m k) (hlt : (y k).d < (y p).d) : UpInv (swp y p k) m p := by
  unfold UpInv at *
  rcases hp with ⟨rfl, rfl⟩ | ⟨rfl, rfl⟩ | ⟨rfl, rfl⟩ <;> simp [swp] at h hlt ⊢ <;> omega
theorem up_stop (y : Nat → Ent) (m k p : Nat) (hp : k = 1 ∧ p = 0 ∨ k = 2 ∧ p = 0 ∨ k = 3 ∧ p = 1) (h : UpInv y m k) (hlt : ¬ (y k).d < (y p).d) : HeapOK y m := by
  unfold UpInv at h
  unfold HeapOK
  rcases hp with ⟨rfl, rfl⟩ | ⟨rfl, rfl⟩ | ⟨rfl, rfl⟩ <;> simp at h hlt ⊢ <;> omega

set_option maxHeartbeats 400000 in
theorem up_walk {S g n cap : Nat} {x : Nat → Ent} {mv : Value} {lv : Int} (m j : Nat) (w : World) (q : Qu w S g n cap x mv lv) (hj : j < m) (hm : m ≤ n) (hn : n ≤ 4) (hI : UpInv x m j) (xs : List Nat) (hg : g ∈ xs) (hx : ∀ k, k < n → (x k).b ∈ xs) :
    Calls Yba.prog 23 #[.iface 60 (.pointer (some ⟨S, 1, none⟩)), .int .i64 j] w fun e w' => e = .returned (.tuple #[]) ∧ ∃ x', Qu w' S g n cap x' mv lv ∧ Sm x x' n m ∧ HeapOK x' m ∧ Upd w w' xs := by
  go_enter Yba.func23, Yba.ntmps23
  go_wp2
  go_loopw [1] (fun i wr => ∃ (k : Nat) (y : Nat → Ent), k < m ∧ i = .int .i64 k ∧ Qu wr S g n cap y mv lv ∧ Sm x y n m ∧ UpInv y m k ∧ Upd w wr xs) (fun i _ => (intOf i).toNat)
  case atStart => exact ⟨j, x, hj, rfl, q, Sm.refl _ _ _, hI, Upd.refl _ _⟩
  case round =>
    obtain ⟨k, y, hk, rfl, q', hs, hI', hU⟩ := hrel
    by_cases h0 : k = 0
    · subst h0
      go_wp2
      go_end0
      exact ⟨rfl, y, q', hs, by unfold UpInv at hI'; unfold HeapOK; omega, hU⟩
    · obtain ⟨p, hp, h1⟩ : ∃ p : Nat, (k = 1 ∧ p = 0 ∨ k = 2 ∧ p = 0 ∨ k = 3 ∧ p = 1) ∧ ((k : Int) - 1).tdiv 2 = (p : Int) := by
        have : k = 1 ∨ k = 2 ∨ k = 3 := by omega
        rcases this with rfl | rfl | rfl
        · exact ⟨0, .inl ⟨rfl, rfl⟩, rfl⟩
        · exact ⟨0, .inr (.inl ⟨rfl, rfl⟩), rfl⟩
        · exact ⟨1, .inr (.inr ⟨rfl, rfl⟩), rfl⟩
      have hL := q'.less (i := k) (j := p) (by omega) (by omega)
      have hM := meth_less S _ wr (cell_of q'.st rfl)
      have h2 : ((p : Int) == (k : Int)) = false := by simpa using (show ¬ (p : Int) = (k : Int) by omega)
      go_wp2_with fail
      refine hL.mono ?_
      rintro e w1 ⟨rfl, hU1⟩
      clear hL hM
      by_cases hlt : (y k).d < (y p).d
      · have q1 := q'.upd hU1
        rw [decide_eq_true hlt]
        have hS := q1.swap (i := p) (j := k) (by omega) (by omega) (by omega) xs hg (hs.1.mem hx)
        have hM := meth_swap S _ w1 (cell_of q1.st rfl)
        go_wp2_with fail
        refine hS.mono ?_
        rintro e w2 ⟨rfl, q2, hU2⟩
        clear hS hM
        go_wp2
        go_roundw
        case rel => exact ⟨p, _, by omega, rfl, q2, hs.trans (Sm.swp y (by omega) (by omega) (by omega)), up_step y m k p hp hI' hlt, (hU.trans' hU1 (by simp)).trans' hU2 (fun y hy => .inl hy)⟩
        case measure => simp [intOf]; omega
      · have q1 := q'.upd hU1
        rw [decide_eq_false hlt]
        have H := hid hlt
        clear hlt
        go_wp2
        go_end0
        exact ⟨rfl, y, q1, hs, up_stop y m k p hp hI' (by have := H.out; omega), hU.trans' hU1 (by simp)⟩
end Go.Proofs.Ybulkjnc
