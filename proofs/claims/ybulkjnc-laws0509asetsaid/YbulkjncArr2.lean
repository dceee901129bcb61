import Derived.Test.YbulkjncArr
namespace Go.Proofs.Ybulkjnc
open Go.RowKit

section
variable {w : World} {B : Nat} {hv : Nat → Bool} {E : Nat → Ent}
theorem lt4 {j : Nat} (h : j < 4) : j = 0 ∨ j = 1 ∨ j = 2 ∨ j = 3 := by omega
theorem Arr.c6 (r : Arr w B hv E) {j : Nat} (h : j < 4) : w.cell? ⟨B, j, none⟩ = some (.bool (hv j)) := by
  rcases lt4 h with rfl | rfl | rfl | rfl <;> exact cell_of r.h6 rfl
theorem Arr.c7 (r : Arr w B hv E) {j : Nat} (h : j < 4) : w.cell? ⟨B + 1, j, none⟩ = some (.bool (E j).del) := by
  rcases lt4 h with rfl | rfl | rfl | rfl <;> exact cell_of r.h7 rfl
theorem Arr.c80 (r : Arr w B hv E) {j : Nat} (h : j < 4) : w.cell? ⟨B + 1 + 1, j * 3, none⟩ = some (.int .u64 (nsOf (E j).d)) := by
  rcases lt4 h with rfl | rfl | rfl | rfl <;> exact cell_of r.h8 rfl
theorem Arr.c81 (r : Arr w B hv E) {j : Nat} (h : j < 4) : w.cell? ⟨B + 1 + 1, j * 3 + 1, none⟩ = some (.int .i64 (scOf (E j).d)) := by
  rcases lt4 h with rfl | rfl | rfl | rfl <;> exact cell_of r.h8 rfl
theorem Arr.c82 (r : Arr w B hv E) {j : Nat} (h : j < 4) : w.cell? ⟨B + 1 + 1, j * 3 + 2, none⟩ = some (.pointer none) := by
  rcases lt4 h with rfl | rfl | rfl | rfl <;> exact cell_of r.h8 rfl
end

/-- How many of the first j keys f names. -/
def pcnt (f : Nat → Bool) : Nat → Nat
  | 0 => 0
  | j + 1 => pcnt f j + (f j).toNat
/-- How many of them hold a value. -/
def plv (f : Nat → Bool) (E : Nat → Ent) : Nat → Nat
  | 0 => 0
  | j + 1 => plv f E j + (f j && !(E j).del).toNat
theorem pcnt_le (f : Nat → Bool) : ∀ j, pcnt f j ≤ j
  | 0 => Nat.le_refl _
  | j + 1 => by
    have := pcnt_le f j
    unfold pcnt
    cases f j <;> simp <;> omega
theorem plv_le (f : Nat → Bool) (E : Nat → Ent) : ∀ j, plv f E j ≤ j
  | 0 => Nat.le_refl _
  | j + 1 => by
    have := plv_le f E j
    unfold plv
    cases (f j && !(E j).del) <;> simp <;> omega
theorem pcnt_four (f : Nat → Bool) : pcnt f 4 = cnt f := by simp [pcnt, cnt]
theorem plv_four (f : Nat → Bool) (E : Nat → Ent) : (plv f E 4 : Int) = lvc f E := by
  simp only [plv, lvc, one]
  cases f 0 <;> cases f 1 <;> cases f 2 <;> cases f 3 <;> cases (E 0).del <;> cases (E 1).del <;> cases (E 2).del <;> cases (E 3).del <;> rfl
theorem cnt_congr {f g : Nat → Bool} (h : ∀ k, k < 4 → f k = g k) : cnt f = cnt g := by
  simp [cnt, h 0 (by omega), h 1 (by omega), h 2 (by omega), h 3 (by omega)]
theorem lvc_congr {f g : Nat → Bool} (E : Nat → Ent) (h : ∀ k, k < 4 → f k = g k) : lvc f E = lvc g E := by
  simp [lvc, h 0 (by omega), h 1 (by omega), h 2 (by omega), h 3 (by omega)]
theorem pcnt_yes (f : Nat → Bool) (j : Nat) (h : f j = true) : pcnt f (j + 1) = pcnt f j + 1 := by simp [pcnt, h]
theorem pcnt_no (f : Nat → Bool) (j : Nat) (h : f j = false) : pcnt f (j + 1) = pcnt f j := by simp [pcnt, h]
theorem plv_yes (f : Nat → Bool) (E : Nat → Ent) (j : Nat) (h : f j = true) (h2 : (E j).del = false) : plv f E (j + 1) = plv f E j + 1 := by simp [plv, h, h2]
theorem plv_mark (f : Nat → Bool) (E : Nat → Ent) (j : Nat) (h2 : (E j).del = true) : plv f E (j + 1) = plv f E j := by simp [plv, h2]
theorem plv_no (f : Nat → Bool) (E : Nat → Ent) (j : Nat) (h : f j = false) : plv f E (j + 1) = plv f E j := by simp [plv, h]

theorem Upd.tr0 {a b c : World} (h : Upd a b []) (k : Upd b c []) : Upd a c [] := h.trans' k (by simp)
theorem upd_new {w w' : World} {o : Obj} (h : Upd (w.alloc o) w' []) : w'.heap[w.heap.size]? = some o := h.heap (heap_alloc_new w o) (by simp)
theorem upd_newd {w w' : World} {o : Obj} (h : Upd (w.alloc o).drew w' []) : w'.heap[w.heap.size]? = some o := h.heap (a := (w.alloc o).drew) (heap_alloc_new w o) (by simp)
theorem five {w w' : World} (h : Upd w w' []) {p0 p1 p2 p3 p4 : Addr} {v0 v1 v2 v3 v4 : Value} (h0 : w.cell? p0 = some v0) (h1 : w.cell? p1 = some v1) (h2 : w.cell? p2 = some v2) (h3 : w.cell? p3 = some v3) (h4 : w.cell? p4 = some v4) :
    w'.cell? p0 = some v0 ∧ w'.cell? p1 = some v1 ∧ w'.cell? p2 = some v2 ∧ w'.cell? p3 = some v3 ∧ w'.cell? p4 = some v4 :=
  ⟨upd_cell h h0, upd_cell h h1, upd_cell h h2, upd_cell h h3, upd_cell h h4⟩
theorem add_is (d : Int) (w : World) (h1 : -9223372036854775808 ≤ d) (h2 : d ≤ 9223372036854775807) :
    Calls Yba.prog 7 #[.agg #[.int .u64 0, .int .i64 0, .pointer none], .int .i64 d] w fun e w' => e = .returned (.agg #[.int .u64 (nsOf d), .int .i64 (scOf d), .pointer none]) ∧ Upd w w' [] := add_walk d w h1 h2
end Go.Proofs.Ybulkjnc
