import Derived.Test.YbulkjnqReg
import Derived.Stop.BytesEq
namespace Go.Proofs.Ybulkjnq
open Go.RowKit
open Extern.Stop (cell)

theorem at_any' (d : Int) (h1 : -9223372036854775808 ≤ d) (h2 : d ≤ 9223372036854775807) : ∃ N s : Int, 0 ≤ N ∧ N < 1000000000 ∧ ∀ W, Calls Yba.prog 6 #[.int .i64 d] W fun e w' => e = .returned (.agg #[.int .u64 N, .int .i64 s, .pointer none]) ∧ Upd W w' [] :=
  ⟨d % 1000000000, d / 1000000000, by omega, by omega, fun W => at_walk d W h1 h2⟩
theorem size5 (w : World) : (sizeOf 5).run Yba.prog w = .ok 1 w := by kernel_rfl
theorem neq_id (xs : List UInt8) (hx : xs.length = 20) (w : World) : (binOp .neq 23 (.agg (xs.map cell).toArray) (.agg (xs.map cell).toArray)).run Yba.prog w = .ok (.bool false) w := by
  rw [run_neq_struct, run_equalIn_bytes w 9998 23 5 20 Yba.underlying23 Yba.underlying5 size5 xs xs hx hx]
  simp

theorem range_upd2 {w w1 : World} {B : Nat} {L : List Value} {ys : List Nat} (h : w.rangeAt B 0 L) (hU : Upd w w1 ys) (hn : B ∉ ys) : w1.rangeAt B 0 L := fun j v hv => by
  have := h j v hv
  exact (World.cell?_of_block (hU.block _ (World.block_lt_of_cell? w _ this) hn)).trans this
theorem range_entry {w : World} {E : Nat} {L : List Value} {a0 a1 a2 q0 q1 q2 f : Value} (h : w.heap[E]? = some (.cells (entryCells (L ++ addrZero) a0 a1 a2 q0 q1 q2 f) 42 (0, 0))) : w.rangeAt E 0 L := fun j v hv => by
  rw [Nat.zero_add]
  refine cell_of h ?_
  have hj : j < L.length := (List.getElem?_eq_some_iff.1 hv).1
  simp only [entryCells, List.getElem?_toArray]
  rw [List.append_assoc, List.getElem?_append_left hj]
  exact hv

set_option maxHeartbeats 1000000 in
theorem fields_yes (xs : List UInt8) (L : List Value) (hLx : L = xs.map cell) (hx : xs.length = 20) (hL : L.length = 20) (hone : ∀ v ∈ L, v.oneCell' = true) (a q n f : Int) (Na sa Nq sq Nn sn : Int) (w : World)
    (q0 : 0 ≤ Nq) (q1 : Nq < 1000000000) (n0 : 0 ≤ Nn) (n1 : Nn < 1000000000)
    (hb36 : Yba.prog.built 36 [(0, .agg L.toArray)] = some (L ++ addrZero).toArray)
    (hb42 : Yba.prog.built 42 [(0, .agg (L ++ addrZero).toArray), (1, .agg #[.int .u64 Na, .int .i64 sa, .pointer none]), (2, .agg #[.int .u64 Nq, .int .i64 sq, .pointer none]), (3, .int .i64 f)] = some (entryCells (L ++ addrZero) (.int .u64 Na) (.int .i64 sa) (.pointer none) (.int .u64 Nq) (.int .i64 sq) (.pointer none) (.int .i64 f)))
    (A : ∀ W, Calls Yba.prog 6 #[.int .i64 a] W fun e w' => e = .returned (.agg #[.int .u64 Na, .int .i64 sa, .pointer none]) ∧ Upd W w' [])
    (Q : ∀ W, Calls Yba.prog 6 #[.int .i64 q] W fun e w' => e = .returned (.agg #[.int .u64 Nq, .int .i64 sq, .pointer none]) ∧ Upd W w' [])
    (N : ∀ W, Calls Yba.prog 6 #[.int .i64 n] W fun e w' => e = .returned (.agg #[.int .u64 Nn, .int .i64 sn, .pointer none]) ∧ Upd W w' []) :
    Calls Yba.prog 3 #[.bool true, .int .i64 a, .int .i64 q, .int .i64 n, .int .i64 f, .agg L.toArray] w fun e w' => e = .returned (.bool true) ∧ Below w.heap.size w w' := by
  have hneq : ∀ W, (binOp .neq 23 (.agg L.toArray) (.agg L.toArray)).run Yba.prog W = .ok (.bool false) W := by intro W; rw [hLx]; exact neq_id xs hx W
  have hi22 : (Yba.prog.info? 22).map (·.size) = some L.length := by rw [hL]; kernel_rfl
  have hi23 : (Yba.prog.info? 23).map (·.size) = some L.length := by rw [hL]; kernel_rfl
  have hL2 : (L ++ addrZero).length = 24 := by simp [hL, addrZero]
  have R := region1 (P := Yba.prog) (L := L) (hL := hL) (hone := hone) (b := true) (a := a) (q := q) (n := n) (f := f) (Na := Na) (sa := sa) (Nq := Nq) (sq := sq) (w := w) (hm := by kernel_rfl) (hu := Yba.underlying22) (hi := hi22) (hsz42 := size42) (halloc := alloc42) (henter := enter6) (hb36 := hb36) (hb42 := hb42) (A := A) (Q := Q)
  have HR := fun pos => hid (R pos)
  have HI22 := hid hi22
  have HI23 := hid hi23
  have HL2 := hid hL2
  clear R hb36 hb42 A hi22 hi23 hL hLx hL2
  go_enter Yba.func3, Yba.ntmps3
  go_wp2
  refine Code.wp_mono ?_ (HR _).out
  rintro e a' w3 ⟨rfl, E, hE, hent, hrng, hUp, rfl⟩
  clear HR
  have HENT := hid hent
  have HRNG := hid hrng
  have HU3 := hid hUp
  clear hent hrng hUp
  go_wp2_with fail
  refine (N _).mono ?_
  rintro e w4 ⟨rfl, hU4⟩
  have HU4 : Hid (Upd w w4 []) := HU3.out.trans hU4
  have HENT4 := hid (hU4.heap HENT.out (by simp))
  have HRNG4 := hid (range_upd HRNG.out hU4)
  have hl4 := lt_of_heap HENT4.out
  clear hU4 HENT HRNG HU3
  go_wp2_with fail
  refine (hear_yes E (L ++ addrZero) HL2.out _ _ _ _ _ _ _ Nn sn _ ((Below.heap_alloc _ _ _ hl4).trans HENT4.out)).mono ?_
  rintro e w5 ⟨rfl, hE5, hU5⟩
  have HU5 : Hid (Upd w w5 []) := (HU4.out.alloc _).trans' hU5 (by simp; omega)
  have HT5 := hid (hU5.heap (heap_alloc_new w4 _) (by simp; omega))
  have HRNG5 := hid (range_upd2 (range_alloc HRNG4.out _) hU5 (by simp; omega))
  have HID5 := hid (range_entry hE5)
  have HE5 := hid hE5
  clear hU5 hE5 HRNG4 HENT4 HU4
  have tok1 : True := trivial
  go_wp2_with (first | (refine wpList_load_mid rfl 22 (.tmp 11) rfl w.heap.size 0 rfl L (.array 20 5) HRNG5.out Yba.underlying22 rfl HI22.out ?_) | (refine wpList_load_mid rfl 23 (.tmp 30) rfl E 0 rfl L (.array 20 5) HID5.out Yba.underlying23 rfl HI23.out ?_))
  have t0 := cell_of (j := 0) HT5.out rfl
  have t1 := cell_of (j := 1) HT5.out rfl
  have t2 := cell_of (j := 2) HT5.out rfl
  have e0 := cell_of HE5.out (entry_at HL2.out 24 (by omega))
  have e1 := cell_of HE5.out (entry_at HL2.out 25 (by omega))
  have e2 := cell_of HE5.out (entry_at HL2.out 26 (by omega))
  go_wp2
  go_region_with (first | (go_at_call 8; have _t := tok1; refine (equal_same Nn sn _ n0 n1).mono ?_; rintro e w6 ⟨rfl, hU6⟩; clear tok1; have HE6 := hid (hU6.heap (show w5.drew.heap[E]? = _ from HE5.out) (by simp)); have k0 := cell_of HE6.out (entry_at HL2.out 27 (by omega)); have k1 := cell_of HE6.out (entry_at HL2.out 28 (by omega)); have k2 := cell_of HE6.out (entry_at HL2.out 29 (by omega)); have k3 := cell_of HE6.out (entry_at HL2.out 30 (by omega))) | (go_at_call 6; refine (Q _).mono ?_; rintro e w7 ⟨rfl, hU7⟩; have HE7 := hid (hU7.heap HE6.out (by simp)); have m0 := cell_of HE7.out (entry_at HL2.out 27 (by omega)); have m1 := cell_of HE7.out (entry_at HL2.out 28 (by omega)); have m2 := cell_of HE7.out (entry_at HL2.out 29 (by omega))) | (go_at_call 8; refine (equal_same Nq sq _ q0 q1).mono ?_; rintro e w8 ⟨rfl, hU8⟩))
  all_goals
    go_wp2
    go_ret
    exact ⟨rfl, ((((HU5.out.drew).trans' hU6 (by simp)).trans' hU7 (by simp)).trans' hU8 (by simp)).below (Nat.le_refl _) (by simp)⟩

set_option maxHeartbeats 1000000 in
theorem fields_no (xs : List UInt8) (L : List Value) (hLx : L = xs.map cell) (hx : xs.length = 20) (hL : L.length = 20) (hone : ∀ v ∈ L, v.oneCell' = true) (a q n f : Int) (Na sa Nq sq Nn sn : Int) (w : World)
    (a0 : 0 ≤ Na) (a1 : Na < 1000000000) (n0 : 0 ≤ Nn) (n1 : Nn < 1000000000)
    (hb36 : Yba.prog.built 36 [(0, .agg L.toArray)] = some (L ++ addrZero).toArray)
    (hb42 : Yba.prog.built 42 [(0, .agg (L ++ addrZero).toArray), (1, .agg #[.int .u64 Na, .int .i64 sa, .pointer none]), (2, .agg #[.int .u64 Nq, .int .i64 sq, .pointer none]), (3, .int .i64 f)] = some (entryCells (L ++ addrZero) (.int .u64 Na) (.int .i64 sa) (.pointer none) (.int .u64 Nq) (.int .i64 sq) (.pointer none) (.int .i64 f)))
    (A : ∀ W, Calls Yba.prog 6 #[.int .i64 a] W fun e w' => e = .returned (.agg #[.int .u64 Na, .int .i64 sa, .pointer none]) ∧ Upd W w' [])
    (Q : ∀ W, Calls Yba.prog 6 #[.int .i64 q] W fun e w' => e = .returned (.agg #[.int .u64 Nq, .int .i64 sq, .pointer none]) ∧ Upd W w' [])
    (N : ∀ W, Calls Yba.prog 6 #[.int .i64 n] W fun e w' => e = .returned (.agg #[.int .u64 Nn, .int .i64 sn, .pointer none]) ∧ Upd W w' []) :
    Calls Yba.prog 3 #[.bool false, .int .i64 a, .int .i64 q, .int .i64 n, .int .i64 f, .agg L.toArray] w fun e w' => e = .returned (.bool true) ∧ Below w.heap.size w w' := by
  have hneq : ∀ W, (binOp .neq 23 (.agg L.toArray) (.agg L.toArray)).run Yba.prog W = .ok (.bool false) W := by intro W; rw [hLx]; exact neq_id xs hx W
  have hi22 : (Yba.prog.info? 22).map (·.size) = some L.length := by rw [hL]; kernel_rfl
  have hi23 : (Yba.prog.info? 23).map (·.size) = some L.length := by rw [hL]; kernel_rfl
  have hL2 : (L ++ addrZero).length = 24 := by simp [hL, addrZero]
  have R := region1 (P := Yba.prog) (L := L) (hL := hL) (hone := hone) (b := false) (a := a) (q := q) (n := n) (f := f) (Na := Na) (sa := sa) (Nq := Nq) (sq := sq) (w := w) (hm := by kernel_rfl) (hu := Yba.underlying22) (hi := hi22) (hsz42 := size42) (halloc := alloc42) (henter := enter6) (hb36 := hb36) (hb42 := hb42) (A := A) (Q := Q)
  have HR := fun pos => hid (R pos)
  have HI22 := hid hi22
  have HI23 := hid hi23
  have HL2 := hid hL2
  clear R hb36 hb42 Q hi22 hi23 hL hLx hL2
  go_enter Yba.func3, Yba.ntmps3
  go_wp2
  refine Code.wp_mono ?_ (HR _).out
  rintro e a' w3 ⟨rfl, E, hE, hent, hrng, hUp, rfl⟩
  clear HR
  have HENT := hid hent
  have HRNG := hid hrng
  have HU3 := hid hUp
  clear hent hrng hUp
  go_wp2_with fail
  refine (N _).mono ?_
  rintro e w4 ⟨rfl, hU4⟩
  have HU4 : Hid (Upd w w4 []) := HU3.out.trans hU4
  have HENT4 := hid (hU4.heap HENT.out (by simp))
  have HRNG4 := hid (range_upd HRNG.out hU4)
  have hl4 := lt_of_heap HENT4.out
  clear hU4 HENT HRNG HU3
  go_wp2_with fail
  refine (hear_no E (L ++ addrZero) HL2.out _ _ _ _ _ _ _ Nn sn _ ((Below.heap_alloc _ _ _ hl4).trans HENT4.out)).mono ?_
  rintro e w5 ⟨rfl, hE5, hU5⟩
  have HU5 : Hid (Upd w w5 []) := (HU4.out.alloc _).trans' hU5 (by simp; omega)
  have HT5 := hid (hU5.heap (heap_alloc_new w4 _) (by simp; omega))
  have HRNG5 := hid (range_upd2 (range_alloc HRNG4.out _) hU5 (by simp; omega))
  have HID5 := hid (range_entry hE5)
  have HE5 := hid hE5
  clear hU5 hE5 HRNG4 HENT4 HU4
  have tok1 : True := trivial
  go_wp2_with (first | (refine wpList_load_mid rfl 22 (.tmp 11) rfl w.heap.size 0 rfl L (.array 20 5) HRNG5.out Yba.underlying22 rfl HI22.out ?_) | (refine wpList_load_mid rfl 23 (.tmp 30) rfl E 0 rfl L (.array 20 5) HID5.out Yba.underlying23 rfl HI23.out ?_))
  have t0 := cell_of (j := 0) HT5.out rfl
  have t1 := cell_of (j := 1) HT5.out rfl
  have t2 := cell_of (j := 2) HT5.out rfl
  have e0 := cell_of HE5.out (entry_at HL2.out 27 (by omega))
  have e1 := cell_of HE5.out (entry_at HL2.out 28 (by omega))
  have e2 := cell_of HE5.out (entry_at HL2.out 29 (by omega))
  go_wp2
  go_region_with (first | (go_at_call 8; have _t := tok1; refine (equal_same Nn sn _ n0 n1).mono ?_; rintro e w6 ⟨rfl, hU6⟩; clear tok1; have HE6 := hid (hU6.heap (show w5.drew.heap[E]? = _ from HE5.out) (by simp)); have k0 := cell_of HE6.out (entry_at HL2.out 24 (by omega)); have k1 := cell_of HE6.out (entry_at HL2.out 25 (by omega)); have k2 := cell_of HE6.out (entry_at HL2.out 26 (by omega)); have k3 := cell_of HE6.out (entry_at HL2.out 30 (by omega))) | (go_at_call 6; refine (A _).mono ?_; rintro e w7 ⟨rfl, hU7⟩; have HE7 := hid (hU7.heap HE6.out (by simp)); have m0 := cell_of HE7.out (entry_at HL2.out 24 (by omega)); have m1 := cell_of HE7.out (entry_at HL2.out 25 (by omega)); have m2 := cell_of HE7.out (entry_at HL2.out 26 (by omega))) | (go_at_call 8; refine (equal_same Na sa _ a0 a1).mono ?_; rintro e w8 ⟨rfl, hU8⟩))
  all_goals
    go_wp2
    go_ret
    exact ⟨rfl, ((((HU5.out.drew).trans' hU6 (by simp)).trans' hU7 (by simp)).trans' hU8 (by simp)).below (Nat.le_refl _) (by simp)⟩
end Go.Proofs.Ybulkjnq
