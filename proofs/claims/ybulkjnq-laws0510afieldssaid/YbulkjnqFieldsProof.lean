import Derived.Test.YbulkjnqFields
import Derived.ProofKit
import Derived.OpenShut
import Derived.ChangeOld
namespace Go.Proofs.Ybulkjnq
open Go.ChangeShapes Go.WideShapes Go.ChangeAt Go.RowKit
open Extern.Stop (cell)

theorem list20 (L : List Value) (h0 : L.length = 20) : ∃ x0 x1 x2 x3 x4 x5 x6 x7 x8 x9 x10 x11 x12 x13 x14 x15 x16 x17 x18 x19 : Value, L = [x0, x1, x2, x3, x4, x5, x6, x7, x8, x9, x10, x11, x12, x13, x14, x15, x16, x17, x18, x19] := by
  obtain ⟨x0, t0, rfl, h1⟩ := len_cons h0
  obtain ⟨x1, t1, rfl, h2⟩ := len_cons h1
  obtain ⟨x2, t2, rfl, h3⟩ := len_cons h2
  obtain ⟨x3, t3, rfl, h4⟩ := len_cons h3
  obtain ⟨x4, t4, rfl, h5⟩ := len_cons h4
  obtain ⟨x5, t5, rfl, h6⟩ := len_cons h5
  obtain ⟨x6, t6, rfl, h7⟩ := len_cons h6
  obtain ⟨x7, t7, rfl, h8⟩ := len_cons h7
  obtain ⟨x8, t8, rfl, h9⟩ := len_cons h8
  obtain ⟨x9, t9, rfl, h10⟩ := len_cons h9
  obtain ⟨x10, t10, rfl, h11⟩ := len_cons h10
  obtain ⟨x11, t11, rfl, h12⟩ := len_cons h11
  obtain ⟨x12, t12, rfl, h13⟩ := len_cons h12
  obtain ⟨x13, t13, rfl, h14⟩ := len_cons h13
  obtain ⟨x14, t14, rfl, h15⟩ := len_cons h14
  obtain ⟨x15, t15, rfl, h16⟩ := len_cons h15
  obtain ⟨x16, t16, rfl, h17⟩ := len_cons h16
  obtain ⟨x17, t17, rfl, h18⟩ := len_cons h17
  obtain ⟨x18, t18, rfl, h19⟩ := len_cons h18
  obtain ⟨x19, t19, rfl, h20⟩ := len_cons h19
  obtain rfl : t19 = [] := List.eq_nil_of_length_eq_zero h20
  exact ⟨x0, x1, x2, x3, x4, x5, x6, x7, x8, x9, x10, x11, x12, x13, x14, x15, x16, x17, x18, x19, rfl⟩
theorem built36 (L : List Value) (hL : L.length = 20) : Yba.prog.built 36 [(0, .agg L.toArray)] = some (L ++ addrZero).toArray := by
  obtain ⟨x0, x1, x2, x3, x4, x5, x6, x7, x8, x9, x10, x11, x12, x13, x14, x15, x16, x17, x18, x19, rfl⟩ := list20 L hL
  kernel_rfl
theorem built42' (L : List Value) (hL : L.length = 20) (Na sa Nq sq f : Int) : Yba.prog.built 42 [(0, .agg (L ++ addrZero).toArray), (1, .agg #[.int .u64 Na, .int .i64 sa, .pointer none]), (2, .agg #[.int .u64 Nq, .int .i64 sq, .pointer none]), (3, .int .i64 f)] = some (entryCells (L ++ addrZero) (.int .u64 Na) (.int .i64 sa) (.pointer none) (.int .u64 Nq) (.int .i64 sq) (.pointer none) (.int .i64 f)) := by
  obtain ⟨x0, x1, x2, x3, x4, x5, x6, x7, x8, x9, x10, x11, x12, x13, x14, x15, x16, x17, x18, x19, rfl⟩ := list20 L hL
  kernel_rfl

theorem fields_walk (xs : List UInt8) (hx : xs.length = 20) (b : Bool) (a q n f : Int) (ha1 : -9223372036854775808 ≤ a) (ha2 : a ≤ 9223372036854775807) (hq1 : -9223372036854775808 ≤ q) (hq2 : q ≤ 9223372036854775807) (hn1 : -9223372036854775808 ≤ n) (hn2 : n ≤ 9223372036854775807) (w : World) :
    Calls Yba.prog 3 #[.bool b, .int .i64 a, .int .i64 q, .int .i64 n, .int .i64 f, .agg (xs.map cell).toArray] w fun e w' => e = .returned (.bool true) ∧ Below w.heap.size w w' := by
  obtain ⟨Na, sa, a0, a1, A⟩ := at_any' a ha1 ha2
  obtain ⟨Nq, sq, q0, q1, Q⟩ := at_any' q hq1 hq2
  obtain ⟨Nn, sn, n0, n1, N⟩ := at_any' n hn1 hn2
  have hL : (xs.map cell).length = 20 := by simpa using hx
  have hone : ∀ v ∈ xs.map cell, v.oneCell' = true := by
    intro v hv
    simp only [List.mem_map] at hv
    obtain ⟨z, _, rfl⟩ := hv
    rfl
  cases b with
  | true => exact fields_yes xs _ rfl hx hL hone a q n f Na sa Nq sq Nn sn w q0 q1 n0 n1 (built36 _ hL) (built42' _ hL _ _ _ _ _) A Q N
  | false => exact fields_no xs _ rfl hx hL hone a q n f Na sa Nq sq Nn sn w a0 a1 n0 n1 (built36 _ hL) (built42' _ hL _ _ _ _ _) A Q N

theorem ownF : ownKnob Yba.prog.godebug = none := by kernel_rfl
theorem laidOutF : laidOutB Yba.prog = true := by kernel_rfl

/-- An array of twenty bytes, opened. -/
theorem open_id {H : Type} {enc : TypeId × Value → H} {W : World} {base : Nat} {v : Value} {d : DataW H} {p : List MemPlace} (hv : Value.okWide Yba.prog W .any base 22 v) (h : DataW.Trod enc Yba.prog W 0 (fun _ => true) true 22 v d p) :
    ∃ xs : List UInt8, xs.length = 20 ∧ v = .agg (xs.map cell).toArray := by
  obtain ⟨cs, rfl, hsz, _⟩ : ∃ cs, v = .agg cs ∧ cs.size = Yba.prog.cellsOf 22 ∧ Row.okWide Yba.prog W .any base 22 cs := by
    simpa [Value.okWide, Yba.underlying22] using hv
  have hsz' : cs.size = 20 := by rw [hsz]; kernel_rfl
  have c5 : Yba.prog.cellsOf 5 = 1 := by kernel_rfl
  obtain ⟨fuel, hf⟩ := h
  obtain ⟨ys, m, _, _, _, hys, hel⟩ := DataW.trod_array Yba.underlying22 hf
  have hone : ∀ i (hi : i < 20), ∃ z : UInt8, cs[i]'(by omega) = cell z := by
    intro i hi
    have h := hel i hi
    rw [c5, Nat.mul_one, List.getElem?_eq_getElem (by omega)] at h
    obtain ⟨n, hn, _, hw⟩ := DataW.trod_int Yba.underlying5 h
    have hd : (Value.cells (.agg cs)).toList = cs.toList := rfl
    rw [hd, List.drop_eq_getElem_cons (by simpa using (by omega : i < cs.size))] at hn
    simp at hn
    have hb := bounds_u8 hw
    refine ⟨UInt8.ofNat n.toNat, ?_⟩
    rw [hn]
    unfold cell
    congr 1
    simp
    omega
  refine ⟨(List.range 20).map fun i => if hi : i < 20 then (hone i hi).choose else 0, by simp, ?_⟩
  congr 1
  apply Array.toList_inj.1
  apply List.ext_getElem
  · simp [hsz']
  · intro i h1 h2
    have hi : i < 20 := by simpa [hsz'] using h1
    have := (hone i hi).choose_spec
    simp only [Array.getElem_toList, List.getElem_map, List.getElem_range, dif_pos hi]
    exact this

set_option maxRecDepth 100000 in
theorem fields_lifted (os : Os) (started : os.Started) (H : Type) (enc : TypeId × Value → H) :
    ReturnsInHanded {} Yba.checked os 3 .any (Rows.lawS0510AFieldsSpec.pre6 enc Yba.prog Yba.f3 Rows.lawS0510AFieldsRow.domain false) (Rows.lawS0510AFieldsSpec.post enc Yba.prog Yba.f3 false true false false) := by
  refine returnsInHanded_of_change (C := Yba.checked) ownF started (by kernel_rfl) Yba.func3
    (ChangeSpec.witness6 (enc := enc) (C := Yba.checked) false ⟨#[], #[.bool false, .int .i64 0, .int .i64 0, .int .i64 0, .int .i64 0, .agg #[.int .u8 0, .int .u8 0, .int .u8 0, .int .u8 0, .int .u8 0, .int .u8 0, .int .u8 0, .int .u8 0, .int .u8 0, .int .u8 0, .int .u8 0, .int .u8 0, .int .u8 0, .int .u8 0, .int .u8 0, .int .u8 0, .int .u8 0, .int .u8 0, .int .u8 0, .int .u8 0]], []⟩ 8 (by kernel_rfl) (by kernel_rfl) (by kernel_rfl) (by kernel_rfl)) ?_
  intro W base args ds gs before hval0 hW hcnd _
  have hval : ∀ (j : Nat) t v, Yba.f3.params[j]? = some t → args[j]? = some v → Value.okWide Yba.prog W .any base t v := hval0
  have hW' := hW
  obtain ⟨p, q, hA0, hV, rfl, hfz, hnd⟩ := hW
  have hA : DataW.TrodAll enc Yba.prog W 0 (fun _ => true) true Yba.f3.params.toList args.toList ds p := hA0
  rw [Yba.params3] at hA hval
  obtain ⟨v0, vs0, d0, ds0, p0, q0, hargs, rfl, rfl, h0, r0⟩ := trodAll_cons hA
  obtain ⟨v1, vs1, d1, ds1, p1, q1, rfl, rfl, rfl, h1, r1⟩ := trodAll_cons r0
  obtain ⟨v2, vs2, d2, ds2, p2, q2, rfl, rfl, rfl, h2, r2⟩ := trodAll_cons r1
  obtain ⟨v3, vs3, d3, ds3, p3, q3, rfl, rfl, rfl, h3, r3⟩ := trodAll_cons r2
  obtain ⟨v4, vs4, d4, ds4, p4, q4, rfl, rfl, rfl, h4, r4⟩ := trodAll_cons r3
  obtain ⟨v5, vs5, d5, ds5, p5, q5, rfl, rfl, rfl, h5, r5⟩ := trodAll_cons r4
  obtain ⟨rfl, rfl, rfl⟩ := trodAll_nil r5
  obtain rfl : args = #[v0, v1, v2, v3, v4, v5] := by cases args; simp_all
  obtain ⟨rfl, rfl⟩ := trodVars_none hV
  obtain ⟨a0, rfl, rfl, rfl⟩ := open_bool Yba.underlying4 (hval 0 4 v0 rfl rfl) h0
  obtain ⟨a1, rfl, rfl, rfl, w1⟩ := open_int Yba.underlying2 (hval 1 2 v1 rfl rfl) h1
  obtain ⟨a2, rfl, rfl, rfl, w2⟩ := open_int Yba.underlying2 (hval 2 2 v2 rfl rfl) h2
  obtain ⟨a3, rfl, rfl, rfl, w3⟩ := open_int Yba.underlying2 (hval 3 2 v3 rfl rfl) h3
  obtain ⟨a4, rfl, rfl, rfl, w4⟩ := open_int Yba.underlying3 (hval 4 3 v4 rfl rfl) h4
  have lt5 : ∀ x ∈ p5, x.block < W.heap.size := by obtain ⟨m, hm⟩ := h5; exact DataW.trod_lt m _ _ _ hm
  obtain ⟨xs, hx, rfl⟩ := open_id (hval 5 22 v5 rfl rfl) h5
  clear hA0 hval0
  have b1 := bounds_i64 w1
  have b2 := bounds_i64 w2
  have b3 := bounds_i64 w3
  refine (fields_walk xs hx a0 a1 a2 a3 a4 b1.1 b1.2 b2.1 b2.2 b3.1 b3.2 W).mono fun e W' ⟨he, bel⟩ => ?_
  subst he
  exact ⟨_, rfl, _, _, _, [], _, [], hW', trodAll_mk1 (shut_bool Yba.underlying4 _), (trodAll_cons_mk (shut_bool Yba.underlying4 _) (trodAll_cons_mk (shut_int Yba.underlying2 w1) (trodAll_cons_mk (shut_int Yba.underlying2 w2) (trodAll_cons_mk (shut_int Yba.underlying2 w3) (trodAll_cons_mk (shut_int Yba.underlying3 w4) (trodAll_cons_mk (Below.trod laidOutF (by kernel_rfl) (of_decide_eq_true (by kernel_rfl)) h5 bel lt5) trodAll_mk0)))))), rfl, bel.frame _, fun h => by cases h⟩

/-- The statement 'Rows.LawS0510AFieldsSaid'. -/
theorem fields_proved : Rows.LawS0510AFieldsSaid :=
  OpenClaim.holds_of_wide 3 Yba.f3 rfl rfl rfl rfl rfl rfl rfl ⟨rfl, rfl, rfl, rfl, rfl⟩ rfl rfl rfl rfl rfl (by kernel_rfl) Yba.func3 (by kernel_rfl)
    (of_decide_eq_true (by kernel_rfl)) (by unfold Func.isWrapper; first | (rw [if_pos (by decide +kernel)]; kernel_rfl) | (rw [if_neg (by decide +kernel)]; exact ⟨rfl, rfl⟩))
    (fun os started H enc _ => fields_lifted os started H enc)
end Go.Proofs.Ybulkjnq
