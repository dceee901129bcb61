import Derived.Test.YbulkjjwFmtRead
namespace Go.Proofs.YbulkjjwFmt
open Go.RowKit

theorem nil_ahead (a : Addr) (w : World) : (nilAhead 205 32 (.pointer (some a)) "Read").run Ybaf.prog w = .ok (some false) w := by kernel_rfl
theorem meth_read (a : Addr) (w : World) : (method 205 32 (.pointer (some a)) "Read").run Ybaf.prog w = .ok (43, .pointer (some a)) w := by kernel_rfl

set_option maxHeartbeats 400000 in
theorem atLeast_zero (Br d o c : Nat) (w : World) :
    Calls Ybaf.prog 18 #[.iface 32 (.pointer (some ⟨Br, 0, none⟩)), .slice (some ⟨d, o, none⟩) 0 c, .int .i64 0] w fun e w' => e = .returned (.tuple #[.int .i64 0, .nilIface]) ∧ w' = w := by
  go_enter Ybaf.func18, Ybaf.ntmps18
  go_wp2
  refine wp_loop_rounds 1 ?_
  rw [rounds_succ]
  go_wp2
  go_ret2
  exact ⟨rfl, rfl⟩

set_option maxHeartbeats 400000 in
theorem atLeast_walk (Br gs n capS i : Nat) (src : List Int) (d o m c : Nat) (cur : List Value) (t : TypeId) (w : World)
    (hr : w.heap[Br]? = some (.cells #[.slice (some ⟨gs, 0, none⟩) n capS, .int .i64 i] 34 (0, 0))) (hs : RowOf w gs src) (hn : src.length = n) (hcap : n ≤ capS)
    (hd : w.heap[d]? = some (.cells cur.toArray t (0, 0))) (hm : 0 < m) (him : i + m ≤ n) (hlim : n ≤ 100000) (hfit : o + m ≤ cur.length) (hne1 : d ≠ Br) :
    Calls Ybaf.prog 18 #[.iface 32 (.pointer (some ⟨Br, 0, none⟩)), .slice (some ⟨d, o, none⟩) m c, .int .i64 m] w fun e w' => e = .returned (.tuple #[.int .i64 m, .nilIface]) ∧
      w'.heap[Br]? = some (.cells #[.slice (some ⟨gs, 0, none⟩) n capS, .int .i64 (i + m : Nat)] 34 (0, 0)) ∧
      w'.heap[d]? = some (.cells (splice cur o (byteVals ((src.drop i).take m))).toArray t (0, 0)) ∧ Upd w w' [Br, d] := by
  have HR := hid hr
  have HS := hid hs
  have HD := hid hd
  have HN := hid hn
  clear hr hs hd hn
  have hna := nil_ahead
  have hme := meth_read
  go_enter Ybaf.func18, Ybaf.ntmps18
  go_wp2
  refine wp_loop_rounds 2 ?_
  rw [rounds_succ]
  go_wp2
  go_region_with (go_at_call 43; refine (read_walk Br gs n capS i src d o m c cur t _ (by exact HR.out) (by exact HS.out) HN.out hcap (by exact HD.out) hm him hlim hfit hne1).mono ?_; rintro e w1 ⟨rfl, hb1, hd1, hU1⟩)
  have HB := hid hb1
  have HD1 := hid hd1
  clear hb1 hd1
  go_wp2
  rw [rounds_succ]
  go_wp2
  go_ret2
  exact ⟨rfl, HB.out, HD1.out, ((Upd.refl w [Br, d]).drew).trans' hU1 (by simp)⟩

set_option maxHeartbeats 400000 in
theorem full_zero (Br d o c : Nat) (w : World) :
    Calls Ybaf.prog 9 #[.iface 32 (.pointer (some ⟨Br, 0, none⟩)), .slice (some ⟨d, o, none⟩) 0 c] w fun e w' => e = .returned (.tuple #[.int .i64 0, .nilIface]) ∧ w' = w := by
  go_enter Ybaf.func9, Ybaf.ntmps9
  go_wp2_with (go_at_call 18; refine (atLeast_zero _ _ _ _ _).mono ?_; rintro e w1 ⟨rfl, rfl⟩)
  go_ret2
  exact ⟨rfl, rfl⟩

set_option maxHeartbeats 400000 in
theorem full_walk (Br gs n capS i : Nat) (src : List Int) (d o m c : Nat) (cur : List Value) (t : TypeId) (w : World)
    (hr : w.heap[Br]? = some (.cells #[.slice (some ⟨gs, 0, none⟩) n capS, .int .i64 i] 34 (0, 0))) (hs : RowOf w gs src) (hn : src.length = n) (hcap : n ≤ capS)
    (hd : w.heap[d]? = some (.cells cur.toArray t (0, 0))) (hm : 0 < m) (him : i + m ≤ n) (hlim : n ≤ 100000) (hfit : o + m ≤ cur.length) (hne1 : d ≠ Br) :
    Calls Ybaf.prog 9 #[.iface 32 (.pointer (some ⟨Br, 0, none⟩)), .slice (some ⟨d, o, none⟩) m c] w fun e w' => e = .returned (.tuple #[.int .i64 m, .nilIface]) ∧
      w'.heap[Br]? = some (.cells #[.slice (some ⟨gs, 0, none⟩) n capS, .int .i64 (i + m : Nat)] 34 (0, 0)) ∧
      w'.heap[d]? = some (.cells (splice cur o (byteVals ((src.drop i).take m))).toArray t (0, 0)) ∧ Upd w w' [Br, d] := by
  have C := atLeast_walk Br gs n capS i src d o m c cur t w hr hs hn hcap hd hm him hlim hfit hne1
  clear hr hs hd hn
  go_enter Ybaf.func9, Ybaf.ntmps9
  go_wp2_with fail
  refine C.mono ?_
  rintro e w1 ⟨rfl, hb1, hd1, hU1⟩
  have HB := hid hb1
  have HD1 := hid hd1
  clear hb1 hd1 C
  go_wp2
  go_ret2
  exact ⟨rfl, HB.out, HD1.out, hU1⟩

theorem full_any (Br gs n capS i : Nat) (src : List Int) (d o m c : Nat) (cur cur' : List Value) (t : TypeId) (I J M : Int) (hI : I = (i : Int)) (hJ : J = ((i + m : Nat) : Int)) (hM : M = (m : Int)) (w : World)
    (hcur : splice cur o (byteVals ((src.drop i).take m)) = cur')
    (hr : w.heap[Br]? = some (.cells #[.slice (some ⟨gs, 0, none⟩) n capS, .int .i64 I] 34 (0, 0))) (hs : RowOf w gs src) (hn : src.length = n) (hcap : n ≤ capS)
    (hd : w.heap[d]? = some (.cells cur.toArray t (0, 0))) (him : i + m ≤ n) (hlim : n ≤ 100000) (hfit : o + m ≤ cur.length) (hne1 : d ≠ Br) :
    Calls Ybaf.prog 9 #[.iface 32 (.pointer (some ⟨Br, 0, none⟩)), .slice (some ⟨d, o, none⟩) m c] w fun e w' => e = .returned (.tuple #[.int .i64 M, .nilIface]) ∧
      w'.heap[Br]? = some (.cells #[.slice (some ⟨gs, 0, none⟩) n capS, .int .i64 J] 34 (0, 0)) ∧
      w'.heap[d]? = some (.cells cur'.toArray t (0, 0)) ∧ Upd w w' [Br, d] := by
  subst hI hJ hM hcur
  by_cases hm : 0 < m
  · exact full_walk Br gs n capS i src d o m c cur t w hr hs hn hcap hd hm him hlim hfit hne1
  · obtain rfl : m = 0 := by omega
    refine (full_zero Br d o c w).mono ?_
    rintro e w1 ⟨rfl, rfl⟩
    exact ⟨rfl, hr, by simpa [splice, byteVals] using hd, Upd.refl _ _⟩
end Go.Proofs.YbulkjjwFmt
