import Derived.Test.YbulkjnqBase
namespace Go.Proofs.Ybulkjnq
open Go.RowKit

theorem zero20 (w : World) : (zeroValue 20).run Yba.prog w = .ok .nilIface w := by kernel_rfl
theorem look_nil (s : ByteArray) (w : World) : (Instr.lookup 48 (.map none) (.string s) false).run Yba.prog w = .ok .nilIface w := by
  have hc : (Instr.checkKey true 10000 9 (.string s)).run Yba.prog w = .ok () w := MapKept.run_checkKey (k := .string s) Yba.underlying9 (by simp [MapKept.IsKey]) true 9999
  have hf : Instr.findNow .string (.string s) ([] : List MapEntry) 0 = some none := rfl
  simp [Instr.lookup, run_underlying Yba.underlying48, hc, MapKept.run_findKey Yba.underlying9 hf, Result.andThen]
theorem look_hit (r : Nat) (s : ByteArray) (v : Value) (c cl : Nat) (w : World) (hb : w.heap[r]? = some (.map #[{ key := .string s, val := v, born := c }] cl)) :
    (Instr.lookup 48 (.map (some r)) (.string s) false).run Yba.prog w = .ok v w := by
  have hc : (Instr.checkKey false 10000 9 (.string s)).run Yba.prog w = .ok () w := MapKept.run_checkKey (k := .string s) Yba.underlying9 (by simp [MapKept.IsKey]) false 9999
  have hf : Instr.findNow .string (.string s) [({ key := .string s, val := v, born := c } : MapEntry)] 0 = some (some (0, v)) := by
    have e : (s == s) = true := (MapKept.bytes_beq s s).2 rfl
    simp only [Instr.findNow, Instr.sameNow, e]
  simp [Instr.lookup, run_underlying Yba.underlying48, MapKept.run_getObj_map hb, hc, MapKept.run_findKey Yba.underlying9 hf, Result.andThen]
theorem look_miss (r : Nat) (s k : ByteArray) (v : Value) (c cl : Nat) (w : World) (hb : w.heap[r]? = some (.map #[{ key := .string k, val := v, born := c }] cl)) (hne : s ≠ k) :
    (Instr.lookup 48 (.map (some r)) (.string s) false).run Yba.prog w = .ok .nilIface w := by
  have hc : (Instr.checkKey false 10000 9 (.string s)).run Yba.prog w = .ok () w := MapKept.run_checkKey (k := .string s) Yba.underlying9 (by simp [MapKept.IsKey]) false 9999
  have hf : Instr.findNow .string (.string s) [({ key := .string k, val := v, born := c } : MapEntry)] 0 = some none := by
    have e : (s == k) = false := by
      cases h : (s == k) with
      | false => rfl
      | true => exact absurd ((MapKept.bytes_beq s k).1 h) hne
    simp only [Instr.findNow, Instr.sameNow, e]
  simp [Instr.lookup, run_underlying Yba.underlying48, MapKept.run_getObj_map hb, hc, MapKept.run_findKey Yba.underlying9 hf, Result.andThen]

theorem ta_nil_map (w : World) : (Instr.typeAssert .nilIface 20 48 true).run Yba.prog w = .ok (.tuple #[.map none, .bool false]) w := by kernel_rfl
theorem ta_nil_int (w : World) : (Instr.typeAssert .nilIface 20 2 true).run Yba.prog w = .ok (.tuple #[.int .i64 0, .bool false]) w := by kernel_rfl
theorem ta_map (r : Nat) (w : World) : (Instr.typeAssert (.iface 48 (.map (some r))) 20 48 true).run Yba.prog w = .ok (.tuple #[.map (some r), .bool true]) w := by kernel_rfl
theorem ta_str (s : ByteArray) (w : World) : (Instr.typeAssert (.iface 9 (.string s)) 20 48 true).run Yba.prog w = .ok (.tuple #[.map none, .bool false]) w := by kernel_rfl
theorem ta_i64 (a : Int) (w : World) : (Instr.typeAssert (.iface 2 (.int .i64 a)) 20 2 true).run Yba.prog w = .ok (.tuple #[.int .i64 a, .bool true]) w := by kernel_rfl
theorem ta_int (a : Int) (w : World) : (Instr.typeAssert (.iface 3 (.int .i64 a)) 20 2 true).run Yba.prog w = .ok (.tuple #[.int .i64 0, .bool false]) w := by kernel_rfl

set_option maxRecDepth 20000 in
set_option maxHeartbeats 400000 in
/-- The look-ups end at no number: 0. -/
theorem peer_none (S : Nat) (nm : ByteArray) (m v1 m2 v2 : Value) (b1 b2 : Bool) (w : World) (hS : w.cell? ⟨S, 8, none⟩ = some m) (hone : m = .map none ∨ ∃ r, m = .map (some r))
    (h1 : (Instr.lookup 48 m (.string ⟨#[109]⟩) false).run Yba.prog w = .ok v1 w) (h2 : (Instr.typeAssert v1 20 48 true).run Yba.prog w = .ok (.tuple #[m2, .bool b1]) w)
    (h3 : (Instr.lookup 48 m2 (.string nm) false).run Yba.prog w = .ok v2 w) (h4 : (Instr.typeAssert v2 20 2 true).run Yba.prog w = .ok (.tuple #[.int .i64 0, .bool b2]) w) :
    Calls Yba.prog 11 #[.pointer (some ⟨S, 0, none⟩), .string nm] w fun e w' => e = .returned (.int .u8 0) ∧ w' = w := by
  rcases hone with rfl | ⟨r, rfl⟩
  all_goals
    go_enter Yba.func11, Yba.ntmps11
    go_wp2
    go_ret
    exact ⟨rfl, rfl⟩

set_option maxRecDepth 20000 in
set_option maxHeartbeats 400000 in
/-- The look-ups end at the number 'a'. -/
theorem peer_some (S r r2 : Nat) (nm : ByteArray) (v1 v2 : Value) (b1 b2 : Bool) (a : Int) (w : World) (hS : w.cell? ⟨S, 8, none⟩ = some (.map (some r)))
    (h1 : (Instr.lookup 48 (.map (some r)) (.string ⟨#[109]⟩) false).run Yba.prog w = .ok v1 w) (h2 : (Instr.typeAssert v1 20 48 true).run Yba.prog w = .ok (.tuple #[.map (some r2), .bool b1]) w)
    (h3 : (Instr.lookup 48 (.map (some r2)) (.string nm) false).run Yba.prog w = .ok v2 w) (h4 : (Instr.typeAssert v2 20 2 true).run Yba.prog w = .ok (.tuple #[.int .i64 a, .bool b2]) w)
    (ha : 1 ≤ a ∧ a ≤ 255) :
    Calls Yba.prog 11 #[.pointer (some ⟨S, 0, none⟩), .string nm] w fun e w' => e = .returned (.int .u8 a) ∧ w' = w := by
  obtain ⟨ha1, ha2⟩ := ha
  go_enter Yba.func11, Yba.ntmps11
  go_wp2
  go_ret
  exact ⟨rfl, rfl⟩

set_option maxRecDepth 20000 in
set_option maxHeartbeats 400000 in
theorem peer_out (S r r2 : Nat) (nm : ByteArray) (v1 v2 : Value) (b1 b2 : Bool) (a : Int) (w : World) (hS : w.cell? ⟨S, 8, none⟩ = some (.map (some r)))
    (h1 : (Instr.lookup 48 (.map (some r)) (.string ⟨#[109]⟩) false).run Yba.prog w = .ok v1 w) (h2 : (Instr.typeAssert v1 20 48 true).run Yba.prog w = .ok (.tuple #[.map (some r2), .bool b1]) w)
    (h3 : (Instr.lookup 48 (.map (some r2)) (.string nm) false).run Yba.prog w = .ok v2 w) (h4 : (Instr.typeAssert v2 20 2 true).run Yba.prog w = .ok (.tuple #[.int .i64 a, .bool b2]) w)
    (ha : a < 1 ∨ 255 < a) :
    Calls Yba.prog 11 #[.pointer (some ⟨S, 0, none⟩), .string nm] w fun e w' => e = .returned (.int .u8 0) ∧ w' = w := by
  rcases ha with ha | ha
  · go_enter Yba.func11, Yba.ntmps11
    go_wp2
    go_ret
    exact ⟨rfl, rfl⟩
  · have ha' : ¬ a < 1 := by omega
    go_enter Yba.func11, Yba.ntmps11
    go_wp2
    go_ret
    exact ⟨rfl, rfl⟩
end Go.Proofs.Ybulkjnq
