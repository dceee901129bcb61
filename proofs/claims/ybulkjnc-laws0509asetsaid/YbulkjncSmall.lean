import Derived.Test.YbulkjncClone
import Derived.Laws.BytesArg
import Derived.Carry
namespace Go.Proofs.Ybulkjnc
open Go.RowKit

def byteVals (zs : List Int) : List Value := zs.map (Value.int .u8)
theorem byteVals_length (zs : List Int) : (byteVals zs).length = zs.length := by simp [byteVals]
theorem byteVals_one (zs : List Int) : ∀ u ∈ byteVals zs, u.oneCell' = true := by
  intro u hu
  obtain ⟨z, _, rfl⟩ := List.mem_map.1 hu
  rfl
theorem conv_some (w : World) (a : Addr) (len cap : Nat) (zs : List Int) (hz : zs.length = len) (hc : ∀ j u, (byteVals zs)[j]? = some u → w.cell? (a.add j) = some u) :
    (convert 23 9 (.slice (some a) len cap)).run Yba.prog w = .ok (.string (strOfNums zs)) w := by
  have hl := run_loadCells_list (P := Yba.prog) w a (byteVals zs) hc
  rw [byteVals_length, hz] at hl
  rw [run_convert_bytes_string w 23 9 5 _ len cap Yba.underlying23 Yba.underlying5 Yba.underlying9, run_bytesToString w _ len cap zs hl, foldl_push_bytes]
  simp [strOfNums, ByteArray.empty, ByteArray.emptyWithCapacity]
  rfl

/-- The slice v reads as the bytes zs. -/
def Bs (w : World) (v : Value) (zs : List Int) : Prop :=
  (v = .slice none 0 0 ∧ zs = []) ∨ ∃ ad len cap, v = .slice (some ad) len cap ∧ zs.length = len ∧ ∀ j u, (byteVals zs)[j]? = some u → w.cell? (ad.add j) = some u
theorem Bs.conv {w : World} {v : Value} {zs : List Int} (h : Bs w v zs) : (convert 23 9 v).run Yba.prog w = .ok (.string (strOfNums zs)) w := by
  rcases h with ⟨rfl, rfl⟩ | ⟨ad, len, cap, rfl, hl, hc⟩
  · exact run_convert_bytes_nil w 23 5 Yba.underlying23 Yba.underlying5 0 0 9 Yba.underlying9
  · exact conv_some w ad len cap zs hl hc
theorem Bs.of_own {w : World} {B : Nat} {v : Value} {zs : List Int} (h : w.ownsRow B 5 1 v zs.length (byteVals zs)) : Bs w v zs := by
  have hh := h
  obtain ⟨_, ⟨rfl, h0⟩ | ⟨g, cap, cur, rfl, _⟩⟩ := h
  · exact .inl ⟨rfl, List.eq_nil_of_length_eq_zero h0⟩
  · exact .inr ⟨⟨g, 0, none⟩, _, cap, rfl, rfl, hh.cells rfl⟩
theorem Bs.upd {w w' : World} {v : Value} {zs : List Int} (h : Bs w v zs) (hk : ∀ k, k < w.heap.size → (∀ ad len cap, v = .slice (some ad) len cap → ad.block = k → w'.heap[k]? = w.heap[k]?)) : Bs w' v zs := by
  rcases h with ⟨rfl, rfl⟩ | ⟨ad, len, cap, rfl, hl, hc⟩
  · exact .inl ⟨rfl, rfl⟩
  · refine .inr ⟨ad, len, cap, rfl, hl, fun j u hj => ?_⟩
    have h := hc j u hj
    exact (World.cell?_of_block (hk _ (World.block_lt_of_cell? w _ h) ad len cap rfl (by unfold Addr.add; split <;> rfl))).trans h

theorem clone_is (v : Value) (zs : List Int) (w : World) (h : Bs w v zs) (hlen : zs.length ≤ 1024) :
    Calls Yba.prog 5 #[v] w fun e w' => ∃ v', e = .returned v' ∧ w'.ownsRow w.heap.size 5 1 v' zs.length (byteVals zs) ∧ Upd w w' [] := by
  rcases h with ⟨rfl, rfl⟩ | ⟨ad, len, cap, rfl, rfl, hc⟩
  · refine (clone_nil w).mono ?_
    rintro e w1 ⟨rfl, rfl⟩
    exact ⟨_, rfl, World.ownsRow_nil _ _ _ _, Upd.refl _ _⟩
  · refine (clone_walk ad _ cap (byteVals zs) w hlen (byteVals_length zs) hc (byteVals_one zs)).mono ?_
    rintro e w1 ⟨g', cap', rfl, _, ho, hU⟩
    exact ⟨_, rfl, ho, hU⟩

set_option maxHeartbeats 400000 in
theorem bequal_walk (v1 v2 : Value) (s : ByteArray) (w : World) (h1 : (convert 23 9 v1).run Yba.prog w = .ok (.string s) w) (h2 : (convert 23 9 v2).run Yba.prog w = .ok (.string s) w) :
    Calls Yba.prog 9 #[v1, v2] w fun e w' => e = .returned (.bool true) ∧ w = w' := by
  go_enter Yba.func9, Yba.ntmps9
  go_wp2
  go_ret
  exact ⟨by simp, rfl⟩

theorem key_walk (k : Nat) (hk : k < 4) (w : World) : Calls Yba.prog 6 #[.int .i64 k] w fun e w' => e = .returned (.string (kb k)) ∧ w = w' := by
  have : k = 0 ∨ k = 1 ∨ k = 2 ∨ k = 3 := by omega
  rcases this with rfl | rfl | rfl | rfl <;> (go_enter Yba.func6, Yba.ntmps6; go_wp2; go_ret; exact ⟨rfl, rfl⟩)

theorem slen_walk (S : Nat) (lv : Int) (w : World) (h : w.cell? ⟨S, 2, none⟩ = some (.int .i64 lv)) : Calls Yba.prog 11 #[.pointer (some ⟨S, 0, none⟩)] w fun e w' => e = .returned (.int .i64 lv) ∧ w = w' := by
  go_enter Yba.func11, Yba.ntmps11
  go_wp2
  go_ret
  exact ⟨rfl, rfl⟩

theorem new_walk (w : World) : Calls Yba.prog 4 #[] w fun e w' => e = .returned (.pointer (some ⟨w.heap.size + 1, 0, none⟩)) ∧ w' = (w.alloc (.map #[] 0)).alloc (.cells #[.map (some w.heap.size), .slice none 0 0, .int .i64 0] 50 (0, 0)) := by
  have hmm := @run_makeMap Yba.prog
  go_enter Yba.func4, Yba.ntmps4
  go_wp2
  go_ret
  exact ⟨rfl, rfl⟩

theorem count_walk (S eb : Nat) (del : Bool) (lv c : Int) (w : World) (h : w.cell? ⟨S, 2, none⟩ = some (.int .i64 lv)) (hf : w.frozen? ⟨S, 2, none⟩ = false) (hd : w.cell? ⟨eb, 7, none⟩ = some (.bool del)) (h1 : -100 ≤ lv ∧ lv ≤ 100) (h2 : -1 ≤ c ∧ c ≤ 1) :
    Calls Yba.prog 19 #[.pointer (some ⟨S, 0, none⟩), .pointer (some ⟨eb, 0, none⟩), .int .i64 c] w fun e w' => e = .returned (.tuple #[]) ∧ w' = if del = true then w else w.setCell ⟨S, 2, none⟩ (.int .i64 (lv + c)) := by
  cases del
  · go_enter Yba.func19, Yba.ntmps19
    go_wp2
    go_end0
    exact ⟨rfl, rfl⟩
  · go_enter Yba.func19, Yba.ntmps19
    go_wp2
    go_end0
    exact ⟨rfl, rfl⟩
end Go.Proofs.Ybulkjnc
