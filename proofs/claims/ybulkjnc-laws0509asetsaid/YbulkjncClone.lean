import Derived.Test.YbulkjncKin
import Derived.Lib.SliceRun
namespace Go.Proofs.Ybulkjnc
open Go.RowKit

theorem Yba.info5 : (Yba.prog.info? 5).map (fun i => (i.zero, i.size, i.bytes)) = some (some (.int .u8 0), 1, 1) := by kernel_rfl

theorem clone_nil (w : World) : Calls Yba.prog 5 #[.slice none 0 0] w fun e w' => e = .returned (.slice none 0 0) ∧ w = w' := by
  have he := Lib.run_eql_slice_nil (P := Yba.prog) w 23 5 none 0 0 0 0 Yba.underlying23
  simp at he
  go_enter Yba.func5, Yba.ntmps5
  go_wp2
  go_ret
  exact ⟨rfl, rfl⟩

set_option maxHeartbeats 400000 in
theorem clone_walk (ad : Addr) (len cap : Nat) (news : List Value) (w : World) (hlen : len ≤ 1024) (hl : news.length = len) (hn : ∀ j u, news[j]? = some u → w.cell? (ad.add j) = some u) (h1 : ∀ u ∈ news, u.oneCell' = true) :
    Calls Yba.prog 5 #[.slice (some ad) len cap] w fun e w' => ∃ g' cap', e = .returned (.slice (some ⟨g', 0, none⟩) len cap') ∧ w.heap.size ≤ g' ∧ w'.ownsRow w.heap.size 5 1 (.slice (some ⟨g', 0, none⟩) len cap') len news ∧ Upd w w' [] := by
  have he := Lib.run_eql_slice_nil (P := Yba.prog) w 23 5 (some ad) len cap 0 0 Yba.underlying23
  simp at he
  obtain ⟨i0, hi, hz0, hz1, hz2⟩ := info_parts Yba.info5
  go_enter Yba.func5, Yba.ntmps5
  go_wp2_with (at_builtin; refine wpList_append_own _ rfl (.tmp 5) (.tmp 6) 23 rfl w.heap.size 5 i0 (.int .u8 0) 1 1 Yba.underlying23 hi hz0 hz1 hz2 rfl (by decide) _ 0 [] rfl ?c6 ad len cap news rfl ?c0 ?c1 ?c2 ?c3 ?c4 ?c5 ?_)
  case c0 => omega
  case c1 =>
    intro j u hj
    have h := hn j u hj
    exact (World.cell?_of_block (Below.heap_alloc w _ _ (World.block_lt_of_cell? w _ h))).trans h
  case c2 => exact h1
  case c3 => unfold maxLen; omega
  case c4 => omega
  case c5 => simp
  case c6 => exact World.ownsRow_made w #[] 0 (Nat.le_refl _) (Nat.zero_le _) rfl
  intro v' w1 ho hg hnn
  obtain ⟨g', cap', rfl, hb⟩ : ∃ g' c', v' = .slice (some ⟨g', 0, none⟩) len c' ∧ w.heap.size ≤ g' := by
    obtain ⟨_, ⟨h, _⟩ | ⟨g, c, cur, h, hb, _⟩⟩ := ho
    · exact absurd h hnn
    · exact ⟨g, c, h, hb⟩
  have HO := hid ho
  have HU : Hid (Upd w w1 []) := Upd.grown ((Upd.refl w []).alloc _) hg (fun k hk => by
    simp [Value.ownBlock] at hk
    exact .inr (by omega))
  clear ho hg hnn hn h1
  go_wp2
  go_ret
  exact ⟨g', cap', rfl, hb, HO.out, HU.out⟩
end Go.Proofs.Ybulkjnc
