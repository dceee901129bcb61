import Derived.Test.YbulkjncRnd
import Derived.Deep.CutRange
namespace Go.Proofs.Ybulkjnc
open Go.RowKit

/-- Step i of the script at hand. -/
structure StepAt (W : World) (a : Option Addr) (i : Nat) (K : Int) (v : Value) (zs : List Int) (T : Int) (del : Bool) : Prop where
  at' : ∃ b off, a = some ⟨b, off, none⟩ ∧ W.cell? ⟨b, off + i * 4, none⟩ = some (.int .u8 K) ∧ W.cell? ⟨b, off + i * 4 + 1, none⟩ = some v ∧ W.cell? ⟨b, off + i * 4 + 2, none⟩ = some (.int .i64 T) ∧ W.cell? ⟨b, off + i * 4 + 3, none⟩ = some (.bool del)
  k0 : 0 ≤ K
  k1 : K ≤ 255
  bytes : Bs W v zs
  zs0 : ∀ z ∈ zs, 0 ≤ z ∧ z ≤ 255
  small : zs.length ≤ 9223372036854775807
  t0 : -9223372036854775808 ≤ T
  t1 : T ≤ 9223372036854775807

set_option maxRecDepth 20000 in
set_option maxHeartbeats 1000000 in
theorem law_walk (W : World) (a : Option Addr) (len cap : Nat) (cut : Int) (Ks Ts : Nat → Int) (vs : Nat → Value) (zss : Nat → List Int) (ds : Nat → Bool) (hlen : len ≤ 1024) (hc0 : -9223372036854775808 ≤ cut) (hc1 : cut ≤ 9223372036854775807)
    (hst : ∀ i, i < len → StepAt W a i (Ks i) (vs i) (zss i) (Ts i) (ds i)) :
    Calls Yba.prog 3 #[.slice a len cap, .int .i64 cut] W fun e w' => e = .returned (.bool true) ∧ Below W.heap.size W w' := by
  have hlen' : ¬ (1024 : Int) < (len : Int) := by omega
  go_enter Yba.func3, Yba.ntmps3
  go_wp2
  go_loopw [31] (fun i wr => ∃ k : Nat, k ≤ len ∧ i = .int .i64 k ∧ wr = W ∧ ∀ j, j < k → (zss j).length ≤ 1024) (fun i _ => len - (intOf i).toNat)
  case atStart => exact ⟨0, Nat.zero_le _, rfl, rfl, fun j hj => absurd hj (Nat.not_lt_zero _)⟩
  case round =>
    obtain ⟨k, hk, rfl, rfl, hz⟩ := hrel
    by_cases hlt : k < len
    · obtain ⟨⟨b, off, rfl, c0, c1, c2, c3⟩, k0, k1, hb, _, hsm, _, _⟩ := hst k hlt
      have hlt' : (k : Int) < (len : Int) := by omega
      obtain ⟨a1, n1, cp, hv1, hn1⟩ : ∃ a1 n1 cp, vs k = .slice a1 n1 cp ∧ n1 = (zss k).length := by
        rcases hb with ⟨h, h2⟩ | ⟨ad, l, cp, h, h2, _⟩
        · exact ⟨none, 0, 0, h, by rw [h2]; rfl⟩
        · exact ⟨some ad, l, cp, h, h2.symm⟩
      rw [hv1] at c1
      have HZ := hid hz
      have HST := hid hst
      have HN := hid hn1
      have HV := hid hv1
      clear hz hst hn1 hv1 hb
      by_cases hbig : 1024 < n1
      · have hbig' : (1024 : Int) < (n1 : Int) := by omega
        have hsm' : (n1 : Int) ≤ 9223372036854775807 := by have := HN.out; omega
        go_wp2
        go_ret
        exact ⟨rfl, Below.refl _ _⟩
      · have hbig' : ¬ (1024 : Int) < (n1 : Int) := by omega
        go_wp2
        go_roundw
        case rel => exact ⟨k + 1, by omega, by go_num, trivial, fun j hj => by
          by_cases e : j = k
          · subst e; rw [← HN.out]; omega
          · exact HZ.out j (by omega)⟩
        case measure => simp [intOf]; omega
    · have hkl : k = len := by omega
      subst hkl
      have HZ := hid hz
      have HST := hid hst
      clear hz hst
      go_wp2_with fail
      refine (new_walk _).mono ?_
      rintro e w1 ⟨rfl, hw1⟩
      obtain ⟨s1, r1, b1⟩ := law_start wr w1 hw1
      clear hw1
      have hsz : (((((wr.alloc (.cells #[.bool false, .bool false, .bool false, .bool false] 26 (0, 0))).alloc (.cells #[.bool false, .bool false, .bool false, .bool false] 26 (0, 0))).alloc
        (.cells #[.int .u64 0, .int .i64 0, .pointer none, .int .u64 0, .int .i64 0, .pointer none, .int .u64 0, .int .i64 0, .pointer none, .int .u64 0, .int .i64 0, .pointer none] 31 (0, 0))).alloc (.cells #[.int .u64 0, .int .i64 0, .pointer none] 30 (0, 0))).heap.size) = wr.heap.size + 4 := by simp
      rw [hsz]
      clear hsz
      generalize wr.heap.size + 4 + 1 = S at *
      generalize wr.heap.size + 4 = M at *
      obtain ⟨W, rfl⟩ : ∃ W, W = wr := ⟨_, rfl⟩
      have S1 := hid s1
      have R1 := hid r1
      have B1 := hid b1
      clear s1 r1 b1
      go_wp2_with fail
      go_loopw [46] (fun i wr => ∃ (j n : Nat) (x : Nat → Ent) (sl : Value) (hv : Nat → Bool) (E : Nat → Ent), j ≤ k ∧ i = .int .i64 j ∧ Sto W.heap.size wr S M n x sl hv E ∧ Arr wr W.heap.size hv E ∧ Below W.heap.size W wr) (fun i _ => k - (intOf i).toNat)
      case atStart => exact ⟨0, 0, _, _, _, _, Nat.zero_le _, rfl, S1.out, R1.out, B1.out⟩
      case round =>
        obtain ⟨j, n, x, sl, hv, E, hj, rfl, s, r, bl⟩ := hrel
        by_cases hjl : j < k
        · obtain ⟨⟨b, off, rfl, c0, c1, c2, c3⟩, k0, k1, hb, hz0, hsm, ht0, ht1⟩ := HST.out j hjl
          have hzl := HZ.out j hjl
          have lt : ∀ {p : Addr} {v : Value}, W.cell? p = some v → wr.cell? p = some v := fun h => (bl.cell (World.block_lt_of_cell? W _ h)).trans h
          have c0 := lt c0
          have c1 := lt c1
          have c2 := lt c2
          have c3 := lt c3
          have hji : (j : Int) < (k : Int) := by omega
          generalize Ks j = K at *
          generalize Ts j = T at *
          generalize vs j = v at *
          generalize zss j = zs at *
          generalize ds j = del at *
          obtain ⟨kk, hkk, hk4⟩ : ∃ kk : Nat, K.tmod 4 = (kk : Int) ∧ kk < 4 := ⟨(K % 4).toNat, by rw [Int.tmod_eq_emod_of_nonneg k0]; omega, by omega⟩
          obtain ⟨a1, n1, cp, rfl⟩ : ∃ a1 n1 cp, v = .slice a1 n1 cp := by
            rcases hb with ⟨h, _⟩ | ⟨ad, l, cp, h, _, _⟩
            · exact ⟨none, 0, 0, h⟩
            · exact ⟨some ad, l, cp, h⟩
          have HS := hid s
          have HR := hid r
          have HB := hid bl
          have HBS := hid hb
          have HZ0 := hid hz0
          have HZL := hid hzl
          clear s r bl hb lt hz0 hzl
          go_upto_if 59 with fail
          have hU5 : Upd wr (wr.alloc (.cells #[.int .u8 K, .slice a1 n1 cp, .int .i64 T, .bool del] 25 (0, 0))) [] := (Upd.refl wr []).alloc _
          have h12 : (wr.alloc (.cells #[.int .u8 K, .slice a1 n1 cp, .int .i64 T, .bool del] 25 (0, 0))).heap[wr.heap.size]? = some (.cells #[.int .u8 K, .slice a1 n1 cp, .int .i64 T, .bool del] 25 (0, 0)) := heap_alloc_new wr _
          generalize wr.alloc (.cells #[.int .u8 K, .slice a1 n1 cp, .int .i64 T, .bool del] 25 (0, 0)) = w5 at *
          have S5 : Hid (Sto W.heap.size w5 S M n x sl hv E) := HS.out.upd hU5 (by simp)
          have R5 : Hid (Arr w5 W.heap.size hv E) := HR.out.upd hU5
          have B5 : Hid (Below W.heap.size W w5) := HB.out.trans (hU5.below HB.out.size (by simp))
          have H12 := hid h12
          generalize wr.heap.size = sb at *
          clear c0 c1 c2 c3 HS HR HB hU5
          obtain ⟨zs', hzs'⟩ : ∃ zs' : List Int, zs' = if del = true then [] else zs := ⟨_, rfl⟩
          have HZS := hid hzs'
          clear hzs' h12
          go_cut [14, 46] from 46 to 171 (fun v i wc => ∃ a0 c0', v = .slice a0 zs'.length c0' ∧ i = .int .i64 j ∧ Hid (wc.ownsRow w5.heap.size 5 1 v zs'.length (byteVals zs')) ∧ Hid (Upd w5 wc []))
          case first =>
            cases del with
            | true =>
              go_wp2
              go_meet
              have h : zs' = [] := by rw [HZS.out]; rfl
              subst h
              exact ⟨none, 0, rfl, rfl, World.ownsRow_nil _ _ _ _, Upd.refl _ _⟩
            | false =>
              have h : zs' = zs := by rw [HZS.out]; rfl
              have y1 : w5.cell? ⟨sb, 1, none⟩ = some (.slice a1 n1 cp) := cell_of H12.out rfl
              go_wp2_with fail
              refine (clone_is _ zs _ (HBS.out.upd fun i hi _ _ _ _ _ => B5.out.block i hi) HZL.out).mono ?_
              rintro e w6 ⟨v', rfl, ho, hU⟩
              obtain ⟨a', c', rfl⟩ := own_slice ho
              subst h
              have HO := hid ho
              have HU := hid hU
              clear ho hU
              go_wp2
              go_meet
              exact ⟨a', c', rfl, rfl, HO.out, HU.out⟩
          case rest =>
            obtain ⟨a0, cp0, rfl, rfl, HO, HU⟩ := hcut
            have S6 : Hid (Sto W.heap.size wc S M n x sl hv E) := S5.out.upd HU.out (by simp)
            have R6 : Hid (Arr wc W.heap.size hv E) := R5.out.upd HU.out
            have B6 : Hid (Below W.heap.size W wc) := B5.out.trans (HU.out.below B5.out.size (by simp))
            have H126 : Hid (wc.heap[sb]? = some (.cells #[.int .u8 K, .slice a1 n1 cp, .int .i64 T, .bool del] 25 (0, 0))) := HU.out.heap H12.out (by simp)
            have gez : Hid (W.heap.size ≤ w5.heap.size) := B5.out.size
            generalize w5.heap.size = vb at *
            clear S5 R5 B5 H12 HU
            obtain ⟨w6, rfl⟩ : ∃ w6, w6 = wc := ⟨_, rfl⟩
            have y3 : w6.cell? ⟨sb, 3, none⟩ = some (.bool del) := cell_of H126.out rfl
            go_upto_if 65 with fail
            go_cut [15, 46] from 46 to 171 (fun v i wc => ∃ a2 n2 c2, v = .slice a2 n2 c2 ∧ i = .int .i64 j ∧ Hid (Bs W v zs') ∧ wc = w6)
            case first =>
              cases del with
              | true =>
                go_wp2
                go_meet
                have h : zs' = [] := by rw [HZS.out]; rfl
                subst h
                exact ⟨none, 0, 0, rfl, rfl, .inl ⟨rfl, rfl⟩, rfl⟩
              | false =>
                have h : zs' = zs := by rw [HZS.out]; rfl
                have y1 : w6.cell? ⟨sb, 1, none⟩ = some (.slice a1 n1 cp) := cell_of H126.out rfl
                go_wp2
                go_meet
                exact ⟨a1, n1, cp, rfl, rfl, by rw [h]; exact HBS.out, rfl⟩
            case rest =>
              obtain ⟨a2, n2, c2, rfl, rfl, HW, rfl⟩ := hcut
              have hH : Held (W.heap.size + 1 + 1 + 1) sb T del wc := ⟨range_of R6.out.h9, cell_of H126.out rfl, cell_of H126.out rfl⟩
              have hL : W.heap.size + 1 + 1 + 1 < wc.heap.size ∧ sb < wc.heap.size := ⟨lt_of_heap R6.out.h9, lt_of_heap H126.out⟩
              go_upto_region 25 with fail
              obtain ⟨w7, rfl⟩ : ∃ w7, w7 = wc := ⟨_, rfl⟩
              go_cut [16, 46] from 46 to 171 (fun p i wc => ∃ b16 : Nat, p = .pointer (some ⟨b16, 0, none⟩) ∧ i = .int .i64 j ∧ Hid (w7.heap.size ≤ b16 ∧ wc.heap[b16]? = some (.cells (itemOf kk (.slice a0 zs'.length cp0) T del) 41 (0, 0)) ∧ Upd w7 wc []))
              case first =>
                refine wp_mono (region25Y w7 (W.heap.size + 1 + 1 + 1) sb kk _ _ _ T del hk4 ht0 ht1 hH hL) ?_
                rintro e a' w' ⟨rfl, b16, rfl, h⟩
                have HH := hid h
                clear h
                dsimp only
                go_wp2
                go_meet
                exact ⟨b16, rfl, rfl, HH.out⟩
              case rest =>
                obtain ⟨b16, rfl, rfl, HC⟩ := hcut
                have S8 : Hid (Sto W.heap.size wc S M n x sl hv E) := S6.out.upd HC.out.2.2 (by simp)
                have R8 : Hid (Arr wc W.heap.size hv E) := R6.out.upd HC.out.2.2
                have B8 : Hid (Below W.heap.size W wc) := B6.out.trans (HC.out.2.2.below B6.out.size (by simp))
                have H128 : Hid (wc.heap[sb]? = some (.cells #[.int .u8 K, .slice a1 n1 cp, .int .i64 T, .bool del] 25 (0, 0))) := HC.out.2.2.heap H126.out (by simp)
                have H168 : Hid (wc.heap[b16]? = some (.cells (itemOf kk (.slice a0 zs'.length cp0) T del) 41 (0, 0))) := HC.out.2.1
                have O8 : Hid (wc.ownsRow vb 5 1 (.slice a0 zs'.length cp0) zs'.length (byteVals zs')) := own_keep HO.out fun i cs hi => HC.out.2.2.heap hi (by simp)
                obtain ⟨w8, rfl⟩ : ∃ w8, w8 = wc := ⟨_, rfl⟩
                have q0 : w8.cell? ⟨b16, 0, none⟩ = some (.string (kb kk)) := cell_of H168.out rfl
                have q1 : w8.cell? ⟨b16, 1, none⟩ = some (.slice a0 zs'.length cp0) := cell_of H168.out rfl
                have q2 : w8.cell? ⟨b16, 2, none⟩ = some (.int .u64 (nsOf T)) := cell_of H168.out rfl
                have q3 : w8.cell? ⟨b16, 3, none⟩ = some (.int .i64 (scOf T)) := cell_of H168.out rfl
                have q4 : w8.cell? ⟨b16, 4, none⟩ = some (.pointer none) := cell_of H168.out rfl
                have q5 : w8.cell? ⟨b16, 5, none⟩ = some (.int .i64 0) := cell_of H168.out rfl
                have q6 : w8.cell? ⟨b16, 6, none⟩ = some (.string ⟨#[]⟩) := cell_of H168.out rfl
                have q7 : w8.cell? ⟨b16, 7, none⟩ = some (.bool del) := cell_of H168.out rfl
                have zl : Hid (zs'.length ≤ 1024) := by rw [HZS.out]; cases del with | true => exact Nat.zero_le _ | false => exact HZL.out
                clear S6 R6 B6 H126 HC HO hH hL y3
                go_wp2_with fail
                refine (set_any w8 S8.out kk hk4 _ zs' (Bs.of_own O8.out) zl.out T del).mono ?_
                rintro e w9 ⟨v9, n9, x9, sl9, e9, rfl, s9, hd9, hl9, hK9, ho9⟩
                obtain ⟨a9, c9, rfl⟩ := own_slice ho9
                have S9 := hid s9
                have D9 := hid hd9
                have L9 := hid hl9
                have O9 := hid ho9
                have R9 : Hid (Arr w9 W.heap.size hv E) := R8.out.kin S8.out hK9
                have B9 : Hid (Below W.heap.size W w9) := B8.out.trans (hK9.below B8.out.size)
                have H129 : Hid (w9.heap[sb]? = some (.cells #[.int .u8 K, .slice a1 n1 cp, .int .i64 T, .bool del] 25 (0, 0))) := hK9.cells H128.out (S8.out.ne_M H128.out) (by decide) (by decide) (by decide)
                have H169 : Hid (w9.heap[b16]? = some (.cells (itemOf kk (.slice a0 zs'.length cp0) T del) 41 (0, 0))) := hK9.cells H168.out (S8.out.ne_M H168.out) (by decide) (by decide) (by decide)
                have V9 : Hid (w9.ownsRow vb 5 1 (.slice a0 zs'.length cp0) zs'.length (byteVals zs')) := own_keep O8.out fun i cs hi => hK9.cells hi (S8.out.ne_M hi) (by decide) (by decide) (by decide)
                clear s9 hd9 hl9 ho9 hK9 q0 q1 q2 q3 q4 q5 q6 q7 S8 R8 B8 H128 H168
                unfold itemOf
                go_upto_region 27 with fail
                have hU10 : Upd w9 (w9.alloc (.cells #[.string (kb kk), .slice a9 zs'.length c9, .int .u64 (nsOf T), .int .i64 (scOf T), .pointer none, .int .i64 0, .string ⟨#[]⟩, .bool del] 41 (0, 0))) [] := (Upd.refl w9 []).alloc _
                have h17 : (w9.alloc (.cells #[.string (kb kk), .slice a9 zs'.length c9, .int .u64 (nsOf T), .int .i64 (scOf T), .pointer none, .int .i64 0, .string ⟨#[]⟩, .bool del] 41 (0, 0))).heap[w9.heap.size]? = some (.cells #[.string (kb kk), .slice a9 zs'.length c9, .int .u64 (nsOf T), .int .i64 (scOf T), .pointer none, .int .i64 0, .string ⟨#[]⟩, .bool del] 41 (0, 0)) := heap_alloc_new w9 _
                generalize w9.alloc (.cells #[.string (kb kk), .slice a9 zs'.length c9, .int .u64 (nsOf T), .int .i64 (scOf T), .pointer none, .int .i64 0, .string ⟨#[]⟩, .bool del] 41 (0, 0)) = w10 at *
                have S10 : Hid (Sto W.heap.size w10 S M n9 x9 sl9 (setk hv kk true) (setk E kk e9)) := S9.out.upd hU10 (by simp)
                have R10 : Hid (Arr w10 W.heap.size hv E) := R9.out.upd hU10
                have B10 : Hid (Below W.heap.size W w10) := B9.out.trans (hU10.below B9.out.size (by simp))
                have H1210 : Hid (w10.heap[sb]? = some (.cells #[.int .u8 K, .slice a1 n1 cp, .int .i64 T, .bool del] 25 (0, 0))) := hU10.heap H129.out (by simp)
                have H1610 : Hid (w10.heap[b16]? = some (.cells (itemOf kk (.slice a0 zs'.length cp0) T del) 41 (0, 0))) := hU10.heap H169.out (by simp)
                have V10 : Hid (w10.ownsRow vb 5 1 (.slice a0 zs'.length cp0) zs'.length (byteVals zs')) := own_keep V9.out fun i cs hi => hU10.heap hi (by simp)
                have O10 : Hid (w10.ownsRow w8.heap.size 5 1 (.slice a9 zs'.length c9) zs'.length (byteVals zs')) := own_keep O9.out fun i cs hi => hU10.heap hi (by simp)
                have H17 := hid h17
                generalize w9.heap.size = b17 at *
                clear hU10 h17 S9 R9 B9 H129 H169 V9 O9
                have y3 : w10.cell? ⟨sb, 3, none⟩ = some (.bool del) := cell_of H1210.out rfl
                have q0 : w10.cell? ⟨b16, 0, none⟩ = some (.string (kb kk)) := cell_of H1610.out rfl
                have q2 : w10.cell? ⟨b16, 2, none⟩ = some (.int .u64 (nsOf T)) := cell_of H1610.out rfl
                have q3 : w10.cell? ⟨b16, 3, none⟩ = some (.int .i64 (scOf T)) := cell_of H1610.out rfl
                have q4 : w10.cell? ⟨b16, 4, none⟩ = some (.pointer none) := cell_of H1610.out rfl
                have p0 : w10.cell? ⟨b17, 0, none⟩ = some (.string (kb kk)) := cell_of H17.out rfl
                have p1 : w10.cell? ⟨b17, 1, none⟩ = some (.slice a9 zs'.length c9) := cell_of H17.out rfl
                have p2 : w10.cell? ⟨b17, 2, none⟩ = some (.int .u64 (nsOf T)) := cell_of H17.out rfl
                have p3 : w10.cell? ⟨b17, 3, none⟩ = some (.int .i64 (scOf T)) := cell_of H17.out rfl
                have p4 : w10.cell? ⟨b17, 4, none⟩ = some (.pointer none) := cell_of H17.out rfl
                have p7 : w10.cell? ⟨b17, 7, none⟩ = some (.bool del) := cell_of H17.out rfl
                go_wp2_with fail
                refine (bequal_walk _ _ (strOfNums zs') _ (Bs.of_own O10.out).conv (HW.out.upd fun i hi _ _ _ _ _ => B10.out.block i hi).conv).mono ?_
                rintro e w11 ⟨rfl, rfl⟩
                go_wp2_with fail
                refine (equal_tv T _).mono ?_
                rintro e w11 ⟨rfl, hU11⟩
                have y3 : w11.cell? ⟨sb, 3, none⟩ = some (.bool del) := upd_cell hU11 y3
                have p7 : w11.cell? ⟨b17, 7, none⟩ = some (.bool del) := upd_cell hU11 p7
                have S11 : Hid (Sto W.heap.size w11 S M n9 x9 sl9 (setk hv kk true) (setk E kk e9)) := S10.out.upd hU11 (by simp)
                have R11 : Hid (Arr w11 W.heap.size hv E) := R10.out.upd hU11
                have B11 : Hid (Below W.heap.size W w11) := B10.out.trans (hU11.below B10.out.size (by simp))
                have H1211 : Hid (w11.heap[sb]? = some (.cells #[.int .u8 K, .slice a1 n1 cp, .int .i64 T, .bool del] 25 (0, 0))) := hU11.heap H1210.out (by simp)
                have H1611 : Hid (w11.heap[b16]? = some (.cells (itemOf kk (.slice a0 zs'.length cp0) T del) 41 (0, 0))) := hU11.heap H1610.out (by simp)
                have H1711 : Hid (w11.heap[b17]? = some (.cells #[.string (kb kk), .slice a9 zs'.length c9, .int .u64 (nsOf T), .int .i64 (scOf T), .pointer none, .int .i64 0, .string ⟨#[]⟩, .bool del] 41 (0, 0))) := hU11.heap H17.out (by simp)
                have V11 : Hid (w11.ownsRow vb 5 1 (.slice a0 zs'.length cp0) zs'.length (byteVals zs')) := own_keep V10.out fun i cs hi => hU11.heap hi (by simp)
                have O11 : Hid (w11.ownsRow w8.heap.size 5 1 (.slice a9 zs'.length c9) zs'.length (byteVals zs')) := own_keep O10.out fun i cs hi => hU11.heap hi (by simp)
                clear hU11 S10 R10 B10 H1210 H1610 H17 V10 O10 q0 q2 q3 q4 p0 p1 p2 p3 p4
                go_upto_if 110 with fail
                go_cut [46] from 46 to 171 (fun i wc => i = .int .i64 j ∧ Hid (Upd5 W.heap.size w11 wc))
                case first =>
                  by_cases hp : 0 < zs'.length
                  · obtain ⟨z, hz⟩ : ∃ z, zs'[0]? = some z := ⟨zs'[0], by simp [hp]⟩
                    have hzm : 0 ≤ z ∧ z ≤ 255 := by
                      have h1 : z ∈ zs' := List.mem_of_getElem? hz
                      rw [HZS.out] at h1
                      cases del with
                      | true => simp at h1
                      | false => exact HZ0.out z h1
                    obtain ⟨hz0, hz1⟩ := hzm
                    have hbz : (byteVals zs')[0]? = some (.int .u8 z) := by simp [byteVals, hz]
                    obtain ⟨_, ⟨_, h0⟩ | ⟨g, cap2, cur, hsl, hge, hg, _⟩⟩ := V11.out
                    · omega
                    simp only [Value.slice.injEq] at hsl
                    obtain ⟨rfl, _, rfl⟩ := hsl
                    obtain ⟨_, ⟨_, h0⟩ | ⟨g9, cap9, cur9, hsl, hge9, hg9, _⟩⟩ := O11.out
                    · omega
                    simp only [Value.slice.injEq] at hsl
                    obtain ⟨rfl, _, rfl⟩ := hsl
                    have hlg : g < w8.heap.size := by
                      obtain ⟨_, ⟨_, h0⟩ | ⟨g8, cap8, cur8, hsl, hge8, hg8, _⟩⟩ := O8.out
                      · omega
                      simp only [Value.slice.injEq, Option.some.injEq, Addr.mk.injEq] at hsl
                      rw [hsl.1.1]
                      exact lt_of_heap hg8
                    have hne : ¬ g = g9 := by omega
                    have hne' : ¬ g9 = g := by omega
                    have v0 : w11.cell? ⟨g, 0, none⟩ = some (.int .u8 z) := V11.out.cells rfl 0 _ hbz
                    have f0 : w11.frozen? ⟨g, 0, none⟩ = false := free_of hg 0
                    have v9 : w11.cell? ⟨g9, 0, none⟩ = some (.int .u8 z) := O11.out.cells rfl 0 _ hbz
                    have p1 : w11.cell? ⟨b17, 1, none⟩ = some (.slice (some ⟨g9, 0, none⟩) zs'.length c9) := cell_of H1711.out rfl
                    have hb : ¬ b17 = g := by
                      rintro rfl
                      have h := H1711.out
                      rw [hg] at h
                      simp at h
                    have hb' : ¬ g = b17 := fun h => hb h.symm
                    have hpi : (0 : Int) < (zs'.length : Int) := by omega
                    have HG := hid hg
                    have HGE := hid hge
                    clear hz hbz hg9 hge9 hlg hg hge
                    go_wp2_with fail
                    have hy := flip_ne z hz0 hz1
                    have hU12 : Upd w11 (w11.setCell ⟨g, 0, none⟩ (.int .u8 (bits .xor .u8 z 255))) [g] := (Upd.refl w11 [g]).setCell _ _ (.inl (by simp))
                    have v02 : (w11.setCell ⟨g, 0, none⟩ (.int .u8 (bits .xor .u8 z 255))).cell? ⟨g, 0, none⟩ = some (.int .u8 (bits .xor .u8 z 255)) := set_cell_eq HG.out v0
                    have v92 : (w11.setCell ⟨g, 0, none⟩ (.int .u8 (bits .xor .u8 z 255))).cell? ⟨g9, 0, none⟩ = some (.int .u8 z) := set_cell_ne v9 hne'
                    have p12 : (w11.setCell ⟨g, 0, none⟩ (.int .u8 (bits .xor .u8 z 255))).cell? ⟨b17, 1, none⟩ = some (.slice (some ⟨g9, 0, none⟩) zs'.length c9) := set_cell_ne p1 hb
                    generalize w11.setCell ⟨g, 0, none⟩ (.int .u8 (bits .xor .u8 z 255)) = w12 at *
                    generalize bits .xor .u8 z 255 = y at *
                    have HU12 := hid hU12
                    clear v0 f0 v9 p1 hU12 y3 p7 hz0 hz1
                    go_quiet (fail)
                    go_wp2
                    go_meet
                    exact ⟨rfl, [g], HU12.out.drewN nq, fun i hi => by
                      simp only [List.mem_singleton] at hi
                      subst hi
                      exact ⟨Nat.le_trans gez.out HGE.out, _, HG.out⟩⟩
                  · go_wp2
                    go_meet
                    exact ⟨rfl, [], Upd.refl _ _, by simp⟩
                case rest =>
                  obtain ⟨rfl, H5⟩ := hcut
                  have S12 : Hid (Sto W.heap.size wc S M n9 x9 sl9 (setk hv kk true) (setk E kk e9)) := H5.out.sto S11.out
                  have r12 : Arr wc W.heap.size hv E := H5.out.arr R11.out
                  have B12 : Hid (Below W.heap.size W wc) := B11.out.trans (H5.out.below B11.out.size)
                  have h12 := H5.out.cells H1211.out (by decide)
                  have h16 := H5.out.cells H1611.out (by decide)
                  obtain ⟨w12, rfl⟩ : ∃ w12, w12 = wc := ⟨_, rfl⟩
                  have y3 : w12.cell? ⟨sb, 3, none⟩ = some (.bool del) := cell_of h12 rfl
                  have q2 : w12.cell? ⟨b16, 2, none⟩ = some (.int .u64 (nsOf T)) := cell_of h16 rfl
                  have q3 : w12.cell? ⟨b16, 3, none⟩ = some (.int .i64 (scOf T)) := cell_of h16 rfl
                  have q4 : w12.cell? ⟨b16, 4, none⟩ = some (.pointer none) := cell_of h16 rfl
                  have k6 := r12.c6 hk4
                  have k7 := r12.c7 hk4
                  have k80 := r12.c80 hk4
                  have k81 := r12.c81 hk4
                  have k82 := r12.c82 hk4
                  have f6 := free_of r12.h6 kk
                  have f7 := free_of r12.h7 kk
                  have f80 := free_of r12.h8 (kk * 3)
                  have f81 := free_of r12.h8 (kk * 3 + 1)
                  have f82 := free_of r12.h8 (kk * 3 + 2)
                  have R12 := hid r12
                  have m1 : ¬ W.heap.size = sb := by
                    intro h
                    rw [← h, r12.h6] at h12
                    simp at h12
                  have m2 : ¬ W.heap.size + 1 = sb := by
                    intro h
                    rw [← h, r12.h7] at h12
                    simp at h12
                  have m3 : ¬ W.heap.size = b16 := by
                    intro h
                    rw [← h, r12.h6] at h16
                    simp at h16
                  have m4 : ¬ W.heap.size + 1 = b16 := by
                    intro h
                    rw [← h, r12.h7] at h16
                    simp at h16
                  have hkI : (kk : Int) < 4 := by omega
                  have hk0 : (0 : Int) ≤ (kk : Int) := by omega
                  clear r12 h12 h16 S11 R11 B11 H1211 H1611 H1711 V11 O11 p7 H5
                  go_wp2_with fail
                  generalize hw13 : ((((w12.setCell ⟨W.heap.size, kk, none⟩ (.bool true)).setCell ⟨W.heap.size + 1, kk, none⟩ (.bool del)).setCell ⟨W.heap.size + 1 + 1, kk * 3, none⟩ (.int .u64 (nsOf T))).setCell ⟨W.heap.size + 1 + 1, kk * 3 + 1, none⟩ (.int .i64 (scOf T))).setCell ⟨W.heap.size + 1 + 1, kk * 3 + 2, none⟩ (.pointer none) = w13
                  have hU13 : Upd w12 w13 [W.heap.size, W.heap.size + 1, W.heap.size + 1 + 1] := by
                    rw [← hw13]
                    exact (((((Upd.refl w12 _).setCell _ _ (.inl (by simp))).setCell _ _ (.inl (by simp))).setCell _ _ (.inl (by simp))).setCell _ _ (.inl (by simp))).setCell _ _ (.inl (by simp))
                  have r13 : Arr w13 W.heap.size (setk hv kk true) (setk E kk e9) := R12.out.put hk4 e9 (by rw [L9.out, D9.out]; exact hw13.symm)
                  have S13 : Hid (Sto W.heap.size w13 S M n9 x9 sl9 (setk hv kk true) (setk E kk e9)) := S12.out.upd hU13 (fun y hy => by
                    simp only [List.mem_cons, List.not_mem_nil, or_false] at hy
                    rcases hy with rfl | rfl | rfl
                    · exact ⟨_, _, _, R12.out.h6, by decide, by decide, by decide⟩
                    · exact ⟨_, _, _, R12.out.h7, by decide, by decide, by decide⟩
                    · exact ⟨_, _, _, R12.out.h8, by decide, by decide, by decide⟩)
                  have B13 : Hid (Below W.heap.size W w13) := B12.out.trans (hU13.below B12.out.size (fun y hy => by
                    simp only [List.mem_cons, List.not_mem_nil, or_false] at hy
                    omega))
                  have R13 := hid r13
                  clear hw13 hU13 r13 S12 R12 B12 y3 q2 q3 q4 k6 k7 k80 k81 k82 f6 f7 f80 f81 f82 m1 m2 m3 m4 hkI hk0 D9 L9
                  generalize setk hv kk true = hv2 at *
                  generalize setk E kk e9 = E2 at *
                  go_loopw [18, 19, 20] (fun nn ll jj wr5 => ∃ j5 : Nat, j5 ≤ 4 ∧ jj = .int .i64 j5 ∧ nn = .int .i64 (pcnt hv2 j5) ∧ ll = .int .i64 (plv hv2 E2 j5) ∧ wr5 = w13) (fun _ _ jj _ => 4 - (intOf jj).toNat)
                  case atStart => exact ⟨0, by omega, rfl, rfl, rfl, rfl⟩
                  case round =>
                    obtain ⟨j5, hj5, rfl, rfl, rfl, rfl⟩ := hrel
                    by_cases hj4 : j5 < 4
                    · have hj4' : (j5 : Int) < 4 := by omega
                      have c6 := R13.out.c6 hj4
                      have c7 := R13.out.c7 hj4
                      have hp1 := pcnt_le hv2 j5
                      have hp2 := plv_le hv2 E2 j5
                      cases hh : hv2 j5 with
                      | false =>
                        rw [hh] at c6
                        have P1 := hid (pcnt_no hv2 j5 hh)
                        have P2 := hid (plv_no hv2 E2 j5 hh)
                        clear hh
                        go_wp2
                        go_roundw
                        case rel => exact ⟨j5 + 1, by omega, by go_num, by rw [P1.out], by rw [P2.out], trivial⟩
                        case measure => simp [intOf]; omega
                      | true =>
                        rw [hh] at c6
                        have P1 := hid (pcnt_yes hv2 j5 hh)
                        cases hdl : (E2 j5).del with
                        | false =>
                          rw [hdl] at c7
                          have P2 := hid (plv_yes hv2 E2 j5 hh hdl)
                          clear hdl hh
                          go_wp2
                          go_roundw
                          case rel => exact ⟨j5 + 1, by omega, by go_num, by rw [P1.out]; go_num, by rw [P2.out]; go_num, trivial⟩
                          case measure => simp [intOf]; omega
                        | true =>
                          rw [hdl] at c7
                          have P2 := hid (plv_mark hv2 E2 j5 hdl)
                          clear hdl hh
                          go_wp2
                          go_roundw
                          case rel => exact ⟨j5 + 1, by omega, by go_num, by rw [P1.out]; go_num, by rw [P2.out], trivial⟩
                          case measure => simp [intOf]; omega
                    · have hj5e : j5 = 4 := by omega
                      subst hj5e
                      have e1 : lvc hv2 E2 = (plv hv2 E2 4 : Int) := (plv_four hv2 E2).symm
                      have e2 : cnt hv2 = pcnt hv2 4 := (pcnt_four hv2).symm
                      have e3 : n9 = pcnt hv2 4 := by rw [← e2]; exact S13.out.num
                      obtain ⟨a4, c4, rfl⟩ := own_slice S13.out.q.own
                      have hml := S13.out.m.len 3
                      have hst := S13.out.q.st
                      rw [e2] at hml
                      rw [e1, e3] at hst
                      have cM := cell_of (j := 0) hst rfl
                      have cQ := cell_of (j := 1) hst rfl
                      have hL := slen_walk S _ _ (cell_of hst rfl)
                      have hp1 := pcnt_le hv2 4
                      have hp2 := plv_le hv2 E2 4
                      generalize pcnt hv2 4 = P at *
                      generalize plv hv2 E2 4 = L at *
                      clear e1 e2 e3 hst
                      go_wp2_with fail
                      refine hL.mono ?_
                      rintro e w6 ⟨rfl, rfl⟩
                      clear hL
                      go_wp2
                      go_roundw
                      case rel => exact ⟨j + 1, _, _, _, _, _, by omega, by go_num, S13.out, R13.out, B13.out⟩
                      case measure => simp [intOf]; omega
        · have hjk : ¬ (j : Int) < (k : Int) := by omega
          have HS := hid s
          have HR := hid r
          have HB := hid bl
          clear s r bl
          obtain ⟨a', c', rfl⟩ := own_slice HS.out.q.own
          have cS : wr.cell? ⟨S, 1, none⟩ = some (.slice a' n c') := cell_of HS.out.q.st rfl
          have hn4 : n ≤ 4 := by have := HS.out.num; have := cnt_le hv; omega
          go_wp2_with fail
          go_loopw [177] (fun i wr2 => ∃ j2 : Nat, j2 ≤ n ∧ i = .int .i64 j2 ∧ wr2 = wr) (fun i _ => n - (intOf i).toNat)
          case atStart => exact ⟨0, Nat.zero_le _, rfl, rfl⟩
          case round =>
            obtain ⟨j2, hj2, rfl, rfl⟩ := hrel
            by_cases hj2l : j2 < n
            · obtain ⟨g, cap', hsl, hg, q⟩ := HS.out.q.qu (by omega)
              simp only [Value.slice.injEq] at hsl
              obtain ⟨rfl, _, rfl⟩ := hsl
              have hji : (j2 : Int) < (n : Int) := by omega
              have hr := q.row_cell hj2l
              have he : wr.cell? ⟨(x j2).b, 8, none⟩ = some (.int .i64 j2) := cell_of (q.ent j2 hj2l) rfl
              clear q
              go_wp2
              go_roundw
              case rel => exact ⟨j2 + 1, by omega, by go_num, trivial⟩
              case measure => simp [intOf]; omega
            · have hji : ¬ (j2 : Int) < (n : Int) := by omega
              have z0 : wr.cell? ⟨W.heap.size + 1 + 1 + 1, 0, none⟩ = some (.int .u64 0) := cell_of HR.out.h9 rfl
              have z1 : wr.cell? ⟨W.heap.size + 1 + 1 + 1, 1, none⟩ = some (.int .i64 0) := cell_of HR.out.h9 rfl
              have z2 : wr.cell? ⟨W.heap.size + 1 + 1 + 1, 2, none⟩ = some (.pointer none) := cell_of HR.out.h9 rfl
              go_wp2_with fail
              refine (add_is cut _ hc0 hc1).mono ?_
              rintro e w2 ⟨rfl, hU2⟩
              have s2 := HS.out.upd hU2 (by simp)
              have r2 := HR.out.upd hU2
              have S2 := hid s2
              have R2 := hid r2
              have B2 : Hid (Below W.heap.size W w2) := HB.out.trans (hU2.below HB.out.size (by simp))
              clear s2 r2 hU2 z0 z1 z2 cS
              go_wp2_with fail
              have s3 : Sto W.heap.size (w2.alloc (.cells #[.int .u64 (nsOf cut), .int .i64 (scOf cut), .pointer none] 30 (0, 0))) S M n x _ hv E := S2.out.upd ((Upd.refl w2 []).alloc _) (by simp)
              have r3 := R2.out.upd ((Upd.refl w2 []).alloc (.cells #[.int .u64 (nsOf cut), .int .i64 (scOf cut), .pointer none] 30 (0, 0)))
              refine (expire_walk _ s3 cut).mono ?_
              rintro e w4 ⟨rfl, n4, x4, sl4, hv4, s4, hleft, hK4⟩
              have r4 := r3.kin s3 hK4
              have t4 := hK4.cells (heap_alloc_new w2 _) (s3.ne_M (heap_alloc_new w2 _)) (by decide) (by decide) (by decide)
              have B4 : Hid (Below W.heap.size W w4) := (B2.out.trans (((Upd.refl w2 []).alloc _).below B2.out.size (by simp))).trans (hK4.below (by have := B2.out.size; simp; omega))
              generalize w2.heap.size = tb at *
              obtain ⟨f, hf⟩ : ∃ f : Nat → Bool, f = fun k => hv k && decide (cut < (E k).d) := ⟨_, rfl⟩
              have hfk : ∀ k, k < 4 → hv4 k = f k := fun k hk => by
                have h1 := hleft k hk
                rw [hf]
                cases h2 : hv4 k with
                | true => have := h1.1 h2; simp [this.1, this.2]
                | false =>
                  symm
                  simp only [Bool.and_eq_false_iff, decide_eq_false_iff_not]
                  cases h3 : hv k with
                  | false => exact .inl rfl
                  | true => exact .inr fun h4 => by have := h1.2 ⟨h3, h4⟩; rw [h2] at this; cases this
              have S4 := hid s4
              have R4 := hid r4
              have T4 := hid t4
              have HF := hid hf
              have HFK := hid hfk
              clear s3 r3 hK4 hleft r4 t4 s4 hf hfk
              go_wp2_with fail
              go_loopw [23, 24, 25] (fun nn ll jj wr5 => ∃ j5 : Nat, j5 ≤ 4 ∧ jj = .int .i64 j5 ∧ nn = .int .i64 (pcnt f j5) ∧ ll = .int .i64 (plv f E j5) ∧ Upd w4 wr5 []) (fun _ _ jj _ => 4 - (intOf jj).toNat)
              case atStart => exact ⟨0, by omega, rfl, rfl, rfl, Upd.refl _ _⟩
              case round =>
                obtain ⟨j5, hj5, rfl, rfl, rfl, hU5⟩ := hrel
                by_cases hj4 : j5 < 4
                · have r5 := R4.out.upd hU5
                  have t5 := hU5.heap T4.out (by simp)
                  have hj4' : (j5 : Int) < 4 := by omega
                  have c6 := r5.c6 hj4
                  have c7 := r5.c7 hj4
                  have c80 := r5.c80 hj4
                  have c81 := r5.c81 hj4
                  have c82 := r5.c82 hj4
                  have t0 : wr.cell? ⟨tb, 0, none⟩ = some (.int .u64 (nsOf cut)) := cell_of t5 rfl
                  have t1 : wr.cell? ⟨tb, 1, none⟩ = some (.int .i64 (scOf cut)) := cell_of t5 rfl
                  have t2 : wr.cell? ⟨tb, 2, none⟩ = some (.pointer none) := cell_of t5 rfl
                  have hp1 := pcnt_le f j5
                  have hp2 := plv_le f E j5
                  have HU5 := hid hU5
                  clear r5 t5 hU5
                  cases hh : hv j5 with
                  | false =>
                    rw [hh] at c6
                    have hfj : f j5 = false := by rw [HF.out]; simp [hh]
                    have P1 := hid (pcnt_no f j5 hfj)
                    have P2 := hid (plv_no f E j5 hfj)
                    clear hfj hh
                    go_wp2_with fail
                    go_quiet (fail)
                    go_wp2
                    go_roundw
                    case rel => exact ⟨j5 + 1, by omega, by go_num, by rw [P1.out], by rw [P2.out], HU5.out.trans' ((Upd.refl wr []).drewN nq) (by simp)⟩
                    case measure => simp [intOf]; omega
                  | true =>
                    rw [hh] at c6
                    go_wp2_with fail
                    go_region_held3 (fun w' => w'.cell? ⟨W.heap.size, j5, none⟩ = some (.bool true) ∧ w'.cell? ⟨tb, 0, none⟩ = some (.int .u64 (nsOf cut)) ∧ w'.cell? ⟨tb, 1, none⟩ = some (.int .i64 (scOf cut)) ∧ w'.cell? ⟨tb, 2, none⟩ = some (.pointer none) ∧ w'.cell? ⟨W.heap.size + 1 + 1, j5 * 3, none⟩ = some (.int .u64 (nsOf (E j5).d)) ∧ w'.cell? ⟨W.heap.size + 1 + 1, j5 * 3 + 1, none⟩ = some (.int .i64 (scOf (E j5).d)) ∧ w'.cell? ⟨W.heap.size + 1 + 1, j5 * 3 + 2, none⟩ = some (.pointer none))
                      (first | exact ⟨c6, t0, t1, t2, c80, c81, c82⟩ | exact ⟨upd_cell hU c6, upd_cell hU t0, upd_cell hU t1, upd_cell hU t2, upd_cell hU c80, upd_cell hU c81, upd_cell hU c82⟩)
                      (first | (go_at_call 13; refine (before_is cut (E j5).d _).mono ?_; rintro e w5 ⟨rfl, hU⟩))
                    have hUw : Upd wr w5 [] := ((Upd.refl wr []).drew).trans hU
                    have hU45 := HU5.out.trans' hUw (by simp)
                    have c75 := upd_cell hUw c7
                    have H45 := hid hU45
                    clear hU hUw hU45 c6 c7 c80 c81 c82 t0 t1 t2
                    by_cases hlt5 : cut < (E j5).d
                    · rw [decide_eq_true hlt5]
                      have hfj : f j5 = true := by rw [HF.out]; simp [hh, hlt5]
                      have P1 := hid (pcnt_yes f j5 hfj)
                      cases hdl : (E j5).del with
                      | false =>
                        rw [hdl] at c75
                        have P2 := hid (plv_yes f E j5 hfj hdl)
                        clear hfj hdl hlt5 hh
                        go_wp2
                        go_roundw
                        case rel => exact ⟨j5 + 1, by omega, by go_num, by rw [P1.out]; go_num, by rw [P2.out]; go_num, H45.out⟩
                        case measure => simp [intOf]; omega
                      | true =>
                        rw [hdl] at c75
                        have P2 := hid (plv_mark f E j5 hdl)
                        clear hfj hdl hlt5 hh
                        go_wp2
                        go_roundw
                        case rel => exact ⟨j5 + 1, by omega, by go_num, by rw [P1.out]; go_num, by rw [P2.out], H45.out⟩
                        case measure => simp [intOf]; omega
                    · rw [decide_eq_false hlt5]
                      have hfj : f j5 = false := by rw [HF.out]; simp [hlt5]
                      have P1 := hid (pcnt_no f j5 hfj)
                      have P2 := hid (plv_no f E j5 hfj)
                      clear hfj hlt5 hh
                      go_wp2
                      go_roundw
                      case rel => exact ⟨j5 + 1, by omega, by go_num, by rw [P1.out], by rw [P2.out], H45.out⟩
                      case measure => simp [intOf]; omega
                · have hj5e : j5 = 4 := by omega
                  subst hj5e
                  have s5 := S4.out.upd hU5 (by simp)
                  have e1 : lvc hv4 E = (plv f E 4 : Int) := by rw [plv_four]; exact lvc_congr E HFK.out
                  have e2 : cnt hv4 = pcnt f 4 := by rw [pcnt_four]; exact cnt_congr HFK.out
                  have e3 : n4 = pcnt f 4 := by rw [← e2]; exact s5.num
                  obtain ⟨a4, c4, rfl⟩ := own_slice s5.q.own
                  have hml := s5.m.len 3
                  have hst := s5.q.st
                  rw [e2] at hml
                  rw [e1, e3] at hst
                  have cM : wr.cell? ⟨S, 0, none⟩ = some (.map (some M)) := cell_of hst rfl
                  have cQ : wr.cell? ⟨S, 1, none⟩ = some (.slice a4 (pcnt f 4) c4) := cell_of hst rfl
                  have hL := slen_walk S _ wr (cell_of hst rfl)
                  have hp1 := pcnt_le f 4
                  have hp2 := plv_le f E 4
                  have B5 : Hid (Below W.heap.size W wr) := B4.out.trans (hU5.below B4.out.size (by simp))
                  generalize pcnt f 4 = P at *
                  generalize plv f E 4 = L at *
                  clear s5 e1 e2 e3 hst hU5
                  go_wp2_with fail
                  refine hL.mono ?_
                  rintro e w6 ⟨rfl, rfl⟩
                  clear hL
                  go_wp2
                  go_ret
                  exact ⟨rfl, B5.out⟩
end Go.Proofs.Ybulkjnc
