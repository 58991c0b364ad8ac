/-
  The walk of the law where its tests let it through to the comparison.
-/
import Derived.Test.Qxb6617595aParts
namespace Go.Proofs.Qxb6617595a
open Go.RowKit
set_option linter.unusedVariables false
set_option linter.unusedSimpArgs false

set_option maxHeartbeats 2000000 in
set_option maxRecDepth 100000 in
theorem walk_main (a0 : Option Addr) (n cap0 : Nat) (z0 : List Int) (a1 : Option Addr) (cap1 : Nat) (z1 : List Int) (uses : Int) (k : Nat) (c b : Int) (w : World)
    (hn : n ≤ 65536) (hkn : k ≤ n)
    (r0 : Hid (∀ i, i < n → ∃ b off, a0 = some ⟨b, off, none⟩ ∧ b < w.heap.size ∧ w.cell? ⟨b, off + i, none⟩ = some (.int .i64 (z0.getD i 0))))
    (r1 : Hid (∀ i, i < n → ∃ b off, a1 = some ⟨b, off, none⟩ ∧ b < w.heap.size ∧ w.cell? ⟨b, off + i, none⟩ = some (.int .i64 (z1.getD i 0)))) :
    Calls Try.prog 3 #[.slice a0 n cap0, .slice a1 n cap1, .int .i64 uses, .int .i64 k, .int .i64 c, .int .i64 b] w fun e w' => e = .returned (.bool true) ∧ Below w.heap.size w w' := by
  obtain ⟨i0, hi, hz0, hz1, hz2⟩ := info_parts Try.info29
  have hd : decide (n + n ≤ 1048576) = true := by simp; omega
  go_enter Try.func3, Try.ntmps3
  go_wp2_with (first
    | (go_at_call 4; refine (zzBytes_any _ _ _ _ _ _ _ _ _ _ _ (by unfold maxLen; omega) (by unfold maxLen; omega)).mono ?_; rintro e w' ⟨rfl, rfl⟩; rw [hd])
    | (at_make; refine wpList_make_own _ rfl _ _ 24 rfl w.heap.size 29 i0 _ 6 Try.underlying24 hi hz0 hz1 _ _ _ k rfl rfl (by omega) (by rw [hz2]; omega) (by unfold maxLen; omega) (Nat.le_refl _) ?_))
  intro w1 own1 gr1
  have hb1 : Below w.heap.size w w1 := (Below.refl _ _).grown gr1 (Nat.le_refl _) (by simp)
  clear gr1
  go_wp2
  go_loopw [14, 15] (fun v i wr => ∃ j : Nat, j ≤ k ∧ i = .int .i64 j ∧ v = .slice (some ⟨w.heap.size, 0, none⟩) j k ∧ wr.ownsRow w.heap.size 29 6 (.slice (some ⟨w.heap.size, 0, none⟩) j k) j (excs (prs z0 z1 0 j)) ∧ Below w.heap.size w wr) (fun _ i _ => k - (intOf i).toNat)
  case atStart => exact ⟨0, Nat.zero_le _, rfl, rfl, own1, hb1⟩
  case round =>
    obtain ⟨j, hj, rfl, rfl, own, hb⟩ := hrel
    clear own1 hb1
    by_cases hlt : j < k
    · obtain ⟨b0, o0, rfl, l0, c0⟩ := r0.out j (by omega)
      obtain ⟨b1, o1, rfl, l1, c1⟩ := r1.out j (by omega)
      rw [← hb.cell (by exact l0)] at c0
      rw [← hb.cell (by exact l1)] at c1
      have hnj : (j : Int) < n := by omega
      go_wp2_with fail
      go_region_law (refine step_append_fits rfl (.tmp 61) (.tmp 71) 24 rfl w.heap.size 29 i0 6 Try.underlying24 hi hz1 w.heap.size j k _ (by simp [Act.eval, Act.put]) (by exact (own.alloc _).drew) ⟨wr.heap.size, 0, none⟩ 1 1 (exc (z0.getD j 0, z1.getD j 0)) (by simp [Act.eval, Act.put]) rfl (by exact cells_new wr (exc _) 29) (exc_oneCell _) (by omega) ?_; intro w' ow gr)
      all_goals
        have R := step_rel (z0.getD j 0, z1.getD j 0) (prs_length z0 z1 0 j) hb (Nat.le_refl _) ow gr
        clear ow gr own c0 c1
        go_wp2
        go_roundw
        case rel => exact ⟨j + 1, by omega, by go_num, rfl, by rw [prs, Nat.zero_add]; exact R.1, R.2.1⟩
        case measure => simp [intOf]; omega
    · have hjk : k = j := by omega
      subst hjk
      clear hlt hj
      have ownL := own
      have hbL := hb
      have hszL := (own.lt _ rfl).2
      clear own hb
      go_wp2_with (at_make; refine wpList_make_own _ rfl _ _ 24 rfl w.heap.size 29 i0 _ 6 Try.underlying24 hi hz0 hz1 _ _ _ (n - k) rfl rfl (by omega) (by rw [hz2]; omega) (by unfold maxLen; omega) hbL.size ?_)
      intro w2 own2 gr2
      have hb2 : Below w.heap.size w w2 := hbL.grown gr2 hbL.size (by simp)
      have ownL2 := ownL.kept gr2 (by simp [Value.ownBlock])
      have hgR : Hid (w.heap.size < wr.heap.size) := hszL
      clear gr2 ownL hbL hszL
      generalize wr.heap.size = gR at *
      go_wp2
      go_loopw [16, 17] (fun v i wr => ∃ j : Nat, j ≤ n - k ∧ i = .int .i64 ((k + j : Nat) : Int) ∧ v = .slice (some ⟨gR, 0, none⟩) j (n - k) ∧ wr.ownsRow w.heap.size 29 6 (.slice (some ⟨gR, 0, none⟩) j (n - k)) j (excs (prs z0 z1 k j)) ∧ wr.ownsRow w.heap.size 29 6 (.slice (some ⟨w.heap.size, 0, none⟩) k k) k (excs (prs z0 z1 0 k)) ∧ Below w.heap.size w wr) (fun _ i _ => n - (intOf i).toNat)
      case atStart => exact ⟨0, Nat.zero_le _, rfl, rfl, own2, ownL2, hb2⟩
      case round =>
        obtain ⟨j, hj, rfl, rfl, own, ownL, hb⟩ := hrel
        clear own2 ownL2 hb2
        by_cases hlt : k + j < n
        · obtain ⟨b0, o0, rfl, l0, c0⟩ := r0.out (k + j) (by omega)
          obtain ⟨b1, o1, rfl, l1, c1⟩ := r1.out (k + j) (by omega)
          rw [← hb.cell (by exact l0)] at c0
          rw [← hb.cell (by exact l1)] at c1
          have hnj : (k : Int) + (j : Int) < n := by omega
          have h0j : (0 : Int) ≤ (k : Int) + (j : Int) := by omega
          have htj : ((k : Int) + (j : Int)).toNat = k + j := by omega
          go_wp2_with fail
          go_region_law (refine step_append_fits rfl (.tmp 83) (.tmp 93) 24 rfl w.heap.size 29 i0 6 Try.underlying24 hi hz1 gR j (n - k) _ (by simp [Act.eval, Act.put]) (by exact (own.alloc _).drew) ⟨wr.heap.size, 0, none⟩ 1 1 (exc (z0.getD (k + j) 0, z1.getD (k + j) 0)) (by simp [Act.eval, Act.put]) rfl (by exact cells_new wr (exc _) 29) (exc_oneCell _) (by omega) ?_; intro w' ow gr)
          all_goals
            have R := step_rel (z0.getD (k + j) 0, z1.getD (k + j) 0) (prs_length z0 z1 k j) hb (Nat.le_of_lt hgR) ow gr
            have oL := R.2.2 _ _ _ _ ownL (by have := hgR.out; omega)
            clear ow gr own c0 c1 ownL
            go_wp2
            go_roundw
            case rel => exact ⟨j + 1, by omega, by go_num, rfl, by rw [prs]; exact R.1, oL, R.2.1⟩
            case measure => simp [intOf]; omega
        · have hjk : n - k = j := by omega
          subst hjk
          clear hlt hj
          have ownR := own
          have hszR : gR < wr.heap.size := (own.lt _ rfl).2
          have hbR := hb
          clear own hb
          go_wp2_with (at_make; refine wpList_make_own _ rfl _ _ 24 rfl w.heap.size 29 i0 _ 6 Try.underlying24 hi hz0 hz1 _ _ _ (n + 1) rfl rfl (by omega) (by rw [hz2]; omega) (by unfold maxLen; omega) hbR.size ?_)
          intro w2 own2 gr2
          have hb2 : Below w.heap.size w w2 := hbR.grown gr2 hbR.size (by simp)
          have ownL2 := ownL.kept gr2 (by simp [Value.ownBlock])
          have ownR2 := ownR.kept gr2 (by simp [Value.ownBlock])
          have hgW : Hid (gR < wr.heap.size) := hszR
          clear gr2 ownL ownR hbR hszR
          generalize wr.heap.size = gW at *
          go_wp2
          go_loopw [18, 19] (fun v i wr => ∃ j : Nat, j ≤ k ∧ i = .int .i64 j ∧ v = .slice (some ⟨gW, 0, none⟩) j (n + 1) ∧ wr.ownsRow w.heap.size 29 6 (.slice (some ⟨gW, 0, none⟩) j (n + 1)) j (excs (prs z0 z1 0 j)) ∧ wr.ownsRow w.heap.size 29 6 (.slice (some ⟨w.heap.size, 0, none⟩) k k) k (excs (prs z0 z1 0 k)) ∧ wr.ownsRow w.heap.size 29 6 (.slice (some ⟨gR, 0, none⟩) (n - k) (n - k)) (n - k) (excs (prs z0 z1 k (n - k))) ∧ Below w.heap.size w wr) (fun _ i _ => k - (intOf i).toNat)
          case atStart => exact ⟨0, Nat.zero_le _, rfl, rfl, own2, ownL2, ownR2, hb2⟩
          case round =>
            obtain ⟨j, hj, rfl, rfl, own, ownL, ownR, hb⟩ := hrel
            clear own2 ownL2 ownR2 hb2
            by_cases hlt : j < k
            · obtain ⟨b0, o0, rfl, l0, c0⟩ := r0.out j (by omega)
              obtain ⟨b1, o1, rfl, l1, c1⟩ := r1.out j (by omega)
              rw [← hb.cell (by exact l0)] at c0
              rw [← hb.cell (by exact l1)] at c1
              have hnj : (j : Int) < n := by omega
              go_wp2_with fail
              go_region_law (refine step_append_fits rfl (.tmp 103) (.tmp 113) 24 rfl w.heap.size 29 i0 6 Try.underlying24 hi hz1 gW j (n + 1) _ (by simp [Act.eval, Act.put]) (by exact (own.alloc _).drew) ⟨wr.heap.size, 0, none⟩ 1 1 (exc (z0.getD j 0, z1.getD j 0)) (by simp [Act.eval, Act.put]) rfl (by exact cells_new wr (exc _) 29) (exc_oneCell _) (by omega) ?_; intro w' ow gr)
              all_goals
                have R := step_rel (z0.getD j 0, z1.getD j 0) (prs_length z0 z1 0 j) hb (by have := hgR.out; have := hgW.out; omega) ow gr
                have oL := R.2.2 _ _ _ _ ownL (by have := hgR.out; have := hgW.out; omega)
                have oR := R.2.2 _ _ _ _ ownR (by have := hgR.out; have := hgW.out; omega)
                clear ow gr own c0 c1 ownL ownR
                go_wp2
                go_roundw
                case rel => exact ⟨j + 1, by omega, by go_num, rfl, by rw [prs, Nat.zero_add]; exact R.1, oL, oR, R.2.1⟩
                case measure => simp [intOf]; omega
            · have hjk : k = j := by omega
              subst hjk
              clear hlt hj
              go_wp2_with (at_builtin; refine wpList_append_fits _ rfl (.tmp 115) (.tmp 119) 24 rfl w.heap.size 29 i0 6 Try.underlying24 hi hz1 gW k (n + 1) _ rfl (own.alloc _) ⟨wr.heap.size, 0, none⟩ 1 1 (exc (c, b)) rfl rfl (cells_new wr (exc _) 29) (exc_oneCell _) (by omega) ?_)
              intro w3 ow gr
              have R := step_rel0 (c, b) (prs_length z0 z1 0 k) hb (by have := hgR.out; have := hgW.out; omega) ow gr
              have oL := R.2.2 _ _ _ _ ownL (by have := hgR.out; have := hgW.out; omega)
              have oR := R.2.2 _ _ _ _ ownR (by have := hgR.out; have := hgW.out; omega)
              have oW := R.1
              have hb3 := R.2.1
              clear R ow gr own ownL ownR hb
              go_wp2
              go_loopw [18, 20] (fun v i wr => ∃ j : Nat, j ≤ n - k ∧ i = .int .i64 ((k + j : Nat) : Int) ∧ v = .slice (some ⟨gW, 0, none⟩) (k + 1 + j) (n + 1) ∧ wr.ownsRow w.heap.size 29 6 (.slice (some ⟨gW, 0, none⟩) (k + 1 + j) (n + 1)) (k + 1 + j) (excs ((prs z0 z1 0 k ++ [(c, b)]) ++ prs z0 z1 k j)) ∧ wr.ownsRow w.heap.size 29 6 (.slice (some ⟨w.heap.size, 0, none⟩) k k) k (excs (prs z0 z1 0 k)) ∧ wr.ownsRow w.heap.size 29 6 (.slice (some ⟨gR, 0, none⟩) (n - k) (n - k)) (n - k) (excs (prs z0 z1 k (n - k))) ∧ Below w.heap.size w wr) (fun _ i _ => n - (intOf i).toNat)
              case atStart => exact ⟨0, Nat.zero_le _, rfl, rfl, by simpa [prs] using oW, oL, oR, hb3⟩
              case round =>
                obtain ⟨j, hj, rfl, rfl, own, ownL, ownR, hb⟩ := hrel
                clear oL oR oW hb3
                by_cases hlt : k + j < n
                · obtain ⟨b0, o0, rfl, l0, c0⟩ := r0.out (k + j) (by omega)
                  obtain ⟨b1, o1, rfl, l1, c1⟩ := r1.out (k + j) (by omega)
                  rw [← hb.cell (by exact l0)] at c0
                  rw [← hb.cell (by exact l1)] at c1
                  have hnj : (k : Int) + (j : Int) < n := by omega
                  have h0j : (0 : Int) ≤ (k : Int) + (j : Int) := by omega
                  have htj : ((k : Int) + (j : Int)).toNat = k + j := by omega
                  go_wp2_with fail
                  go_region_law (refine step_append_fits rfl (.tmp 127) (.tmp 137) 24 rfl w.heap.size 29 i0 6 Try.underlying24 hi hz1 gW (k + 1 + j) (n + 1) _ (by simp [Act.eval, Act.put]) (by exact (own.alloc _).drew) ⟨wr.heap.size, 0, none⟩ 1 1 (exc (z0.getD (k + j) 0, z1.getD (k + j) 0)) (by simp [Act.eval, Act.put]) rfl (by exact cells_new wr (exc _) 29) (exc_oneCell _) (by omega) ?_; intro w' ow gr)
                  all_goals
                    have R := step_rel (z0.getD (k + j) 0, z1.getD (k + j) 0) (by simp [prs_length]; omega) hb (by have := hgR.out; have := hgW.out; omega) ow gr
                    have oL := R.2.2 _ _ _ _ ownL (by have := hgR.out; have := hgW.out; omega)
                    have oR := R.2.2 _ _ _ _ ownR (by have := hgR.out; have := hgW.out; omega)
                    clear ow gr own c0 c1 ownL ownR
                    go_wp2
                    go_roundw
                    case rel => exact ⟨j + 1, by omega, by go_num, rfl, by rw [prs, ← List.append_assoc]; exact R.1, oL, oR, R.2.1⟩
                    case measure => simp [intOf]; omega
                · have hjk : n - k = j := by omega
                  subst hjk
                  have hsW : gW < wr.heap.size := (own.lt _ rfl).2
                  have hfin : Hid (_) := law (prs z0 z1 0 k) (prs z0 z1 k (n - k)) c b k (n - k) (prs_length _ _ _ _) (prs_length _ _ _ _)
                  clear hlt hj
                  go_wp2_with fail
                  change Calls Try.prog 5 _ (box3 wr (.int .i64 uses) (.slice (some ⟨w.heap.size, 0, none⟩) k k) (.slice (some ⟨gR, 0, none⟩) (n - k) (n - k)) (.slice (some ⟨gW, 0, none⟩) (k + 1 + (n - k)) (n + 1))) _
                  obtain ⟨f1, f2, f3, f4, f5⟩ := box3_facts wr (.int .i64 uses) (.slice (some ⟨w.heap.size, 0, none⟩) k k) (.slice (some ⟨gR, 0, none⟩) (n - k) (n - k)) (.slice (some ⟨gW, 0, none⟩) (k + 1 + (n - k)) (n + 1))
                  generalize box3 wr (.int .i64 uses) (.slice (some ⟨w.heap.size, 0, none⟩) k k) (.slice (some ⟨gR, 0, none⟩) (n - k) (n - k)) (.slice (some ⟨gW, 0, none⟩) (k + 1 + (n - k)) (n + 1)) = W3 at *
                  have oW3 := own_below own f1 hsW
                  have oR3 := own_below ownR f1 (by have := hgW.out; omega)
                  have oL3 := own_below ownL f1 (by have := hgW.out; have := hgR.out; omega)
                  have hbW : Below w.heap.size w W3 := hb.trans (f1.mono hb.size)
                  refine (beyond_any (wr.heap.size + 1 + 1) gW (k + 1 + (n - k)) (n + 1) _ W3 (by omega) f5 (own_exc oW3 (by simp [prs_length]; omega)) (by omega)).mono ?_
                  rintro e W4 ⟨rfl, hb4⟩
                  have oR4 := own_below oR3 hb4 (by have := hgW.out; omega)
                  have oL4 := own_below oL3 hb4 (by have := hgW.out; have := hgR.out; omega)
                  have g3 := (hb4.cell (p := ⟨wr.heap.size, 1, none⟩) (by simp; omega)).trans f3
                  have g4 := (hb4.cell (p := ⟨wr.heap.size + 1, 1, none⟩) (by simp; omega)).trans f4
                  have hs4 := hb4.size
                  clear f1 f3 f4 f5 oW3 oR3 oL3 own ownL ownR
                  generalize hA : sumTo ((prs z0 z1 0 k ++ [(c, b)]) ++ prs z0 z1 k (n - k)) (k + 1 + (n - k)) = A
                  have HA : Hid (_) := hA
                  clear hA
                  go_wp2_with fail
                  refine (beyond_any wr.heap.size w.heap.size k k _ W4 (by omega) g3 (own_exc oL4 (prs_length _ _ _ _)) (by have := hgW.out; have := hgR.out; omega)).mono ?_
                  rintro e W5 ⟨rfl, hb5⟩
                  have oR5 := own_below oR4 hb5 (by have := hgW.out; omega)
                  have g5 := (hb5.cell (p := ⟨wr.heap.size + 1, 1, none⟩) (by simp; omega)).trans g4
                  have hs5 := hb5.size
                  clear g3 g4 oR4 oL4
                  generalize hA2 : sumTo (prs z0 z1 0 k) k = A2
                  have HA2 : Hid (_) := hA2
                  clear hA2
                  go_wp2_with fail
                  refine (beyond_any (wr.heap.size + 1) gR (n - k) (n - k) _ W5 (by omega) g5 (own_exc oR5 (prs_length _ _ _ _)) (by have := hgW.out; omega)).mono ?_
                  rintro e W6 ⟨rfl, hb6⟩
                  clear g5 oR5
                  generalize hA3 : sumTo (prs z0 z1 k (n - k)) (n - k) = A3
                  have HA3 : Hid (_) := hA3
                  clear hA3
                  have hfin' : Hid ((A == wrap64 (wrap64 (A2 + A3) + wrap64 (c - b))) = true) := by rw [← HA.out, ← HA2.out, ← HA3.out]; exact hfin
                  have hbl : Hid (Below w.heap.size w W6) := ((hbW.trans (hb4.mono (by have := hb.size; omega))).trans (hb5.mono (by have := hb.size; omega))).trans (hb6.mono (by have := hb.size; omega))
                  clear hb4 hb5 hb6 hbW HA HA2 HA3 hfin hb
                  go_wp2
                  go_ret
                  exact ⟨ret_bool hfin'.out, hbl.out⟩

end Go.Proofs.Qxb6617595a
