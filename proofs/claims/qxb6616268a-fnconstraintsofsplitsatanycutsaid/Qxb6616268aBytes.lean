/-
  zzBytes_FnConstraintsOfSplitsAtAnyCut (6): some bool; the world stands.
-/
import Derived.Test.Qxb6616268aBase
import Derived.Deep.DeepCutAuto
namespace Go.Proofs.Qxb6616268a
open Go.RowKit
set_option linter.unusedVariables false
set_option linter.unusedSimpArgs false

set_option maxHeartbeats 4000000 in
set_option maxRecDepth 100000 in
theorem bytes_any (ao : Option Addr) (n cap : Nat) (l : List Dp) (p : ByteArray) (cut : Int) (w : World) (hp : p.size ≤ maxLen) (hl : l.length = n) (hn : n ≤ maxLen) (hD : Hid (Deps w ao l)) :
    Calls Try.prog 6 #[.slice ao n cap, .string p, .int .i64 cut] w fun e w' => AnyBool e ∧ w = w' := by
  have HL : Hid (l.length = n) := hl
  clear hl
  unfold maxLen at hp hn
  by_cases hbig : n ≤ 1048576
  · go_enter Try.func6, Try.ntmps6
    go_wp2
    go_loop [7, 8, 9] (fun t i _ => ∃ (k : Nat) (z : Int), k ≤ n ∧ i = .int .i64 k ∧ t = .int .i64 z) (fun _ i _ => n - (intOf i).toNat)
    case atStart => exact ⟨0, _, Nat.zero_le _, rfl, rfl⟩
    case round =>
      obtain ⟨k, z, hk, rfl, rfl⟩ := hrel
      by_cases hlt : k < n
      · obtain ⟨d, hd⟩ : ∃ d, l[k]? = some d := ⟨_, List.getElem?_eq_getElem (by have := HL.out; omega)⟩
        obtain ⟨b, off, rfl, hlb, hat, hin⟩ := hD.out k d hd
        obtain ⟨c0, c1, c2, c3, c4, c5, c6, c7, c8⟩ := hat
        have hrn := hin.rn
        have hs0 := hin.s0
        have hs1 := hin.s1
        have hs2 := hin.s2
        unfold maxLen at hrn hs0 hs1 hs2
        have hkn : (k : Int) < n := by omega
        have hin2 : Hid (DIn w d) := hin
        clear hin hd
        go_wp2
        all_goals try (as_aux_lemma => (go_ret; exact ⟨.mk _, rfl⟩))
        · as_aux_lemma =>
            clear c0 c1 c2 c3 hs0 hs1 hs2
            go_loop [7, 9] (fun t i => ∃ (j : Nat) (z : Int), j ≤ d.rn ∧ i = .int .i64 j ∧ t = .int .i64 z) (fun _ i => d.rn - (intOf i).toNat)
            case atStart => exact ⟨0, _, Nat.zero_le _, rfl, rfl⟩
            case round =>
              obtain ⟨j, z3, hj, rfl, rfl⟩ := hrel
              by_cases hjl : j < d.rn
              · obtain ⟨b2, o2, s2, e2, l2, k2, m2⟩ := hin2.out.reads j hjl
                rw [e2] at c4
                have hjl' : (j : Int) < d.rn := by omega
                unfold maxLen at m2
                clear e2 c5 c6 c7 c8
                go_wp2
                · go_ret
                  exact ⟨.mk _, rfl⟩
                · go_ret
                  exact ⟨.mk _, rfl⟩
                · go_round
                  case rel => exact ⟨j + 1, _, by omega, by go_num, rfl⟩
                  case measure => simp [intOf]; omega
              · have hp0 := hin2.out.pred
                have hp1 := hin2.out.cond
                have hp2 := hin2.out.lt
                have hp3 := hin2.out.lc
                clear hin2
                generalize d.pred = q0 at *
                generalize d.cond = q1 at *
                generalize d.lt = q2 at *
                generalize d.lc = q3 at *
                have hq0 := hp0
                have hq1 := hp1
                have hq2 := hp2
                have hq3 := hp3
                clear hp0 hp1 hp2 hp3
                go_upto_if 131 with fail
                go_cut [7] (fun t wx => ∃ z : Int, t = .int .i64 z ∧ w = wx)
                case first => as_aux_lemma =>
                  rcases q0 with _ | ⟨b0, o0, s0⟩
                  · go_wp2
                    go_meet
                    exact ⟨_, rfl, rfl⟩
                  · obtain ⟨_, k0, m0⟩ := hq0 _ rfl
                    unfold maxLen at m0
                    simp only at k0 m0
                    simp only [pv, pa] at c5
                    go_wp2
                    · go_ret
                      exact ⟨.mk _, rfl⟩
                    · go_ret
                      exact ⟨.mk _, rfl⟩
                    · go_meet
                      exact ⟨_, rfl, rfl⟩
                obtain ⟨z4, rfl, rfl⟩ := hcut
                clear c5 hq0
                go_upto_if 158 with fail
                go_cut [7] (fun t wx => ∃ z : Int, t = .int .i64 z ∧ w = wx)
                case first => as_aux_lemma =>
                  rcases q1 with _ | ⟨b0, o0, s0⟩
                  · go_wp2
                    go_meet
                    exact ⟨_, rfl, rfl⟩
                  · obtain ⟨_, k0, m0⟩ := hq1 _ rfl
                    unfold maxLen at m0
                    simp only at k0 m0
                    simp only [pv, pa] at c6
                    go_wp2
                    · go_ret
                      exact ⟨.mk _, rfl⟩
                    · go_ret
                      exact ⟨.mk _, rfl⟩
                    · go_meet
                      exact ⟨_, rfl, rfl⟩
                obtain ⟨z4, rfl, rfl⟩ := hcut
                clear c6 hq1
                go_upto_if 185 with fail
                go_cut [7] (fun t wx => ∃ z : Int, t = .int .i64 z ∧ w = wx)
                case first => as_aux_lemma =>
                  rcases q2 with _ | ⟨b0, o0, s0⟩
                  · go_wp2
                    go_meet
                    exact ⟨_, rfl, rfl⟩
                  · obtain ⟨_, k0, m0⟩ := hq2 _ rfl
                    unfold maxLen at m0
                    simp only at k0 m0
                    simp only [pv, pa] at c7
                    go_wp2
                    · go_ret
                      exact ⟨.mk _, rfl⟩
                    · go_ret
                      exact ⟨.mk _, rfl⟩
                    · go_meet
                      exact ⟨_, rfl, rfl⟩
                obtain ⟨z4, rfl, rfl⟩ := hcut
                clear c7 hq2
                rcases q3 with _ | ⟨b0, o0, s0⟩
                · simp only [pv, pa] at c8
                  go_wp2
                  go_round
                  case rel => exact ⟨k + 1, _, by omega, by go_num, rfl⟩
                  case measure => simp [intOf]; omega
                · obtain ⟨_, k0, m0⟩ := hq3 _ rfl
                  unfold maxLen at m0
                  simp only at k0 m0
                  simp only [pv, pa] at c8
                  go_wp2
                  · go_ret
                    exact ⟨.mk _, rfl⟩
                  · go_ret
                    exact ⟨.mk _, rfl⟩
                  · go_round
                    case rel => exact ⟨k + 1, _, by omega, by go_num, rfl⟩
                    case measure => simp [intOf]; omega
      · go_wp2
        all_goals
          go_ret
          exact ⟨.mk _, rfl⟩
  · go_enter Try.func6, Try.ntmps6
    go_wp2
    go_ret
    exact ⟨.mk _, rfl⟩

end Go.Proofs.Qxb6616268a
