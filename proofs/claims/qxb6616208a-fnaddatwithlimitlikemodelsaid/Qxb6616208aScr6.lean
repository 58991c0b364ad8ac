/-
  zzBytes (20): the law's bound on the script.
-/
import Derived.Test.Qxb6616208aScr
namespace Go.Proofs.Qxb6616208a
open Go.RowKit
set_option linter.unusedVariables false
set_option linter.unusedSimpArgs false

set_option maxHeartbeats 4000000 in
set_option maxRecDepth 100000 in
theorem zzBytes20_any (z0 : Int) (sa : Option Addr) (n cap : Nat) (l : List Pd) (w : World) (hn : Hid (l.length = n)) (hl : n ≤ maxLen) (hS : Hid (Scr w sa l)) :
    Calls Try.prog 20 #[.int .i64 z0, .slice sa n cap] w fun e w' => AnyBool e ∧ TrueThen e (∀ x ∈ l, x.Small) ∧ w = w' := by
  unfold maxLen at hl
  by_cases hn0 : n > 1048576
  · go_enter Try.func20, Try.ntmps20
    go_wp2
    go_ret
    exact ⟨⟨_, rfl⟩, fun h => (by cases h), rfl⟩
  · go_enter Try.func20, Try.ntmps20
    have hn0b : decide ((1048576 : Int) < n) = false := by simp; omega
    go_wp2
    go_loop [5, 6, 7] (fun v i _ => ∃ (j : Nat) (z : Int), j ≤ n ∧ i = .int .i64 j ∧ v = .int .i64 z ∧ (0 ≤ z ∧ z ≤ 1048576) ∧ Hid (∀ i' x, i' < j → l[i']? = some x → x.Small)) (fun _ i _ => n - (intOf i).toNat)
    case atStart => exact ⟨0, _, Nat.zero_le _, rfl, rfl, by constructor <;> omega, fun i' x h => by omega⟩
    case round =>
      obtain ⟨j, z, hj, rfl, rfl, hz01, hno⟩ := hrel
      by_cases hlt : j < n
      · obtain ⟨x, hd⟩ : ∃ x, l[j]? = some x := ⟨_, List.getElem?_eq_getElem (by have := hn.out; omega)⟩
        obtain ⟨b, off, ea, ec, rfl, hbl, hz, hE, hok, hnil⟩ := hS.out j x hd
        obtain ⟨c0, c1, c2, c3, c4, c5, c6, c7, c8⟩ := hz
        have hjn : (j : Int) < n := by omega
        have s0 := hok.s0
        have s1 := hok.s1
        have s2 := hok.s2
        have s3 := hok.len
        have HE : Hid (Els w ea x.els) := hE
        have HD : Hid (l[j]? = some x) := hd
        unfold maxLen at s0 s1 s2 s3
        clear hE hnil hok hd
        by_cases t0 : (x.smsc.size : Int) > 1048576
        · go_wp2
          go_ret
          exact ⟨⟨_, rfl⟩, fun h => (by cases h), rfl⟩
        · skip
          by_cases t1 : z + x.smsc.size > 1048576
          · go_wp2
            go_ret
            exact ⟨⟨_, rfl⟩, fun h => (by cases h), rfl⟩
          · skip
            by_cases t2 : (x.fnum.size : Int) > 1048576
            · go_wp2
              go_ret
              exact ⟨⟨_, rfl⟩, fun h => (by cases h), rfl⟩
            · skip
              by_cases t3 : z + x.smsc.size + x.fnum.size > 1048576
              · go_wp2
                go_ret
                exact ⟨⟨_, rfl⟩, fun h => (by cases h), rfl⟩
              · skip
                by_cases t4 : (x.tnum.size : Int) > 1048576
                · go_wp2
                  go_ret
                  exact ⟨⟨_, rfl⟩, fun h => (by cases h), rfl⟩
                · skip
                  by_cases t5 : z + x.smsc.size + x.fnum.size + x.tnum.size > 1048576
                  · go_wp2
                    go_ret
                    exact ⟨⟨_, rfl⟩, fun h => (by cases h), rfl⟩
                  · skip
                    by_cases t6 : (x.els.length : Int) > 1048576
                    · go_wp2
                      go_ret
                      exact ⟨⟨_, rfl⟩, fun h => (by cases h), rfl⟩
                    · skip
                      by_cases t7 : z + x.smsc.size + x.fnum.size + x.tnum.size + x.els.length > 1048576
                      · go_wp2
                        go_ret
                        exact ⟨⟨_, rfl⟩, fun h => (by cases h), rfl⟩
                      · skip
                        go_wp2
                        clear c0 c1 c2 c3 c4 c5 c6 c7
                        generalize hz1 : z + x.smsc.size + x.fnum.size + x.tnum.size + x.els.length = z1 at *
                        have hz1b : 0 ≤ z1 ∧ z1 ≤ 1048576 := by omega
                        clear hz1 t0 t1 t2 t3 t4 t5 t7 s0 s1 s2
                        go_loop [5, 7] (fun v i => ∃ (m : Nat) (z : Int), m ≤ x.els.length ∧ i = .int .i64 m ∧ v = .int .i64 z ∧ (0 ≤ z ∧ z ≤ 1048576) ∧ Hid (∀ m' id d, m' < m → x.els[m']? = some (id, d) → d.length ≤ 1048576)) (fun _ i => x.els.length - (intOf i).toNat)
                        case atStart => exact ⟨0, _, Nat.zero_le _, rfl, rfl, hz1b, fun m' id d h => by omega⟩
                        case round =>
                          obtain ⟨m, z2, hm, rfl, rfl, hz2, hmo⟩ := hrel
                          by_cases hml : m < x.els.length
                          · obtain ⟨⟨id, d⟩, hd⟩ : ∃ y, x.els[m]? = some y := ⟨_, List.getElem?_eq_getElem hml⟩
                            obtain ⟨b2, off2, a, nd, cp, rfl, hbl2, e1, e2, hid, hdl, hnl, hB, hnil⟩ := HE.out m id d hd
                            have hmn : (m : Int) < (x.els.length : Nat) := by omega
                            have HDD : Hid (x.els[m]? = some (id, d) ∧ d.length = nd) := ⟨hd, hdl⟩
                            unfold maxLen at hnl
                            clear hB hnil hdl hd
                            by_cases u0 : (nd : Int) > 1048576
                            · go_wp2
                              go_ret
                              exact ⟨⟨_, rfl⟩, fun h => (by cases h), rfl⟩
                            · by_cases u1 : z2 + nd > 1048576
                              · go_wp2
                                go_ret
                                exact ⟨⟨_, rfl⟩, fun h => (by cases h), rfl⟩
                              · have hmo2 : Hid (∀ m' id d, m' < m + 1 → x.els[m']? = some (id, d) → d.length ≤ 1048576) := fun m' id' d' h1 h2 => by
                                  rcases Nat.lt_or_ge m' m with h | h
                                  · exact hmo.out m' id' d' h h2
                                  · obtain rfl : m' = m := by omega
                                    rw [HDD.out.1] at h2; cases h2
                                    rw [HDD.out.2]; omega
                                clear hmo
                                go_wp2
                                go_round
                                case rel => exact ⟨m + 1, _, by omega, by go_num, rfl, by omega, hmo2⟩
                                case measure => simp [intOf]; omega
                          · have hno2 : Hid (∀ i' x', i' < j + 1 → l[i']? = some x' → x'.Small) := fun i' x' h1 h2 => by
                              rcases Nat.lt_or_ge i' j with h | h
                              · exact hno.out i' x' h h2
                              · obtain rfl : i' = j := by omega
                                rw [HD.out] at h2; cases h2
                                refine ⟨by omega, fun e he => ?_⟩
                                obtain ⟨m', hm'⟩ := List.mem_iff_getElem?.1 he
                                exact hmo.out m' e.1 e.2 (by have := (List.getElem?_eq_some_iff.1 hm').1; omega) hm'
                            clear hno hmo
                            go_wp2
                            go_round
                            case rel => exact ⟨j + 1, _, by omega, by go_num, rfl, by omega, hno2⟩
                            case measure => simp [intOf]; omega
      · have HA : Hid (∀ x ∈ l, x.Small) := fun x hx => by
          obtain ⟨i', hi'⟩ := List.mem_iff_getElem?.1 hx
          exact hno.out i' x (by have := (List.getElem?_eq_some_iff.1 hi').1; have := hn.out; omega) hi'
        clear hno
        go_wp2
        go_ret
        exact ⟨⟨_, rfl⟩, fun _ => HA.out, rfl⟩

end Go.Proofs.Qxb6616208a
