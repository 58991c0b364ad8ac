/-
  zzDepsTooBig (7).
-/
import Derived.Test.Qxb6616268aBase
namespace Go.Proofs.Qxb6616268a
open Go.RowKit
set_option linter.unusedVariables false
set_option linter.unusedSimpArgs false

set_option maxHeartbeats 400000 in
theorem tooBig_yes (ao : Option Addr) (n cap : Nat) (p : ByteArray) (w : World) (hn : 65536 < n) (hm : n ≤ maxLen) :
    Calls Try.prog 7 #[.slice ao n cap, .string p] w fun e w' => e = .returned (.bool true) ∧ w = w' := by
  unfold maxLen at hm
  go_enter Try.func7, Try.ntmps7
  go_wp2
  go_ret
  exact ⟨rfl, rfl⟩

/-- the pointers of a Dep, in whatever world has only drawn since -/
theorem PIn.drewN {w : World} {p : Option SPtr} (h : PIn w p) (m : Nat) : PIn (w.drewN m) p := h

set_option maxHeartbeats 1000000 in
set_option maxRecDepth 100000 in
theorem tooBig_any (ao : Option Addr) (n cap : Nat) (l : List Dp) (p : ByteArray) (w : World) (hp : p.size ≤ maxLen) (hl : l.length = n) (hn : n ≤ 65536) (hD : Hid (Deps w ao l)) :
    Calls Try.prog 7 #[.slice ao n cap, .string p] w fun e w' => AnyBool e ∧ Below w.heap.size w w' := by
  have HL : Hid (l.length = n) := hl
  clear hl
  unfold maxLen at hp
  go_enter Try.func7, Try.ntmps7
  go_wp2
  · go_ret
    exact ⟨.mk _, Below.refl _ _⟩
  go_loopw [5, 6, 7, 8] (fun t i _ _ wr => ∃ (k : Nat) (z : Int), k ≤ n ∧ i = .int .i64 k ∧ t = .int .i64 z ∧ Below w.heap.size w wr) (fun _ i _ _ _ => n - (intOf i).toNat)
  case atStart => exact ⟨0, _, Nat.zero_le _, rfl, rfl, Below.refl _ _⟩
  case round =>
    obtain ⟨k, z, hk, rfl, rfl, hb⟩ := hrel
    by_cases hlt : k < n
    · obtain ⟨d, hd⟩ : ∃ d, l[k]? = some d := ⟨_, List.getElem?_eq_getElem (by have := HL.out; omega)⟩
      obtain ⟨b, off, rfl, hlb, hat, hin⟩ := hD.out k d hd
      obtain ⟨c0, c1, c2, c3, c4, c5, c6, c7, c8⟩ := hat
      rw [← hb.cell (by exact hlb)] at c0 c1 c2 c3 c4 c5 c6 c7 c8
      have hrn := hin.rn
      have hin2 : Hid (DIn (wr.alloc (.cells #[.string d.describe, .string d.catalog, .string d.kind, .bool d.uniq, .slice d.ra d.rn d.rc, pv d.pred, pv d.cond, pv d.lt, pv d.lc] 30)) d) := hin.below (hb.alloc hb.size _)
      have hs0 := hin.s0
      have hs1 := hin.s1
      have hs2 := hin.s2
      have hbx : Hid (Below w.heap.size w (wr.alloc (.cells #[.string d.describe, .string d.catalog, .string d.kind, .bool d.uniq, .slice d.ra d.rn d.rc, pv d.pred, pv d.cond, pv d.lt, pv d.lc] 30))) := hb.alloc hb.size _
      unfold maxLen at hrn hs0 hs1 hs2
      have hkn : (k : Int) < n := by omega
      clear hin hd
      go_wp2
      · go_ret
        exact ⟨.mk _, hbx⟩
      · obtain ⟨wx, hx⟩ : ∃ wx, wx = wr.alloc (.cells #[.string d.describe, .string d.catalog, .string d.kind, .bool d.uniq, .slice d.ra d.rn d.rc, pv d.pred, pv d.cond, pv d.lt, pv d.lc] 30) := ⟨_, rfl⟩
        have x4 : wx.cell? ⟨wr.heap.size, 4, none⟩ = some (.slice d.ra d.rn d.rc) := by rw [hx]; exact cell_of_row _ _ 4 _ 30 (0, 0) (heap_alloc_new wr _)
        have x5 : wx.cell? ⟨wr.heap.size, 5, none⟩ = some (pv d.pred) := by rw [hx]; exact cell_of_row _ _ 5 _ 30 (0, 0) (heap_alloc_new wr _)
        have x6 : wx.cell? ⟨wr.heap.size, 6, none⟩ = some (pv d.cond) := by rw [hx]; exact cell_of_row _ _ 6 _ 30 (0, 0) (heap_alloc_new wr _)
        have x7 : wx.cell? ⟨wr.heap.size, 7, none⟩ = some (pv d.lt) := by rw [hx]; exact cell_of_row _ _ 7 _ 30 (0, 0) (heap_alloc_new wr _)
        have x8 : wx.cell? ⟨wr.heap.size, 8, none⟩ = some (pv d.lc) := by rw [hx]; exact cell_of_row _ _ 8 _ 30 (0, 0) (heap_alloc_new wr _)
        rw [← hx] at hin2 hbx ⊢
        clear hx c0 c1 c2 c3 c4 c5 c6 c7 c8 hs0 hs1 hs2 hb
        generalize wr.heap.size = q at *
        generalize wrap64 (z + wrap64 (wrap64 (wrap64 (8 + ↑d.describe.size) + ↑d.catalog.size) + ↑d.kind.size)) = z2 at *
        go_loop [5, 8] (fun t i => ∃ (j : Nat) (z : Int), j ≤ d.rn ∧ i = .int .i64 j ∧ t = .int .i64 z) (fun _ i => d.rn - (intOf i).toNat)
        case atStart => exact ⟨0, _, Nat.zero_le _, rfl, rfl⟩
        case round =>
          obtain ⟨j, z3, hj, rfl, rfl⟩ := hrel
          by_cases hjl : j < d.rn
          · obtain ⟨b2, o2, s2, e2, l2, k2, m2⟩ := hin2.out.reads j hjl
            rw [e2] at x4
            have hjl' : (j : Int) < d.rn := by omega
            unfold maxLen at m2
            clear e2
            go_wp2
            · go_ret
              exact ⟨.mk _, hbx⟩
            · go_round
              case rel => exact ⟨j + 1, _, by omega, by go_num, rfl⟩
              case measure => simp [intOf]; omega
          · have P0 := hin2.out.pred
            have P1 := hin2.out.cond
            have P2 := hin2.out.lt
            have P3 := hin2.out.lc
            have H0 : Hid (PIn wx d.pred ∧ PIn wx d.cond ∧ PIn wx d.lt ∧ PIn wx d.lc) := ⟨P0, P1, P2, P3⟩
            clear P0 P1 P2 P3 hin2
            go_wp2_with fail
            refine wp_region_quiet_lit (by kernel_rfl) (by kernel_rfl) ?_
            iterate 3 (go_big_quiet_step (fail))
            quiet_step ((go_at_call 25; exact Calls.quiet_of_same (strLen_any d.pred _ (H0.out.1.drewN _))))
            iterate 2 (go_big_quiet_step (fail))
            quiet_step ((go_at_call 25; exact Calls.quiet_of_same (strLen_any d.cond _ (H0.out.2.1.drewN _))))
            iterate 3 (go_big_quiet_step (fail))
            quiet_step ((go_at_call 25; exact Calls.quiet_of_same (strLen_any d.lt _ (H0.out.2.2.1.drewN _))))
            iterate 3 (go_big_quiet_step (fail))
            quiet_step ((go_at_call 25; exact Calls.quiet_of_same (strLen_any d.lc _ (H0.out.2.2.2.drewN _))))
            iterate 3 (go_big_quiet_step (fail))
            refine wpQuiet_nil ?_
            intro _ hw'
            obtain ⟨nq, hw''⟩ := hw'
            subst hw''
            have hbq : Hid (Below w.heap.size w (wx.drewN nq)) := below_drewN hbx.out nq
            go_wp2
            · go_ret
              exact ⟨.mk _, hbq⟩
            · go_roundw
              case rel => exact ⟨k + 1, _, by omega, by go_num, rfl, hbq⟩
              case measure => simp [intOf]; omega
    · go_wp2
      go_ret
      exact ⟨.mk _, hb⟩

end Go.Proofs.Qxb6616268a
