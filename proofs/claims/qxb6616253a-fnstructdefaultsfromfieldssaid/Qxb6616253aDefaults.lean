/-
  The walk of FnStructDefaultsFromFields (4).
-/
import Derived.Test.Qxb6616253aDefBase
import Derived.Deep.RegionWith
namespace Go.Proofs.Qxb6616253a
open Go.RowKit Go.Maps Go.WideMaps
set_option linter.unusedVariables false
set_option linter.unusedSimpArgs false

set_option maxHeartbeats 2000000 in
set_option maxRecDepth 100000 in
theorem defaults_main (ao : Option Addr) (n cap : Nat) (ss : List ByteArray) (am : Option Addr) (nm capm : Nat) (bs : Nat → Bool) (w : World) (hn : n ≤ 4096) (hnm : nm ≤ 65536) (hnil : Hid (ao = none → n = 0 ∧ cap = 0)) (hnilm : Hid (am = none → nm = 0 ∧ capm = 0)) (hs : Hid (Strs w ao n ss)) (hm : Hid (Bools w am nm bs)) :
    Calls Try.prog 4 #[.slice ao n cap, .slice am nm capm] w fun e w' => e = .returned (.bool true) ∧ Below w.heap.size w w' := by
  have hmm := @run_makeMap Try.prog
  go_enter Try.func4, Try.ntmps4
  go_wp2_with fail
  refine (zzBytes12_any ao n cap ss am nm capm w (by unfold maxLen; omega) (by unfold maxLen; omega) hs).mono ?_
  rintro e w' ⟨⟨r, rfl⟩, rfl⟩
  cases r with
  | false =>
    go_wp2
    go_ret
    exact ⟨rfl, Below.refl _ _⟩
  | true =>
    go_wp2_with fail
    refine (overBudget_any _ ao n cap ss w (by unfold maxLen; omega) hs).mono ?_
    rintro e w' ⟨⟨x, r, rfl⟩, rfl⟩
    cases r with
    | true =>
      go_wp2
      go_ret
      exact ⟨rfl, Below.refl _ _⟩
    | false =>
      go_wp2_with fail
      refine (cloneStrings_any ao n cap ss w (by omega) hnil hs).mono ?_
      rintro e W1 ⟨ao', cap', rfl, hs', -, hbW1⟩
      have hm1 : Hid (Bools W1 am nm bs) := hm.out.below hbW1
      clear hs hm hnil
      go_wp2_with fail
      refine (cloneBools_any am nm capm bs W1 (by omega) hnilm hm1).mono ?_
      rintro e W ⟨am', capm', rfl, hm', hbW2⟩
      have hsW : Hid (Strs W ao' n ss) := hs'.below hbW2
      have hmW : Hid (Bools W am' nm bs) := hm'
      have hbW : Below w.heap.size w W := hbW1.trans (hbW2.mono hbW1.size)
      clear hs' hm' hm1 hnilm hbW1 hbW2
      obtain ⟨mk, hmk⟩ : ∃ mk : Nat → Bool, Hid (mk = fun i => decide (i < nm) && bs i) := ⟨_, rfl⟩
      have I0 : DInv W (W.alloc (.map #[] 0)) W.heap.size 0 ss mk (fun _ => 0) (.map []) :=
        ⟨MapInv.start _ _ _, fun i hi => by omega, Nat.le_refl _, (Below.refl _ _).alloc (Nat.le_refl _) _⟩
      go_wp2
      generalize W.alloc (Obj.map #[] 0) = w2 at *
      have hW0 : Hid (false = true ↔ Want ss mk n 0) := ⟨fun h => (by cases h), fun ⟨i, hi, _⟩ => by omega⟩
      go_loopw [8, 9, 10] (fun v i _ wr => ∃ (j : Nat) (wn : Bool) (qs : Nat → Nat) (D : DataW Nat), j ≤ n ∧ i = .int .i64 j ∧ v = .bool wn ∧ Hid (wn = true ↔ Want ss mk n j) ∧ DInv W wr W.heap.size j ss mk qs D) (fun _ i _ _ => n - (intOf i).toNat)
      case atStart => exact ⟨0, false, _, _, Nat.zero_le _, rfl, rfl, hW0, I0⟩
      case round =>
        obtain ⟨j, wn, qs, D, hj, rfl, rfl, hwn, I⟩ := hrel
        clear I0 hW0
        by_cases hlt : j < n
        · obtain ⟨b, off, rfl, hlb, hc, hz⟩ := hsW.out j hlt
          have hnj : (j : Int) < n := by omega
          rw [← I.below.cell (by exact hlb)] at hc
          by_cases hA : mk j = true
          · have hA' : j < nm ∧ bs j = true := by have h := hA; rw [hmk.out] at h; simpa using h
            obtain ⟨hjm, hbj⟩ := hA'
            obtain ⟨b2, off2, rfl, hlb2, hc2⟩ := hmW.out j hjm
            rw [← I.below.cell (by exact hlb2), hbj] at hc2
            have hjm' : (j : Int) < nm := by omega
            obtain ⟨w3, hrun, I3⟩ := I.step (by unfold maxLen; omega) hz (some (ss.getD j ByteArray.empty)) (by simp [hA])
            have hL : Hid (Calls Try.prog 11 #[.slice (some ⟨b, off, none⟩) n cap', .string (ss.getD j ByteArray.empty)] w3 fun e w' => e = .returned (.int .i64 (lastTo ss (ss.getD j ByteArray.empty) n)) ∧ w3 = w') :=
              (lastIndex_any _ n cap' ss (ss.getD j ByteArray.empty) w3 (by unfold maxLen; omega) (hsW.out.below I3.below)).mono fun e w' h => ⟨h.1, h.2.symm⟩
            have hc3 : w3.cell? ⟨b, off + j, none⟩ = some (.string (ss.getD j ByteArray.empty)) := by
              obtain ⟨b', off', e', _, h', _⟩ := (hsW.out.below I3.below) j hlt
              cases e'; exact h'
            have hbw : b < wr.heap.size := Nat.lt_of_lt_of_le hlb I.below.size
            have HI : Hid (DInv W w3 _ _ _ _ _ _) := I3
            have HW : Hid ((lastTo ss (ss.getD j ByteArray.empty) n = (j : Int) → (true = true ↔ Want ss mk n (j + 1))) ∧ (lastTo ss (ss.getD j ByteArray.empty) n ≠ (j : Int) → (wn = true ↔ Want ss mk n (j + 1)))) :=
              ⟨fun h => want_step_yes hwn hA h, fun h => want_step_no hwn fun h' => h h'.2⟩
            clear I I3 hbj hA hsW hmW
            generalize ss.getD j ByteArray.empty = s at *
            go_wp2_with fail
            go_region_with (go_at_call 14; refine (withDefault_any _ _).mono ?_; rintro e w' ⟨rfl, rfl⟩)
            all_goals
              clear hrun hc hc2 hbw
              cases hq : (lastTo ss s n == (j : Int)) with
              | true =>
                have H1 := HW.out.1 (beq_iff_eq.1 hq)
                have H2 : Hid (_ ↔ _) := H1
                clear H1
                go_wp2_with (go_at_call 11; refine hL.out.mono ?_; rintro e w' ⟨rfl, rfl⟩)
                go_roundw
                case rel => exact ⟨j + 1, true, _, _, by omega, by go_num, rfl, ⟨fun _ => H2.out.1 trivial, fun _ => rfl⟩, HI⟩
                case measure => simp [intOf]; omega
              | false =>
                have H1 := HW.out.2 (beq_eq_false_iff_ne.1 hq)
                have H2 : Hid (_ ↔ _) := H1
                clear H1
                go_wp2_with (go_at_call 11; refine hL.out.mono ?_; rintro e w' ⟨rfl, rfl⟩)
                go_roundw
                case rel => exact ⟨j + 1, wn, _, _, by omega, by go_num, rfl, H2, HI⟩
                case measure => simp [intOf]; omega
          · obtain ⟨w3, hrun, I3⟩ := I.step (by unfold maxLen; omega) hz none (by simp [hA])
            have hbw : b < wr.heap.size := Nat.lt_of_lt_of_le hlb I.below.size
            have HI : Hid (DInv W w3 _ _ _ _ _ _) := I3
            have HW : Hid (wn = true ↔ Want ss mk n (j + 1)) := want_step_no hwn fun h' => hA h'.1
            by_cases hjm : j < nm
            · obtain ⟨b2, off2, rfl, hlb2, hc2⟩ := hmW.out j hjm
              have hbj : bs j = false := by rw [hmk.out] at hA; simpa [hjm] using hA
              rw [← I.below.cell (by exact hlb2), hbj] at hc2
              have hjm' : (j : Int) < nm := by omega
              clear I I3 hbj hA hsW hmW
              generalize ss.getD j ByteArray.empty = s at *
              go_wp2_with fail
              go_region_with (go_at_call 8; refine (scalarD_call _).mono ?_; rintro e w' ⟨rfl, rfl⟩)
              all_goals
                clear hrun hc hc2 hbw
                go_wp2
                go_roundw
                case rel => exact ⟨j + 1, wn, _, _, by omega, by go_num, rfl, HW, HI⟩
                case measure => simp [intOf]; omega
            · have hjm' : decide ((j : Int) < (nm : Int)) = false := by simp; omega
              clear I I3 hA hsW hmW
              generalize ss.getD j ByteArray.empty = s at *
              go_wp2_with fail
              go_region_with (go_at_call 8; refine (scalarD_call _).mono ?_; rintro e w' ⟨rfl, rfl⟩)
              all_goals
                clear hrun hc hbw
                go_wp2
                go_roundw
                case rel => exact ⟨j + 1, wn, _, _, by omega, by go_num, rfl, HW, HI⟩
                case measure => simp [intOf]; omega
        · have hjn : n = j := by omega
          subst hjn
          clear hlt hj
          have hE : Hid (Elts wr D (dfOf wr)) := I.elts
          have hbw : Below w.heap.size w wr := hbW.trans (I.below.mono hbW.size)
          have hfin : Hid (SomeDf D (dfOf wr) (fun _ => true) ↔ wn = true) := (I.want fun i hi => by obtain ⟨_, _, _, _, _, h⟩ := hsW.out i hi; exact h).trans hwn.out.symm
          go_wp2_with fail
          refine (struct_any W.heap.size n D (dfOf wr) wr I.map.own hE).mono ?_
          rintro e w5 ⟨rfl, hb5, acc, hacc, hS⟩
          have hbw5 : Below w.heap.size w w5 := hbw.trans (hb5.mono hbw.size)
          obtain rfl : acc = wn := by
            have h := hacc.trans hfin.out
            cases acc <;> cases wn <;> simp at h <;> rfl
          clear hE hbw hsW hmW hb5 hbW hfin hwn hacc I hmk
          have c5 : w5.cell? ⟨wr.heap.size, 17, none⟩ = some (.bool acc) := cell_of_row w5 wr.heap.size 17 _ 46 (0, 0) hS
          have hlt5 : wr.heap.size < w5.heap.size := (Array.getElem?_eq_some_iff.1 hS).1
          clear hS
          generalize wr.heap.size = S at *
          go_wp2_with fail
          refine (map_any S acc w5 c5).mono ?_
          rintro e w6 ⟨rfl, rfl⟩
          have c6 : (w5.alloc (wrapC 2 S false acc)).cell? ⟨S, 17, none⟩ = some (.bool acc) := (World.cell?_alloc_lt w5 _ _ (by exact hlt5)).trans c5
          have d6 : (w5.alloc (wrapC 2 S false acc)).cell? ⟨w5.heap.size, 17, none⟩ = some (.bool acc) := cell_of_row _ _ 17 _ 46 (0, 0) (heap_alloc_new w5 _)
          have s6 : (w5.alloc (wrapC 2 S false acc)).heap.size = w5.heap.size + 1 := by simp
          have b6 : Below w.heap.size w (w5.alloc (wrapC 2 S false acc)) := hbw5.alloc hbw5.size _
          clear c5
          generalize hw6 : w5.alloc (wrapC 2 S false acc) = w6 at *
          clear hw6
          go_wp2_with fail
          refine (list_any S acc w6 c6).mono ?_
          rintro e w7 ⟨rfl, rfl⟩
          have c7 : (w6.alloc (wrapC 3 S true acc)).cell? ⟨S, 17, none⟩ = some (.bool acc) := (World.cell?_alloc_lt w6 _ _ (by show S < _; omega)).trans c6
          have d7 : (w6.alloc (wrapC 3 S true acc)).cell? ⟨w5.heap.size, 17, none⟩ = some (.bool acc) := (World.cell?_alloc_lt w6 _ _ (by show w5.heap.size < _; omega)).trans d6
          have e7 : (w6.alloc (wrapC 3 S true acc)).cell? ⟨w6.heap.size, 17, none⟩ = some (.bool acc) := cell_of_row _ _ 17 _ 46 (0, 0) (heap_alloc_new w6 _)
          have b7 : Hid (Below w.heap.size w (w6.alloc (wrapC 3 S true acc))) := b6.alloc b6.size _
          clear c6 d6 b6 s6 hlt5 hbw5
          generalize w6.alloc (wrapC 3 S true acc) = w7 at *
          generalize w5.heap.size = M at *
          generalize w6.heap.size = L at *
          cases acc
          all_goals
            go_wp2_with (first
              | (go_at_call_of 17 (Value.pointer (some (Addr.mk S 0 none))); refine (defaults_any S _ w7 c7).mono ?_; rintro e w' ⟨rfl, rfl⟩)
              | (go_at_call_of 17 (Value.pointer (some (Addr.mk M 0 none))); refine (defaults_any M _ w7 d7).mono ?_; rintro e w' ⟨rfl, rfl⟩)
              | (go_at_call_of 17 (Value.pointer (some (Addr.mk L 0 none))); refine (defaults_any L _ w7 e7).mono ?_; rintro e w' ⟨rfl, rfl⟩))
            go_ret
            exact ⟨rfl, b7⟩

end Go.Proofs.Qxb6616253a
