/-
  The walk of FnStructMemberAgreesWithFields (3).
-/
import Derived.Test.Qxb6616253aInv
import Derived.BigQuiet
namespace Go.Proofs.Qxb6616253a
open Go.RowKit Go.Maps Go.WideMaps
set_option linter.unusedVariables false
set_option linter.unusedSimpArgs false

theorem Try.info29 : (Try.prog.info? 29).map (fun i => (i.zero, i.size, i.bytes)) = some (some (.pointer none), 1, 8) := by kernel_rfl

theorem scalar_call (w : World) : Calls Try.prog 8 #[] w fun e w' => e = .returned (.pointer (some ⟨w.heap.size, 0, none⟩)) ∧ w.alloc (scal none) = w' := scalar_any w

/-- the cells that a round reads and writes -/
theorem Inv.reads {W wr : World} {gT gM n j : Nat} {ss : List ByteArray} {qs : Nat → Nat} {D : DataW Nat} {l : List Value} (h : Inv W wr gT gM n j ss qs D l) (hj : j < n) {b off : Nat} {s : Value} (hb : b < W.heap.size) (hc : W.cell? ⟨b, off, none⟩ = some s) :
    ∃ v0, (wr.alloc (scal none)).cell? ⟨gT, j, none⟩ = some v0 ∧ (wr.alloc (scal none)).frozen? ⟨gT, j, none⟩ = false ∧ ((wr.alloc (scal none)).setCell ⟨gT, j, none⟩ (.pointer (some ⟨wr.heap.size, 0, none⟩))).cell? ⟨b, off, none⟩ = some s ∧
      ((wr.alloc (scal none)).setCell ⟨gT, j, none⟩ (.pointer (some ⟨wr.heap.size, 0, none⟩))).cell? ⟨gT, j, none⟩ = some (.pointer (some ⟨wr.heap.size, 0, none⟩)) := by
  have o1 := h.row.own.alloc (scal none)
  obtain ⟨o2, g2⟩ := o1.stored j (.pointer (some ⟨wr.heap.size, 0, none⟩))
  have hl : j < l.length := by have := h.row.own.1; omega
  refine ⟨l[j], ?_, o1.frozenAt j, ?_, ?_⟩
  · rw [o1.cellAt j (by omega)]; exact List.getElem?_eq_getElem hl
  · have b2 : Below W.heap.size W _ := (h.below.alloc h.below.size (scal none)).setCell (p := ⟨gT, j, none⟩) h.lo.1 (.pointer (some ⟨wr.heap.size, 0, none⟩))
    exact (b2.cell (by exact hb)).trans hc
  · rw [o2.cellAt j (by omega), List.getElem?_set_self hl]

theorem Inv.elts {W wr : World} {gT gM n j : Nat} {ss : List ByteArray} {qs : Nat → Nat} {D : DataW Nat} {l : List Value} (h : Inv W wr gT gM n j ss qs D l) : Elts wr D (fun _ => none) := by
  intro kl hkl
  obtain ⟨i, hi, ha, _⟩ := h.map.elts kl hkl
  exact ⟨qs i, ha, h.blk i hi⟩

/-- behind Struct: the map and the row read as before -/
theorem Inv.frozen {W wr w5 : World} {gT gM n : Nat} {ss : List ByteArray} {qs : Nat → Nat} {D : DataW Nat} {l : List Value} (h : Inv W wr gT gM n n ss qs D l) (hb : Below wr.heap.size wr w5) :
    MapInv w5 gM n ss qs D ∧ ∀ k, k < n → w5.cell? ⟨gT, k, none⟩ = some (.pointer (some ⟨qs k, 0, none⟩)) := by
  have hg : wr.grownBy w5 none := ⟨hb.os, hb.tape, hb.output, hb.size, fun k hk _ => hb.block k hk⟩
  refine ⟨h.map.kept hg (by simp), fun k hk => ?_⟩
  rw [hb.cell (by exact (h.row.own.lt _ rfl).2), h.row.own.cellAt k (by omega)]
  exact h.row.tys k hk

theorem Try.some46 : (Try.prog.info? 46).isSome = true := by kernel_rfl
theorem eql_same (w : World) (a : Addr) : (binOp .eql 29 (.pointer (some a)) (.pointer (some a))).run Try.prog w = .ok (.bool true) w := by
  obtain ⟨j, hj⟩ := Option.isSome_iff_exists.1 Try.some46
  exact run_eql_ptr_same w a Try.underlying29 hj
theorem neq_same (w : World) (a : Addr) : (binOp .neq 29 (.pointer (some a)) (.pointer (some a))).run Try.prog w = .ok (.bool false) w := by
  obtain ⟨j, hj⟩ := Option.isSome_iff_exists.1 Try.some46
  have h : ∀ d : Nat, (Op.equalIn (d + 1) 29 (.pointer (some a)) (.pointer (some a))).run Try.prog w = .ok true w := fun d => by
    simp [Op.equalIn, run_underlying Try.underlying29, sizeOf, typeInfo, hj, run_sameAddr_same]
  simp only [binOp]
  simp [Op.equal, Op.maxDepth, h 9999]

theorem cell_heap {w w' : World} (h : w'.heap = w.heap) {a : Addr} : w'.cell? a = w.cell? a := by simp [World.cell?, h]
theorem own_heap {w w' : World} (h : w'.heap = w.heap) {k : TypeId} {R : Value → Option (DataW Nat × List MemPlace)} {b n : Nat} {D : DataW Nat} (own : w.ownsMap Try.prog k R b n D) : w'.ownsMap Try.prog k R b n D := by
  obtain ⟨es, c, hb, r⟩ := own
  exact ⟨es, c, by rw [h]; exact hb, r⟩
theorem Strs.heap {w w' : World} {ao : Option Addr} {n : Nat} {ss : List ByteArray} (hs : Strs w ao n ss) (h : w'.heap = w.heap) : Strs w' ao n ss := by
  intro i hi
  obtain ⟨b, off, rfl, hl, hc, hz⟩ := hs i hi
  exact ⟨b, off, rfl, by rw [h]; exact hl, (cell_heap h).trans hc, hz⟩

theorem last_ge (ss : List ByteArray) (s : ByteArray) (n : Nat) (j : Nat) (hj : j < n) (h : (ss.getD j ByteArray.empty).toList = s.toList) : (j : Int) ≤ lastTo ss s n := by
  induction n with
  | zero => omega
  | succ n ih =>
    unfold lastTo
    split
    · omega
    · rename_i hne
      by_cases e : j = n
      · subst e; exact absurd h hne
      · exact ih (by omega)

theorem last_mem (ss : List ByteArray) (n j : Nat) (hj : j < n) : ∃ k, k < n ∧ lastTo ss (ss.getD j ByteArray.empty) n = (k : Nat) := by
  have h1 := last_ge ss (ss.getD j ByteArray.empty) n j hj rfl
  have h2 := lastTo_bd ss (ss.getD j ByteArray.empty) n
  exact ⟨(lastTo ss (ss.getD j ByteArray.empty) n).toNat, by omega, by omega⟩

set_option maxHeartbeats 1000000 in
set_option maxRecDepth 100000 in
theorem member_main (ao : Option Addr) (n cap : Nat) (ss : List ByteArray) (p : ByteArray) (w : World) (hn : n ≤ 4096) (hp : p.size ≤ 1048576) (hnil : Hid (ao = none → n = 0 ∧ cap = 0)) (hs : Hid (Strs w ao n ss)) :
    Calls Try.prog 3 #[.slice ao n cap, .string p] w fun e w' => e = .returned (.bool true) ∧ Below w.heap.size w w' := by
  obtain ⟨i0, hi, hz0, hz1, hz2⟩ := info_parts Try.info29
  have hmm := @run_makeMap Try.prog
  have hne := neq_same
  have heq := eql_same
  go_enter Try.func3, Try.ntmps3
  go_wp2_with fail
  refine (zzBytes_any ao n cap ss p w (by unfold maxLen; omega) hs).mono ?_
  rintro e w' ⟨⟨r, rfl⟩, rfl⟩
  cases r with
  | false =>
    go_wp2
    go_ret
    exact ⟨rfl, Below.refl _ _⟩
  | true =>
    go_wp2_with fail
    refine (overBudget_any _ ao n cap ss w (by unfold maxLen; omega) hs).mono ?_
    rintro e w' ⟨⟨x, r, rfl⟩, rfl⟩
    cases r with
    | true =>
      go_wp2
      go_ret
      exact ⟨rfl, Below.refl _ _⟩
    | false =>
      go_wp2_with fail
      refine (cloneStrings_any ao n cap ss w (by omega) hnil hs).mono ?_
      rintro e W ⟨ao', cap', rfl, hs', hfr, hbW⟩
      have hsW : Hid (Strs W ao' n ss) := hs'
      clear hs hs' hnil hfr
      go_wp2_with (at_make; refine wpList_make_full _ rfl _ _ 27 rfl W.heap.size 29 i0 _ 1 Try.underlying27 hi hz0 hz1 _ _ _ _ n rfl rfl rfl rfl (by rw [hz2]; omega) (by unfold maxLen; omega) (Nat.le_refl _) ?_)
      intro w1 own1 gr1
      have hsz1 : W.heap.size < w1.heap.size := (own1.lt _ rfl).2
      have I0 : Inv W (w1.alloc (.map #[] 0)) W.heap.size w1.heap.size n 0 ss (fun _ => 0) (.map []) _ :=
        ⟨⟨own1.alloc _, fun i hi => by omega⟩, MapInv.start _ _ _, fun i hi => by omega, by omega, ⟨Nat.le_refl _, by omega⟩, ((Below.refl _ _).grown gr1 (Nat.le_refl _) (by simp)).alloc (by omega) _⟩
      clear own1 gr1
      go_wp2
      generalize w1.alloc (Obj.map #[] 0) = w2 at *
      generalize w1.heap.size = gM at *
      go_loopw [9] (fun i wr => ∃ (j : Nat) (qs : Nat → Nat) (D : DataW Nat) (l : List Value), j ≤ n ∧ i = .int .i64 j ∧ Inv W wr W.heap.size gM n j ss qs D l) (fun i _ => n - (intOf i).toNat)
      case atStart => exact ⟨0, _, _, _, Nat.zero_le _, rfl, I0⟩
      case round =>
        obtain ⟨j, qs, D, l, hj, rfl, I⟩ := hrel
        clear I0
        by_cases hlt : j < n
        · obtain ⟨b, off, rfl, hlb, hc, hz⟩ := hsW.out j hlt
          have hnj : (j : Int) < n := by omega
          obtain ⟨w3, hrun, I3⟩ := I.step hlt (by unfold maxLen; omega) hz
          obtain ⟨v0, hold, hfr, c0, c1⟩ := I.reads (b := b) (off := off + j) hlt hlb hc
          generalize ss.getD j ByteArray.empty = s at hrun c0 hz
          go_wp2_with (go_at_call 8; refine (scalar_call _).mono ?_; rintro e w' ⟨rfl, rfl⟩)
          have HI : Hid (Inv W w3 _ _ _ _ _ _ _ _) := I3
          clear hold hfr I I3 hc
          generalize (wr.alloc (scal none)).setCell ⟨W.heap.size, j, none⟩ (.pointer (some ⟨wr.heap.size, 0, none⟩)) = w4 at *
          generalize wr.heap.size = q at *
          go_region
          all_goals
            go_wp2
            go_roundw
            case rel => exact ⟨j + 1, _, _, _, by omega, by go_num, HI⟩
            case measure => simp [intOf]; omega
        · have hjn : n = j := by omega
          subst hjn
          clear hlt hj
          have hE : Hid (Elts wr D (fun _ => none)) := I.elts
          have hbw : Below w.heap.size w wr := hbW.trans (I.below.mono hbW.size)
          go_wp2_with fail
          refine (struct_any gM n D (fun _ => none) wr I.map.own hE).mono ?_
          rintro e w5 ⟨rfl, hb5, acc, -, hS⟩
          have J := I.frozen (w5 := w5) hb5
          have hs5 : Hid (Strs w5 ao' n ss) := (hsW.out.below I.below).below hb5
          have hbw5 : Below w.heap.size w w5 := hbw.trans (hb5.mono hbw.size)
          clear hE I hbw hsW hb5 hbW
          generalize wr.heap.size = S at *
          go_wp2
          go_loopw [11] (fun i wx => ∃ j : Nat, j ≤ n ∧ i = .int .i64 j ∧ Hid (∃ m, wx = w5.drewN m)) (fun i _ => n - (intOf i).toNat)
          case atStart => exact ⟨0, Nat.zero_le _, rfl, 0, rfl⟩
          case round =>
            obtain ⟨j, hj, rfl, HW⟩ := hrel
            have hhp : Hid (wr.heap = w5.heap) := by obtain ⟨m, e⟩ := HW.out; rw [e]; rfl
            by_cases hlt : j < n
            · obtain ⟨b, off, rfl, hlb, hc, hz⟩ := (hs5.out.heap hhp.out) j hlt
              have hnj : (j : Int) < n := by omega
              obtain ⟨k, hkn, hk⟩ := last_mem ss n j hlt
              obtain ⟨hh, hat⟩ := J.1.present _ k hz hk
              have ct : wr.cell? ⟨W.heap.size, k, none⟩ = _ := (cell_heap hhp.out).trans (J.2 k hkn)
              generalize ss.getD j ByteArray.empty = s at hc hz hk hh hat
              have HM : Hid (∀ mm, Calls Try.prog 10 #[.pointer (some ⟨S, 0, none⟩), .string s] (wr.drewN mm) fun e w' => e = .returned (.pointer (some ⟨qs k, 0, none⟩)) ∧ w' = wr.drewN mm) :=
                fun mm => member_any S gM n D s acc (wr.drewN mm) (by show wr.heap[S]? = _; rw [hhp.out]; exact hS) (own_heap (by show wr.heap = _; exact hhp.out) J.1.own) hz (some (qs k)) (Or.inr ⟨qs k, rfl, hh, hat⟩)
              have HL : Hid (∀ mm, Calls Try.prog 11 #[.slice (some ⟨b, off, none⟩) n cap', .string s] (wr.drewN mm) fun e w' => e = .returned (.int .i64 (k : Int)) ∧ w' = wr.drewN mm) :=
                fun mm => by rw [← hk]; exact lastIndex_any _ n cap' ss s (wr.drewN mm) (by unfold maxLen; omega) (hs5.out.heap (by show wr.heap = _; exact hhp.out))
              have hkn' : (k : Int) < n := by omega
              clear hk hh hat J
              go_wp2_with fail
              refine wp_region_quiet_lit (by kernel_rfl) (by kernel_rfl) ?_
              iterate 5 (go_big_quiet_step (fail))
              quiet_step ((go_at_call 10; exact Calls.quiet_of_same (HM.out _)))
              iterate 6 (go_big_quiet_step (fail))
              quiet_step ((go_at_call 11; exact Calls.quiet_of_same (HL.out _)))
              iterate 2 (go_big_quiet_step (fail))
              quiet_step (fail)
              refine wpQuiet_nil ?_
              intro _ hw'
              obtain ⟨nq, hw''⟩ := hw'
              subst hw''
              go_wp2
              go_roundw
              case rel => exact ⟨j + 1, by omega, by go_num, by obtain ⟨m, e⟩ := HW.out; exact ⟨m + nq, by rw [e, World.drewN_drewN]⟩⟩
              case measure => simp [intOf]; omega
            · have hpz : p.size ≤ maxLen := by unfold maxLen; omega
              have hsr : Hid (Strs wr ao' n ss) := hs5.out.heap hhp.out
              have hSr : wr.heap[S]? = some (.cells (tyC 1 (.map (some gM)) (.pointer none) false .nilIface acc) 46 (0, 0)) := by rw [hhp.out]; exact hS
              have hor := own_heap hhp.out J.1.own
              have hbl : Hid (Below w.heap.size w wr) := by obtain ⟨m, e⟩ := HW.out; rw [e]; exact ⟨hbw5.os, hbw5.tape, hbw5.output, hbw5.size, hbw5.block⟩
              have hbd := lastTo_bd ss p n
              by_cases hk0 : lastTo ss p n = -1
              · have hM : Hid (∀ w, w = wr → Calls Try.prog 10 #[.pointer (some ⟨S, 0, none⟩), .string p] w fun e w' => e = .returned (.pointer none) ∧ w = w') := by
                  rintro _ rfl
                  exact (member_any S gM n D p acc _ hSr hor hpz none (Or.inl ⟨rfl, J.1.absent p hpz hk0⟩)).mono fun e w' h => ⟨h.1, h.2.symm⟩
                have hL : Hid (∀ w, w = wr → Calls Try.prog 11 #[.slice ao' n cap', .string p] w fun e w' => e = .returned (.int .i64 (-1)) ∧ w = w') := by
                  rintro _ rfl
                  rw [← hk0]
                  exact (lastIndex_any _ n cap' ss p _ (by unfold maxLen; omega) hsr).mono fun e w' h => ⟨h.1, h.2.symm⟩
                clear hk0 hbd hor hSr hsr J hs5 hS hbw5
                go_wp2_with fail
                refine (hL.out _ rfl).mono ?_
                rintro e w' ⟨rfl, rfl⟩
                go_wp2_with fail
                refine (hM.out _ rfl).mono ?_
                rintro e w' ⟨rfl, rfl⟩
                go_wp2
                go_ret
                exact ⟨rfl, hbl⟩
              · obtain ⟨k, hk⟩ : ∃ k : Nat, lastTo ss p n = k := ⟨(lastTo ss p n).toNat, by omega⟩
                have hkn : k < n := by omega
                obtain ⟨hh, hat⟩ := J.1.present _ k hpz hk
                have ct : wr.cell? ⟨W.heap.size, k, none⟩ = _ := (cell_heap hhp.out).trans (J.2 k hkn)
                have hM : Hid (∀ w, w = wr → Calls Try.prog 10 #[.pointer (some ⟨S, 0, none⟩), .string p] w fun e w' => e = .returned (.pointer (some ⟨qs k, 0, none⟩)) ∧ w = w') := by
                  rintro _ rfl
                  exact (member_any S gM n D p acc _ hSr hor hpz (some (qs k)) (Or.inr ⟨qs k, rfl, hh, hat⟩)).mono fun e w' h => ⟨h.1, h.2.symm⟩
                have hL : Hid (∀ w, w = wr → Calls Try.prog 11 #[.slice ao' n cap', .string p] w fun e w' => e = .returned (.int .i64 (k : Int)) ∧ w = w') := by
                  rintro _ rfl
                  rw [← hk]
                  exact (lastIndex_any _ n cap' ss p _ (by unfold maxLen; omega) hsr).mono fun e w' h => ⟨h.1, h.2.symm⟩
                have hkn' : (k : Int) < n := by omega
                clear hk0 hbd hor hSr hsr J hs5 hS hbw5 hk hh hat
                go_wp2_with fail
                refine (hL.out _ rfl).mono ?_
                rintro e w' ⟨rfl, rfl⟩
                go_wp2_with fail
                refine (hM.out _ rfl).mono ?_
                rintro e w' ⟨rfl, rfl⟩
                go_wp2
                go_ret
                exact ⟨rfl, hbl⟩

end Go.Proofs.Qxb6616253a
