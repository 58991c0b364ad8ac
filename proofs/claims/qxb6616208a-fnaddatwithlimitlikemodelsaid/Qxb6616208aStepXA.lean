/-
  zzStep (30) at a limit, the count exact: alone; there already.
-/
import Derived.Test.Qxb6616208aStepM
namespace Go.Proofs.Qxb6616208a
open Go.RowKit
set_option linter.unusedVariables false
set_option linter.unusedSimpArgs false

set_option maxHeartbeats 2000000 in
set_option maxRecDepth 100000 in
theorem step_alone_x (lim : Int) (ga : Option Addr) (n gc : Nat) (held s : Int) (x : Pd) (ea : Option Addr) (en ec : Nat) (w : World) (hen : x.els.length = en) (hel : en ≤ 1048576) (hE : Hid (Els w ea x.els)) (hk : Hid (x.key = none)) :
    Calls Try.prog 30 #[.slice ga n gc, .int .i64 held, .int .i64 lim, .agg #[.string x.smsc, .int .i64 x.typ, .int .u8 x.fton, .int .u8 x.fnpi, .string x.fnum, .int .u8 x.tton, .int .u8 x.tnpi, .string x.tnum, .slice ea en ec], .int .i64 s] w fun e w' => e = .returned (stepOut ga n gc held 1 0 none 0 0) ∧ Below w.heap.size w w' := by
  have HE0 : Hid (Els ((w.alloc (.cells #[.string x.smsc, .int .i64 x.typ, .int .u8 x.fton, .int .u8 x.fnpi, .string x.fnum, .int .u8 x.tton, .int .u8 x.tnpi, .string x.tnum, .slice ea en ec] 79)).alloc (.cells #[.int .i64 0, .int .i64 0, .slice none 0 0] 83)) ea x.els) := hE.out.below (((Below.refl _ _).alloc (Nat.le_refl _) _).alloc (by simp) _)
  have HC : Hid (Calls Try.prog 45 #[.agg #[.string x.smsc, .int .i64 x.typ, .int .u8 x.fton, .int .u8 x.fnpi, .string x.fnum, .int .u8 x.tton, .int .u8 x.tnpi, .string x.tnum, .slice ea en ec]] ((w.alloc (.cells #[.string x.smsc, .int .i64 x.typ, .int .u8 x.fton, .int .u8 x.fnpi, .string x.fnum, .int .u8 x.tton, .int .u8 x.tnpi, .string x.tnum, .slice ea en ec] 79)).alloc (.cells #[.int .i64 0, .int .i64 0, .slice none 0 0] 83)) fun e w' => e = .returned (keyOut x.key) ∧ Below ((w.alloc (.cells #[.string x.smsc, .int .i64 x.typ, .int .u8 x.fton, .int .u8 x.fnpi, .string x.fnum, .int .u8 x.tton, .int .u8 x.tnpi, .string x.tnum, .slice ea en ec] 79)).alloc (.cells #[.int .i64 0, .int .i64 0, .slice none 0 0] 83)).heap.size ((w.alloc (.cells #[.string x.smsc, .int .i64 x.typ, .int .u8 x.fton, .int .u8 x.fnpi, .string x.fnum, .int .u8 x.tton, .int .u8 x.tnpi, .string x.tnum, .slice ea en ec] 79)).alloc (.cells #[.int .i64 0, .int .i64 0, .slice none 0 0] 83)) w') := zzKeyOf_any x ea en ec _ hen hel HE0
  have hb0 : Below w.heap.size w ((w.alloc (.cells #[.string x.smsc, .int .i64 x.typ, .int .u8 x.fton, .int .u8 x.fnpi, .string x.fnum, .int .u8 x.tton, .int .u8 x.tnpi, .string x.tnum, .slice ea en ec] 79)).alloc (.cells #[.int .i64 0, .int .i64 0, .slice none 0 0] 83)) := ((Below.refl _ _).alloc (Nat.le_refl _) _).alloc (by simp) _
  have hz0 : ((w.alloc (.cells #[.string x.smsc, .int .i64 x.typ, .int .u8 x.fton, .int .u8 x.fnpi, .string x.fnum, .int .u8 x.tton, .int .u8 x.tnpi, .string x.tnum, .slice ea en ec] 79)).alloc (.cells #[.int .i64 0, .int .i64 0, .slice none 0 0] 83)).heap[w.heap.size + 1]? = some (.cells #[.int .i64 0, .int .i64 0, .slice none 0 0] 83) := heap_alloc2_new _ _ _
  have hs0 : ((w.alloc (.cells #[.string x.smsc, .int .i64 x.typ, .int .u8 x.fton, .int .u8 x.fnpi, .string x.fnum, .int .u8 x.tton, .int .u8 x.tnpi, .string x.tnum, .slice ea en ec] 79)).alloc (.cells #[.int .i64 0, .int .i64 0, .slice none 0 0] 83)).heap.size = w.heap.size + 2 := by simp
  have H0 : Hid (Below w.heap.size w ((w.alloc (.cells #[.string x.smsc, .int .i64 x.typ, .int .u8 x.fton, .int .u8 x.fnpi, .string x.fnum, .int .u8 x.tton, .int .u8 x.tnpi, .string x.tnum, .slice ea en ec] 79)).alloc (.cells #[.int .i64 0, .int .i64 0, .slice none 0 0] 83)) ∧ ((w.alloc (.cells #[.string x.smsc, .int .i64 x.typ, .int .u8 x.fton, .int .u8 x.fnpi, .string x.fnum, .int .u8 x.tton, .int .u8 x.tnpi, .string x.tnum, .slice ea en ec] 79)).alloc (.cells #[.int .i64 0, .int .i64 0, .slice none 0 0] 83)).heap[w.heap.size + 1]? = some (.cells #[.int .i64 0, .int .i64 0, .slice none 0 0] 83) ∧ ((w.alloc (.cells #[.string x.smsc, .int .i64 x.typ, .int .u8 x.fton, .int .u8 x.fnpi, .string x.fnum, .int .u8 x.tton, .int .u8 x.tnpi, .string x.tnum, .slice ea en ec] 79)).alloc (.cells #[.int .i64 0, .int .i64 0, .slice none 0 0] 83)).heap.size = w.heap.size + 2) := ⟨hb0, hz0, hs0⟩
  clear hb0 hz0 hs0 HE0 hE
  go_enter Try.func30, Try.ntmps30
  go_wp2_with fail
  refine HC.out.mono ?_
  rintro e w1 ⟨rfl, hb1⟩
  have hbW : Hid (Below w.heap.size w w1) := H0.out.1.trans (hb1.mono (by rw [H0.out.2.2]; omega))
  have hz1 : w1.heap[w.heap.size + 1]? = some (.cells #[.int .i64 0, .int .i64 0, .slice none 0 0] 83) := (hb1.block _ (by rw [H0.out.2.2]; omega)).trans H0.out.2.1
  have hS1 : w.heap.size + 1 < w1.heap.size := (Array.getElem?_eq_some_iff.1 hz1).1
  have HZ : Hid (w1.heap[w.heap.size + 1]? = some (.cells #[.int .i64 0, .int .i64 0, .slice none 0 0] 83)) := hz1
  rw [hk.out]
  clear HC hb1 H0 hz1
  simp only [keyOut]
  have o0 : w1.cell? ⟨w.heap.size + 1, 0, none⟩ = some (.int .i64 0) := cell_of_row _ _ _ _ _ _ (HZ.out)
  have o1 : w1.cell? ⟨w.heap.size + 1, 1, none⟩ = some (.int .i64 0) := cell_of_row _ _ _ _ _ _ (HZ.out)
  have o2 : w1.cell? ⟨w.heap.size + 1, 2, none⟩ = some (.slice none 0 0) := cell_of_row _ _ _ _ _ _ (HZ.out)
  have of : ∀ k, w1.frozen? ⟨w.heap.size + 1, k, none⟩ = false := fun k => by simp [World.frozen?, (HZ.out)]
  go_wp2
  (try simp only [Exit.inBlock, Exit.then])
  refine bodyPost_ret (v := stepOut ga n gc held 1 0 none 0 0) ?_ rfl ⟨rfl, ?_⟩
  · rw [results_tmp_tmp_cell rfl]
    go_simp
    rfl
  · repeat' (first | with_reducible exact hbW.out | with_reducible refine Below.drew ?_ | with_reducible refine Below.setCell ?_ (by simp <;> omega) _ | with_reducible refine Below.alloc ?_ (by simp <;> omega) _)

set_option maxHeartbeats 4000000 in
set_option maxRecDepth 100000 in
theorem step_dup_x (lim : Int) (B : Nat) (ga : Option Addr) (n gc : Nat) (l : List GR) (D : List (List Int × List Int)) (held : Int) (s : Nat) (x : Pd) (ea : Option Addr) (en ec : Nat) (k : Key) (p : Int) (w : World) (hn : l.length = n) (hnl : n ≤ 4096) (hs : s ≤ 4096) (hBw : B ≤ w.heap.size) (hG : Hid (GW w B ga gc l D)) (hen : x.els.length = en) (hel : en ≤ 1048576) (hE : Hid (Els w ea x.els)) (hk : Hid (x.key = some (k, p))) (i : Nat) (y : GR) (d : List Int × List Int) (hi : l[i]? = some y) (hd : D[i]? = some d) (hyk : y.key = k) (hfirst : ∀ j z, j < i → l[j]? = some z → z.key ≠ k) (hlen : d.1.length ≤ 4096) (hdup : hasI d.1 p = true) :
    Calls Try.prog 30 #[.slice ga n gc, .int .i64 held, .int .i64 lim, .agg #[.string x.smsc, .int .i64 x.typ, .int .u8 x.fton, .int .u8 x.fnpi, .string x.fnum, .int .u8 x.tton, .int .u8 x.tnpi, .string x.tnum, .slice ea en ec], .int .i64 (s : Nat)] w fun e w' => e = .returned (stepOut ga n gc held 0 0 none 0 0) ∧ Below w.heap.size w w' := by
  have HYK0 : Hid (y.key = k) := hyk
  have HE0 : Hid (Els ((w.alloc (.cells #[.string x.smsc, .int .i64 x.typ, .int .u8 x.fton, .int .u8 x.fnpi, .string x.fnum, .int .u8 x.tton, .int .u8 x.tnpi, .string x.tnum, .slice ea en ec] 79)).alloc (.cells #[.int .i64 0, .int .i64 0, .slice none 0 0] 83)) ea x.els) := hE.out.below (((Below.refl _ _).alloc (Nat.le_refl _) _).alloc (by simp) _)
  have HC : Hid (Calls Try.prog 45 #[.agg #[.string x.smsc, .int .i64 x.typ, .int .u8 x.fton, .int .u8 x.fnpi, .string x.fnum, .int .u8 x.tton, .int .u8 x.tnpi, .string x.tnum, .slice ea en ec]] ((w.alloc (.cells #[.string x.smsc, .int .i64 x.typ, .int .u8 x.fton, .int .u8 x.fnpi, .string x.fnum, .int .u8 x.tton, .int .u8 x.tnpi, .string x.tnum, .slice ea en ec] 79)).alloc (.cells #[.int .i64 0, .int .i64 0, .slice none 0 0] 83)) fun e w' => e = .returned (keyOut x.key) ∧ Below ((w.alloc (.cells #[.string x.smsc, .int .i64 x.typ, .int .u8 x.fton, .int .u8 x.fnpi, .string x.fnum, .int .u8 x.tton, .int .u8 x.tnpi, .string x.tnum, .slice ea en ec] 79)).alloc (.cells #[.int .i64 0, .int .i64 0, .slice none 0 0] 83)).heap.size ((w.alloc (.cells #[.string x.smsc, .int .i64 x.typ, .int .u8 x.fton, .int .u8 x.fnpi, .string x.fnum, .int .u8 x.tton, .int .u8 x.tnpi, .string x.tnum, .slice ea en ec] 79)).alloc (.cells #[.int .i64 0, .int .i64 0, .slice none 0 0] 83)) w') := zzKeyOf_any x ea en ec _ hen hel HE0
  have hb0 : Below w.heap.size w ((w.alloc (.cells #[.string x.smsc, .int .i64 x.typ, .int .u8 x.fton, .int .u8 x.fnpi, .string x.fnum, .int .u8 x.tton, .int .u8 x.tnpi, .string x.tnum, .slice ea en ec] 79)).alloc (.cells #[.int .i64 0, .int .i64 0, .slice none 0 0] 83)) := ((Below.refl _ _).alloc (Nat.le_refl _) _).alloc (by simp) _
  have hz0 : ((w.alloc (.cells #[.string x.smsc, .int .i64 x.typ, .int .u8 x.fton, .int .u8 x.fnpi, .string x.fnum, .int .u8 x.tton, .int .u8 x.tnpi, .string x.tnum, .slice ea en ec] 79)).alloc (.cells #[.int .i64 0, .int .i64 0, .slice none 0 0] 83)).heap[w.heap.size + 1]? = some (.cells #[.int .i64 0, .int .i64 0, .slice none 0 0] 83) := heap_alloc2_new _ _ _
  have hs0 : ((w.alloc (.cells #[.string x.smsc, .int .i64 x.typ, .int .u8 x.fton, .int .u8 x.fnpi, .string x.fnum, .int .u8 x.tton, .int .u8 x.tnpi, .string x.tnum, .slice ea en ec] 79)).alloc (.cells #[.int .i64 0, .int .i64 0, .slice none 0 0] 83)).heap.size = w.heap.size + 2 := by simp
  have H0 : Hid (Below w.heap.size w ((w.alloc (.cells #[.string x.smsc, .int .i64 x.typ, .int .u8 x.fton, .int .u8 x.fnpi, .string x.fnum, .int .u8 x.tton, .int .u8 x.tnpi, .string x.tnum, .slice ea en ec] 79)).alloc (.cells #[.int .i64 0, .int .i64 0, .slice none 0 0] 83)) ∧ ((w.alloc (.cells #[.string x.smsc, .int .i64 x.typ, .int .u8 x.fton, .int .u8 x.fnpi, .string x.fnum, .int .u8 x.tton, .int .u8 x.tnpi, .string x.tnum, .slice ea en ec] 79)).alloc (.cells #[.int .i64 0, .int .i64 0, .slice none 0 0] 83)).heap[w.heap.size + 1]? = some (.cells #[.int .i64 0, .int .i64 0, .slice none 0 0] 83) ∧ ((w.alloc (.cells #[.string x.smsc, .int .i64 x.typ, .int .u8 x.fton, .int .u8 x.fnpi, .string x.fnum, .int .u8 x.tton, .int .u8 x.tnpi, .string x.tnum, .slice ea en ec] 79)).alloc (.cells #[.int .i64 0, .int .i64 0, .slice none 0 0] 83)).heap.size = w.heap.size + 2) := ⟨hb0, hz0, hs0⟩
  clear hb0 hz0 hs0 HE0 hE
  go_enter Try.func30, Try.ntmps30
  go_wp2_with fail
  refine HC.out.mono ?_
  rintro e w1 ⟨rfl, hb1⟩
  have hbW : Hid (Below w.heap.size w w1) := H0.out.1.trans (hb1.mono (by rw [H0.out.2.2]; omega))
  have hz1 : w1.heap[w.heap.size + 1]? = some (.cells #[.int .i64 0, .int .i64 0, .slice none 0 0] 83) := (hb1.block _ (by rw [H0.out.2.2]; omega)).trans H0.out.2.1
  have hS1 : w.heap.size + 1 < w1.heap.size := (Array.getElem?_eq_some_iff.1 hz1).1
  have HZ : Hid (w1.heap[w.heap.size + 1]? = some (.cells #[.int .i64 0, .int .i64 0, .slice none 0 0] 83)) := hz1
  rw [hk.out]
  clear HC hb1 H0 hz1
  simp only [keyOut]
  have HN : Hid (l.length = n) := hn
  clear hn hk
  have hGW1 : Hid (GW w1 B ga gc l D) := hG.out.below hbW.out
  have heq := eq73
  go_wp2
  have HK : Hid ((w1.alloc (.cells #[.int .i64 k.typ, .int .u8 k.ton, .int .u8 k.npi, .string k.num, .int .i64 k.ref, .int .i64 k.tot] 73)).heap[w1.heap.size]? = some (.cells #[.int .i64 k.typ, .int .u8 k.ton, .int .u8 k.npi, .string k.num, .int .i64 k.ref, .int .i64 k.tot] 73)) := heap_alloc_new _ _
  have HBW : Hid (Below w1.heap.size w1 (w1.alloc (.cells #[.int .i64 k.typ, .int .u8 k.ton, .int .u8 k.npi, .string k.num, .int .i64 k.ref, .int .i64 k.tot] 73))) := (Below.refl _ _).alloc (Nat.le_refl _) _
  generalize (w1.alloc (.cells #[.int .i64 k.typ, .int .u8 k.ton, .int .u8 k.npi, .string k.num, .int .i64 k.ref, .int .i64 k.tot] 73)) = w2 at *
  go_loopw [16, 17] (fun v i wr => ∃ j : Nat, j ≤ n ∧ i = .int .i64 j ∧ v = .int .i64 (-1) ∧ Hid (∀ j' z, j' < j → l[j']? = some z → z.key ≠ k) ∧ Hid (Below w1.heap.size w1 wr ∧ wr.heap[w1.heap.size]? = some (.cells #[.int .i64 k.typ, .int .u8 k.ton, .int .u8 k.npi, .string k.num, .int .i64 k.ref, .int .i64 k.tot] 73))) (fun _ i _ => n - (intOf i).toNat)
  case atStart => exact ⟨0, Nat.zero_le _, rfl, rfl, fun j' z h => by omega, HBW, HK⟩
  case round =>
    obtain ⟨j, hj, rfl, rfl, hno, HX⟩ := hrel
    clear HBW HK
    have k0 : wr.cell? ⟨w1.heap.size, 0, none⟩ = some (.int .i64 k.typ) := cell_of_row _ _ _ _ _ _ HX.out.2
    have k1 : wr.cell? ⟨w1.heap.size, 1, none⟩ = some (.int .u8 k.ton) := cell_of_row _ _ _ _ _ _ HX.out.2
    have k2 : wr.cell? ⟨w1.heap.size, 2, none⟩ = some (.int .u8 k.npi) := cell_of_row _ _ _ _ _ _ HX.out.2
    have k3 : wr.cell? ⟨w1.heap.size, 3, none⟩ = some (.string k.num) := cell_of_row _ _ _ _ _ _ HX.out.2
    have k4 : wr.cell? ⟨w1.heap.size, 4, none⟩ = some (.int .i64 k.ref) := cell_of_row _ _ _ _ _ _ HX.out.2
    have k5 : wr.cell? ⟨w1.heap.size, 5, none⟩ = some (.int .i64 k.tot) := cell_of_row _ _ _ _ _ _ HX.out.2
    by_cases hlt : j < n
    · obtain ⟨z, hz⟩ : ∃ z, l[j]? = some z := ⟨_, List.getElem?_eq_getElem (by have := HN.out; omega)⟩
      have hjn : (j : Int) < n := by omega
      obtain ⟨g, rfl, hgl, hgB, hrg⟩ := hGW1.out.row.at hz
      have HR : Hid (wr.rangeAt g (j * 9) z.cells) := fun jj v hv => (HX.out.1.cell (by exact hgl)).trans (hrg jj v hv)
      obtain ⟨c0, c1, c2, c3, c4, c5, -, -, -⟩ := GR.c HR.out
      by_cases hji : j = i
      · subst hji
        rw [hi] at hz
        cases hz
        have hsame : (y.key.same k) = true := Key.same_iff.2 hyk
        have HYK : Hid (y.key = k) := hyk
        clear hno hfirst hyk hrg
        go_wp2
        go_quiet (fail)
        clear c0 c1 c2 c3 c4 c5 hsame heq
        have HX3 : Hid (Below w1.heap.size w1 (wr.drewN nq) ∧ (wr.drewN nq).heap[w1.heap.size]? = some (.cells #[.int .i64 k.typ, .int .u8 k.ton, .int .u8 k.npi, .string k.num, .int .i64 k.ref, .int .i64 k.tot] 73)) := ⟨below_drewN HX.out.1 _, HX.out.2⟩
        clear HX HR k0 k1 k2 k3 k4 k5
        generalize wr.drewN nq = w3 at *
        have hG3 : Hid (GW w3 B (some ⟨g, 0, none⟩) gc l D) := hGW1.out.below HX3.out.1
        obtain ⟨yn, ym, op, oi⟩ := hG3.out.ok j y d hi hd
        obtain ⟨g', rfl', hgl3, hgB3, hrg3⟩ := hG3.out.row.at hi
        cases rfl'
        obtain ⟨-, -, -, -, -, -, c6, c7, c8⟩ := GR.c hrg3
        have HP : Hid (IRow w3 y.pa d.1) := own_irow op
        have HO : Hid (w3.ownsRow B 3 1 (.slice y.pa y.n y.pc) y.n (ints d.1) ∧ w3.ownsRow B 3 1 (.slice y.ia y.m y.ic) y.m (ints d.2)) := ⟨op, oi⟩
        clear op oi hrg3
        have HYN : Hid (y.n = d.1.length ∧ y.m = d.2.length) := ⟨yn, ym⟩
        have hyl : y.n ≤ 4096 := by rw [yn]; exact hlen
        have HH : Hid (Calls Try.prog 46 #[.slice y.pa y.n y.pc, .int .i64 p] w3 fun e w' => e = .returned (.bool (hasI d.1 p)) ∧ w3 = w') := zzHasPart_any y.pa y.n y.pc d.1 p w3 yn.symm (by omega) HP
        clear yn ym
        have hbT : Hid (Below w.heap.size w w3) := hbW.out.trans (HX3.out.1.mono hbW.out.size)
        have hz3 : w3.heap[w.heap.size + 1]? = some (.cells #[.int .i64 0, .int .i64 0, .slice none 0 0] 83) := (HX3.out.1.block _ hS1).trans HZ.out
        have hk3 := HX3.out.2
        have hS3 : w1.heap.size < w3.heap.size := (Array.getElem?_eq_some_iff.1 hk3).1
        have hS4 : w.heap.size + 1 < w3.heap.size := by omega
        have hS5 : w.heap.size < w3.heap.size := by omega
        have HZ3 : Hid (w3.heap[w.heap.size + 1]? = some (.cells #[.int .i64 0, .int .i64 0, .slice none 0 0] 83) ∧ w3.heap[w1.heap.size]? = some (.cells #[.int .i64 k.typ, .int .u8 k.ton, .int .u8 k.npi, .string k.num, .int .i64 k.ref, .int .i64 k.tot] 73)) := ⟨hz3, hk3⟩
        clear hz3 hk3
        go_wp2_with fail
        refine HH.out.mono ?_
        rintro e w' ⟨rfl, rfl⟩
        rw [hdup]
        clear HH
        have o0 : w3.cell? ⟨w.heap.size + 1, 0, none⟩ = some (.int .i64 0) := cell_of_row _ _ _ _ _ _ (HZ3.out.1)
        have o1 : w3.cell? ⟨w.heap.size + 1, 1, none⟩ = some (.int .i64 0) := cell_of_row _ _ _ _ _ _ (HZ3.out.1)
        have o2 : w3.cell? ⟨w.heap.size + 1, 2, none⟩ = some (.slice none 0 0) := cell_of_row _ _ _ _ _ _ (HZ3.out.1)
        have of : ∀ k, w3.frozen? ⟨w.heap.size + 1, k, none⟩ = false := fun k => by simp [World.frozen?, (HZ3.out.1)]
        go_wp2
        (try simp only [Exit.inBlock, Exit.then])
        refine bodyPost_ret (v := stepOut (some ⟨g, 0, none⟩) n gc held 0 0 none 0 0) ?_ rfl ⟨rfl, ?_⟩
        · rw [results_tmp_tmp_cell rfl]
          go_simp
          rfl
        · repeat' (first | with_reducible exact hbT.out | with_reducible refine Below.drew ?_ | with_reducible refine Below.setCell ?_ (by simp <;> omega) _ | with_reducible refine Below.alloc ?_ (by simp <;> omega) _)
      · have hji' : j < i := by
          rcases Nat.lt_or_ge j i with h | h
          · exact h
          · exact absurd HYK0.out (hno.out i y (by omega) hi)
        have hsame : (z.key.same k) = false := Bool.eq_false_iff.2 fun h => hfirst j z hji' hz (Key.same_iff.1 h)
        have hno2 : Hid (∀ j' z', j' < j + 1 → l[j']? = some z' → z'.key ≠ k) := fun j' z' h1 h2 => by
          rcases Nat.lt_or_ge j' j with h | h
          · exact hno.out j' z' h h2
          · obtain rfl : j' = j := by omega
            rw [hz] at h2; cases h2
            exact hfirst j' z hji' hz
        clear hno hfirst hrg hyk
        go_wp2
        go_quiet (fail)
        go_wp2
        go_roundw
        case rel => exact ⟨j + 1, by omega, by go_num, rfl, hno2, below_drewN HX.out.1 _, HX.out.2⟩
        case measure => simp [intOf]; omega
    · exact absurd HYK0.out (hno.out i y (by have := HN.out; have := (List.getElem?_eq_some_iff.1 hi).1; omega) hi)

end Go.Proofs.Qxb6616208a
