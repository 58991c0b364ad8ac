/-
  zzStep (30) at limit 0: a new group.
-/
import Derived.Test.Qxb6616208aStepB
import Derived.Deep.RegionWith
import Derived.Deep.CutRange
namespace Go.Proofs.Qxb6616208a
open Go.RowKit
set_option linter.unusedVariables false
set_option linter.unusedSimpArgs false

def x0 (k : Key) : GR := ⟨k, 0, none, 0, 0, none, 0, 0⟩

set_option maxHeartbeats 4000000 in
set_option maxRecDepth 100000 in
theorem step_new (B : Nat) (ga : Option Addr) (n gc : Nat) (l : List GR) (D : List (List Int × List Int)) (held : Int) (s : Nat) (x : Pd) (ea : Option Addr) (en ec : Nat) (k : Key) (p : Int) (w : World) (hn : l.length = n) (hnl : n ≤ 4096) (hs : s ≤ 4096) (hBw : B ≤ w.heap.size) (hG : Hid (GW w B ga gc l D)) (hen : x.els.length = en) (hel : en ≤ 1048576) (hE : Hid (Els w ea x.els)) (hk : Hid (x.key = some (k, p))) (hnone : ∀ z ∈ l, z.key ≠ k) (hnt : (1 : Int) ≠ k.tot) :
    Calls Try.prog 30 #[.slice ga n gc, .int .i64 held, .int .i64 0, .agg #[.string x.smsc, .int .i64 x.typ, .int .u8 x.fton, .int .u8 x.fnpi, .string x.fnum, .int .u8 x.tton, .int .u8 x.tnpi, .string x.tnum, .slice ea en ec], .int .i64 (s : Nat)] w fun e w' => (∃ h' ga' gc', e = .returned (stepOut ga' (n + 1) gc' h' 0 0 none 0 0) ∧ GI w' B ga' gc' (l.map GR.kt ++ [(k, (s : Int))]) (D ++ [([p], [(s : Int)])])) ∧ Fr isG B w w' := by
  have HE0 : Hid (Els ((w.alloc (.cells #[.string x.smsc, .int .i64 x.typ, .int .u8 x.fton, .int .u8 x.fnpi, .string x.fnum, .int .u8 x.tton, .int .u8 x.tnpi, .string x.tnum, .slice ea en ec] 79)).alloc (.cells #[.int .i64 0, .int .i64 0, .slice none 0 0] 83)) ea x.els) := hE.out.below (((Below.refl _ _).alloc (Nat.le_refl _) _).alloc (by simp) _)
  have HC : Hid (Calls Try.prog 45 #[.agg #[.string x.smsc, .int .i64 x.typ, .int .u8 x.fton, .int .u8 x.fnpi, .string x.fnum, .int .u8 x.tton, .int .u8 x.tnpi, .string x.tnum, .slice ea en ec]] ((w.alloc (.cells #[.string x.smsc, .int .i64 x.typ, .int .u8 x.fton, .int .u8 x.fnpi, .string x.fnum, .int .u8 x.tton, .int .u8 x.tnpi, .string x.tnum, .slice ea en ec] 79)).alloc (.cells #[.int .i64 0, .int .i64 0, .slice none 0 0] 83)) fun e w' => e = .returned (keyOut x.key) ∧ Below ((w.alloc (.cells #[.string x.smsc, .int .i64 x.typ, .int .u8 x.fton, .int .u8 x.fnpi, .string x.fnum, .int .u8 x.tton, .int .u8 x.tnpi, .string x.tnum, .slice ea en ec] 79)).alloc (.cells #[.int .i64 0, .int .i64 0, .slice none 0 0] 83)).heap.size ((w.alloc (.cells #[.string x.smsc, .int .i64 x.typ, .int .u8 x.fton, .int .u8 x.fnpi, .string x.fnum, .int .u8 x.tton, .int .u8 x.tnpi, .string x.tnum, .slice ea en ec] 79)).alloc (.cells #[.int .i64 0, .int .i64 0, .slice none 0 0] 83)) w') := zzKeyOf_any x ea en ec _ hen hel HE0
  have hb0 : Below w.heap.size w ((w.alloc (.cells #[.string x.smsc, .int .i64 x.typ, .int .u8 x.fton, .int .u8 x.fnpi, .string x.fnum, .int .u8 x.tton, .int .u8 x.tnpi, .string x.tnum, .slice ea en ec] 79)).alloc (.cells #[.int .i64 0, .int .i64 0, .slice none 0 0] 83)) := ((Below.refl _ _).alloc (Nat.le_refl _) _).alloc (by simp) _
  have hz0 : ((w.alloc (.cells #[.string x.smsc, .int .i64 x.typ, .int .u8 x.fton, .int .u8 x.fnpi, .string x.fnum, .int .u8 x.tton, .int .u8 x.tnpi, .string x.tnum, .slice ea en ec] 79)).alloc (.cells #[.int .i64 0, .int .i64 0, .slice none 0 0] 83)).heap[w.heap.size + 1]? = some (.cells #[.int .i64 0, .int .i64 0, .slice none 0 0] 83) := heap_alloc2_new _ _ _
  have hs0 : ((w.alloc (.cells #[.string x.smsc, .int .i64 x.typ, .int .u8 x.fton, .int .u8 x.fnpi, .string x.fnum, .int .u8 x.tton, .int .u8 x.tnpi, .string x.tnum, .slice ea en ec] 79)).alloc (.cells #[.int .i64 0, .int .i64 0, .slice none 0 0] 83)).heap.size = w.heap.size + 2 := by simp
  have H0 : Hid (Below w.heap.size w ((w.alloc (.cells #[.string x.smsc, .int .i64 x.typ, .int .u8 x.fton, .int .u8 x.fnpi, .string x.fnum, .int .u8 x.tton, .int .u8 x.tnpi, .string x.tnum, .slice ea en ec] 79)).alloc (.cells #[.int .i64 0, .int .i64 0, .slice none 0 0] 83)) ∧ ((w.alloc (.cells #[.string x.smsc, .int .i64 x.typ, .int .u8 x.fton, .int .u8 x.fnpi, .string x.fnum, .int .u8 x.tton, .int .u8 x.tnpi, .string x.tnum, .slice ea en ec] 79)).alloc (.cells #[.int .i64 0, .int .i64 0, .slice none 0 0] 83)).heap[w.heap.size + 1]? = some (.cells #[.int .i64 0, .int .i64 0, .slice none 0 0] 83) ∧ ((w.alloc (.cells #[.string x.smsc, .int .i64 x.typ, .int .u8 x.fton, .int .u8 x.fnpi, .string x.fnum, .int .u8 x.tton, .int .u8 x.tnpi, .string x.tnum, .slice ea en ec] 79)).alloc (.cells #[.int .i64 0, .int .i64 0, .slice none 0 0] 83)).heap.size = w.heap.size + 2) := ⟨hb0, hz0, hs0⟩
  clear hb0 hz0 hs0 HE0 hE
  go_enter Try.func30, Try.ntmps30
  go_wp2_with fail
  refine HC.out.mono ?_
  rintro e w1 ⟨rfl, hb1⟩
  have hbW : Hid (Below w.heap.size w w1) := H0.out.1.trans (hb1.mono (by rw [H0.out.2.2]; omega))
  have hz1 : w1.heap[w.heap.size + 1]? = some (.cells #[.int .i64 0, .int .i64 0, .slice none 0 0] 83) := (hb1.block _ (by rw [H0.out.2.2]; omega)).trans H0.out.2.1
  have hS1 : w.heap.size + 1 < w1.heap.size := (Array.getElem?_eq_some_iff.1 hz1).1
  have HZ : Hid (w1.heap[w.heap.size + 1]? = some (.cells #[.int .i64 0, .int .i64 0, .slice none 0 0] 83)) := hz1
  rw [hk.out]
  clear HC hb1 H0 hz1
  simp only [keyOut]
  have HN : Hid (l.length = n) := hn
  clear hn hk
  have hGW1 : Hid (GW w1 B ga gc l D) := hG.out.below hbW.out
  have heq := eq73
  go_wp2
  have HK : Hid ((w1.alloc (.cells #[.int .i64 k.typ, .int .u8 k.ton, .int .u8 k.npi, .string k.num, .int .i64 k.ref, .int .i64 k.tot] 73)).heap[w1.heap.size]? = some (.cells #[.int .i64 k.typ, .int .u8 k.ton, .int .u8 k.npi, .string k.num, .int .i64 k.ref, .int .i64 k.tot] 73)) := heap_alloc_new _ _
  have HBW : Hid (Below w1.heap.size w1 (w1.alloc (.cells #[.int .i64 k.typ, .int .u8 k.ton, .int .u8 k.npi, .string k.num, .int .i64 k.ref, .int .i64 k.tot] 73))) := (Below.refl _ _).alloc (Nat.le_refl _) _
  generalize (w1.alloc (.cells #[.int .i64 k.typ, .int .u8 k.ton, .int .u8 k.npi, .string k.num, .int .i64 k.ref, .int .i64 k.tot] 73)) = w2 at *
  go_loopw [16, 17] (fun v i wr => ∃ j : Nat, j ≤ n ∧ i = .int .i64 j ∧ v = .int .i64 (-1) ∧ Hid (∀ j' z, j' < j → l[j']? = some z → z.key ≠ k) ∧ Hid (Below w1.heap.size w1 wr ∧ wr.heap[w1.heap.size]? = some (.cells #[.int .i64 k.typ, .int .u8 k.ton, .int .u8 k.npi, .string k.num, .int .i64 k.ref, .int .i64 k.tot] 73))) (fun _ i _ => n - (intOf i).toNat)
  case atStart => exact ⟨0, Nat.zero_le _, rfl, rfl, fun j' z h => by omega, HBW, HK⟩
  case round =>
    obtain ⟨j, hj, rfl, rfl, hno, HX⟩ := hrel
    clear HBW HK
    have k0 : wr.cell? ⟨w1.heap.size, 0, none⟩ = some (.int .i64 k.typ) := cell_of_row _ _ _ _ _ _ HX.out.2
    have k1 : wr.cell? ⟨w1.heap.size, 1, none⟩ = some (.int .u8 k.ton) := cell_of_row _ _ _ _ _ _ HX.out.2
    have k2 : wr.cell? ⟨w1.heap.size, 2, none⟩ = some (.int .u8 k.npi) := cell_of_row _ _ _ _ _ _ HX.out.2
    have k3 : wr.cell? ⟨w1.heap.size, 3, none⟩ = some (.string k.num) := cell_of_row _ _ _ _ _ _ HX.out.2
    have k4 : wr.cell? ⟨w1.heap.size, 4, none⟩ = some (.int .i64 k.ref) := cell_of_row _ _ _ _ _ _ HX.out.2
    have k5 : wr.cell? ⟨w1.heap.size, 5, none⟩ = some (.int .i64 k.tot) := cell_of_row _ _ _ _ _ _ HX.out.2
    by_cases hlt : j < n
    · obtain ⟨z, hz⟩ : ∃ z, l[j]? = some z := ⟨_, List.getElem?_eq_getElem (by have := HN.out; omega)⟩
      have hjn : (j : Int) < n := by omega
      obtain ⟨g, rfl, hgl, hgB, hrg⟩ := hGW1.out.row.at hz
      have HR : Hid (wr.rangeAt g (j * 9) z.cells) := fun jj v hv => (HX.out.1.cell (by exact hgl)).trans (hrg jj v hv)
      obtain ⟨c0, c1, c2, c3, c4, c5, -, -, -⟩ := GR.c HR.out
      have hsame : (z.key.same k) = false := Bool.eq_false_iff.2 fun h => hnone z (List.mem_of_getElem? hz) (Key.same_iff.1 h)
      have hno2 : Hid (∀ j' z', j' < j + 1 → l[j']? = some z' → z'.key ≠ k) := fun j' z' h1 h2 => hnone z' (List.mem_of_getElem? h2)
      clear hno hrg
      go_wp2
      go_quiet (fail)
      go_wp2
      go_roundw
      case rel => exact ⟨j + 1, by omega, by go_num, rfl, hno2, below_drewN HX.out.1 _, HX.out.2⟩
      case measure => simp [intOf]; omega
    · clear hno
      obtain rfl : n = j := by omega
      obtain ⟨i76, z76, hi76, hz76, hs76, hb76, hc76⟩ := Try.g76
      have H76 : Hid (Try.prog.info? 76 = some i76 ∧ i76.zero = some z76 ∧ i76.size = 9 ∧ i76.bytes = 104 ∧ z76.cells.size = 9) := ⟨hi76, hz76, hs76, hb76, hc76⟩
      clear hi76 hz76 hs76 hb76 hc76
      have hGa0 : Hid (GW (wr.alloc (.cells #[.int .i64 k.typ, .int .u8 k.ton, .int .u8 k.npi, .string k.num, .int .i64 k.ref, .int .i64 k.tot, .slice none 0 0, .slice none 0 0, .int .i64 0] 76)) B ga gc l D) := (hGW1.out.below HX.out.1).below ((Below.refl _ _).alloc (Nat.le_refl _) _)
      have HOa0 : Hid ((wr.alloc (.cells #[.int .i64 k.typ, .int .u8 k.ton, .int .u8 k.npi, .string k.num, .int .i64 k.ref, .int .i64 k.tot, .slice none 0 0, .slice none 0 0, .int .i64 0] 76)).ownsRow B 76 9 (.slice ga n gc) n (flat l)) := by have h := hGa0.out.row; unfold GRow at h; rw [HN.out] at h; exact h
      have HBa0 : Hid (B ≤ (wr.alloc (.cells #[.int .i64 k.typ, .int .u8 k.ton, .int .u8 k.npi, .string k.num, .int .i64 k.ref, .int .i64 k.tot, .slice none 0 0, .slice none 0 0, .int .i64 0] 76)).heap.size) := by show B ≤ _; have h1 := hbW.out.size; have h2 := HX.out.1.size; simp; omega
      obtain ⟨i3, z3, hi3', hz3', hs3, hb3, hc3⟩ := Try.g3
      have H3 : Hid (Try.prog.info? 3 = some i3 ∧ i3.zero = some z3 ∧ i3.size = 1 ∧ i3.bytes = 8 ∧ z3.cells.size = 1) := ⟨hi3', hz3', hs3, hb3, hc3⟩
      clear hi3' hz3' hs3 hb3 hc3
      go_wp2_with (first
        | (refine wpList_append_own_at (P := Try.prog) _ rfl (.tmp 49) (.tmp 52) 61 rfl B 76 i76 z76 9 104 Try.underlying61 H76.out.1 H76.out.2.1 H76.out.2.2.1 H76.out.2.2.2.1 H76.out.2.2.2.2 (by decide) (.slice ga n gc) n (flat l) rfl (by exact HOa0.out) ⟨wr.heap.size, 0, none⟩ 1 1 (GR.cells (x0 k)) rfl rfl (by exact cells_new wr (GR.cells (x0 k)) 76) (gr_one (x0 k)) (by unfold maxLen; omega) (by omega) (by exact HBa0.out) ?_
           intro v' wA ownA grA hnilA hatA
           obtain ⟨a', gcx, rfl⟩ := grow_slice ownA
           obtain ⟨hGA, hFA⟩ := hGa0.out.new k (by rw [HN.out]; exact ownA) (by rw [HN.out]; exact grA)
           obtain ⟨gA, eA, hgAl, hgAB, hrA⟩ := hGA.row.at (i := n) (x := x0 k) (by rw [← HN.out]; simp [x0])
           subst eA
           have HGA : Hid (GW wA B (some ⟨gA, 0, none⟩) gcx (l ++ [x0 k]) (D ++ [([], [])]) ∧ Fr isG B (wr.alloc (.cells #[.int .i64 k.typ, .int .u8 k.ton, .int .u8 k.npi, .string k.num, .int .i64 k.ref, .int .i64 k.tot, .slice none 0 0, .slice none 0 0, .int .i64 0] 76)) wA) := ⟨hGA, hFA⟩
           have hz3 : wA.heap[w.heap.size + 1]? = some (.cells #[.int .i64 0, .int .i64 0, .slice none 0 0] 83) := hFA.keep (((Below.refl _ _).alloc (Nat.le_refl _) _ : Below wr.heap.size wr (wr.alloc (.cells #[.int .i64 k.typ, .int .u8 k.ton, .int .u8 k.npi, .string k.num, .int .i64 k.ref, .int .i64 k.tot, .slice none 0 0, .slice none 0 0, .int .i64 0] 76))).block _ (by have := HX.out.1.size; omega) |>.trans ((HX.out.1.block _ hS1).trans HZ.out)) (by rintro ⟨c, fr, h | h⟩ <;> simp at h)
           have hk3 : wA.heap[w1.heap.size]? = some (.cells #[.int .i64 k.typ, .int .u8 k.ton, .int .u8 k.npi, .string k.num, .int .i64 k.ref, .int .i64 k.tot] 73) := hFA.keep (((Below.refl _ _).alloc (Nat.le_refl _) _ : Below wr.heap.size wr (wr.alloc (.cells #[.int .i64 k.typ, .int .u8 k.ton, .int .u8 k.npi, .string k.num, .int .i64 k.ref, .int .i64 k.tot, .slice none 0 0, .slice none 0 0, .int .i64 0] 76))).block _ (Array.getElem?_eq_some_iff.1 HX.out.2).1 |>.trans HX.out.2) (by rintro ⟨c, fr, h | h⟩ <;> simp at h)
           have HZ3 : Hid (wA.heap[w.heap.size + 1]? = some (.cells #[.int .i64 0, .int .i64 0, .slice none 0 0] 83) ∧ wA.heap[w1.heap.size]? = some (.cells #[.int .i64 k.typ, .int .u8 k.ton, .int .u8 k.npi, .string k.num, .int .i64 k.ref, .int .i64 k.tot] 73)) := ⟨hz3, hk3⟩
           have hT : Hid (Fr isG B w wA) := ((Fr.of_below (hbW.out.trans (HX.out.1.mono hbW.out.size))).trans (Fr.of_below ((Below.refl _ _).alloc (Nat.le_refl _) _))).trans hFA
           have hBwA : Hid (B ≤ wA.heap.size) := by show B ≤ _; have h1 := hT.out.size; omega
           have hS3 : w1.heap.size < wA.heap.size := (Array.getElem?_eq_some_iff.1 hk3).1
           obtain ⟨y3, hy3⟩ : ∃ y3, y3 = x0 k := ⟨_, rfl⟩
           obtain ⟨d3, hd3'⟩ : ∃ d3 : List Int × List Int, d3 = ([], []) := ⟨_, rfl⟩
           obtain ⟨l3, hl3⟩ : ∃ l3, l3 = l ++ [y3] := ⟨_, rfl⟩
           obtain ⟨D3, hD3⟩ : ∃ D3, D3 = D ++ [d3] := ⟨_, rfl⟩
           have hG3 : Hid (GW wA B (some ⟨gA, 0, none⟩) gcx l3 D3) := by show GW _ _ _ _ _ _; rw [hl3, hD3, hd3', hy3]; exact HGA.out.1
           have hi3 : l3[n]? = some y3 := by rw [hl3, ← HN.out]; simp
           have hd3 : D3[n]? = some d3 := by have h1 := hG.out.len; rw [HN.out] at h1; rw [hD3, h1]; simp
           have hn0 : y3.n ≤ 4096 := by rw [hy3]; simp [x0]
           have hm0 : y3.m ≤ 4096 := by rw [hy3]; simp [x0]
           have c6 : wA.cell? ⟨gA, n * 9 + 6, none⟩ = some (.slice y3.pa y3.n y3.pc) := by rw [hy3]; exact (GR.c hrA).2.2.2.2.2.2.1
           have HY3 : Hid (y3 = x0 k ∧ d3 = ([], []) ∧ l3 = l ++ [y3] ∧ D3 = D ++ [d3]) := ⟨hy3, hd3', hl3, hD3⟩
           clear hy3 hd3' hl3 hD3
           clear ownA grA hnilA hatA hGA hFA hrA hz3 hk3 HOa0 hGa0 HBa0 k0 k1 k2 k3 k4 k5 HGA
           have hGa : Hid (GW (wA.alloc (.cells #[.int .i64 p] 3)) B (some ⟨gA, 0, none⟩) gcx l3 D3) := hG3.out.below ((Below.refl _ _).alloc (Nat.le_refl _) _)
           have HOa : Hid ((wA.alloc (.cells #[.int .i64 p] 3)).ownsRow B 3 1 (.slice y3.pa y3.n y3.pc) y3.n (ints d3.1)) := (hGa.out.ok n y3 d3 hi3 hd3).2.2.1
           have HBa : Hid (B ≤ (wA.alloc (.cells #[.int .i64 p] 3)).heap.size) := by show B ≤ _; have := hBwA.out; simp; omega)
          | (refine wpList_append_own_at (P := Try.prog) _ rfl (.tmp 73) (.tmp 75) 74 rfl B 3 i3 z3 1 8 Try.underlying74 H3.out.1 H3.out.2.1 H3.out.2.2.1 H3.out.2.2.2.1 H3.out.2.2.2.2 (by decide) (.slice y3.pa y3.n y3.pc) y3.n (ints d3.1) rfl (by exact HOa.out) ⟨wA.heap.size, 0, none⟩ 1 1 [.int .i64 p] rfl rfl (by exact cell_one_new wA _ _) (by intro u hu; simp at hu; subst hu; rfl) (by unfold maxLen; omega) (by omega) (by exact HBa.out) ?_
             intro v1 w4 own4 gr4 hnil4 hat4
             obtain ⟨a4, c4, rfl⟩ := grow_slice own4
             have HG5 : Hid (GW (w4.setCell ⟨gA, n * 9 + 6, none⟩ (.slice a4 (y3.n + 1) c4)) B (some ⟨gA, 0, none⟩) gcx (l3.set n { y3 with n := y3.n + 1, pa := a4, pc := c4 }) (D3.set n (d3.1 ++ [p], d3.2)) ∧ Fr isG B (wA.alloc (.cells #[.int .i64 p] 3)) (w4.setCell ⟨gA, n * 9 + 6, none⟩ (.slice a4 (y3.n + 1) c4))) := hGa.out.parts hi3 hd3 own4 gr4 hat4
             obtain ⟨r4, f4⟩ := grown_row_at hGa.out.row hi3 HOa.out gr4
             have c46 : w4.cell? ⟨gA, n * 9 + 6, none⟩ = some (.slice y3.pa y3.n y3.pc) := (GR.c r4).2.2.2.2.2.2.1
             have f46 := f4 (n * 9 + 6)
             clear own4 gr4 hnil4 hat4 r4 f4 HOa hGa HBa c6)
          | (show wpList _ _ _ (⟨_, Op.store 74 (.tmp 78) (.tmp 76), _, _, _, _⟩ :: _) _ _
             refine wpList_store1 rfl 74 (.tmp 78) (.tmp 76) rfl gA (n * 9 + 6) (.slice a4 (y3.n + 1) c4) rfl rfl rfl _ c46 f46 Try.size74 ?_
             intro w5 hw5
             rw [← hw5] at HG5
             clear hw5 c46 f46
             have hi5 := set_at (y := { y3 with n := y3.n + 1, pa := a4, pc := c4 }) hi3
             have hd5 := set_at (y := (d3.1 ++ [p], d3.2)) hd3
             obtain ⟨g5, e5, _, _, r5⟩ := HG5.out.1.row.at hi5
             cases e5
             have c57 : w5.cell? ⟨gA, n * 9 + 7, none⟩ = some (.slice y3.ia y3.m y3.ic) := (GR.c r5).2.2.2.2.2.2.2.1
             have hBw5 : Hid (B ≤ w5.heap.size) := by show B ≤ _; have h1 := HG5.out.2.size; have h2 := hBwA.out; simp at h1; omega
             have hGb : Hid (GW (w5.alloc (.cells #[.int .i64 (s : Nat)] 3)) B (some ⟨gA, 0, none⟩) gcx (l3.set n { y3 with n := y3.n + 1, pa := a4, pc := c4 }) (D3.set n (d3.1 ++ [p], d3.2))) := HG5.out.1.below ((Below.refl _ _).alloc (Nat.le_refl _) _)
             have HOb : Hid ((w5.alloc (.cells #[.int .i64 (s : Nat)] 3)).ownsRow B 3 1 (.slice y3.ia y3.m y3.ic) y3.m (ints d3.2)) := (hGb.out.ok n _ _ hi5 hd5).2.2.2
             have HBb : Hid (B ≤ (w5.alloc (.cells #[.int .i64 (s : Nat)] 3)).heap.size) := by show B ≤ _; have := hBw5.out; simp; omega
             have HF5 : Hid (Fr isG B w w5) := (hT.out.trans (Fr.of_below ((Below.refl _ _).alloc (Nat.le_refl _) _))).trans HG5.out.2
             have H5 : Hid ((l3.set n { y3 with n := y3.n + 1, pa := a4, pc := c4 })[n]? = some { y3 with n := y3.n + 1, pa := a4, pc := c4 } ∧ (D3.set n (d3.1 ++ [p], d3.2))[n]? = some (d3.1 ++ [p], d3.2)) := ⟨hi5, hd5⟩
             clear hi5 hd5 r5)
          | (refine wpList_append_own_at (P := Try.prog) _ rfl (.tmp 85) (.tmp 87) 74 rfl B 3 i3 z3 1 8 Try.underlying74 H3.out.1 H3.out.2.1 H3.out.2.2.1 H3.out.2.2.2.1 H3.out.2.2.2.2 (by decide) (.slice y3.ia y3.m y3.ic) y3.m (ints d3.2) rfl (by exact HOb.out) ⟨w5.heap.size, 0, none⟩ 1 1 [.int .i64 (s : Nat)] rfl rfl (by exact cell_one_new w5 _ _) (by intro u hu; simp at hu; subst hu; rfl) (by unfold maxLen; omega) (by omega) (by exact HBb.out) ?_
             intro v6 w6 own6 gr6 hnil6 hat6
             obtain ⟨a6, c6', rfl⟩ := grow_slice own6
             have HG7 := hGb.out.idx H5.out.1 H5.out.2 own6 gr6 hat6
             rw [List.set_set, List.set_set] at HG7
             have HG7 : Hid (GW (w6.setCell ⟨gA, n * 9 + 7, none⟩ (.slice a6 (y3.m + 1) c6')) B (some ⟨gA, 0, none⟩) gcx (l3.set n { y3 with n := y3.n + 1, pa := a4, pc := c4, m := y3.m + 1, ia := a6, ic := c6' }) (D3.set n (d3.1 ++ [p], d3.2 ++ [(s : Int)])) ∧ Fr isG B (w5.alloc (.cells #[.int .i64 (s : Nat)] 3)) (w6.setCell ⟨gA, n * 9 + 7, none⟩ (.slice a6 (y3.m + 1) c6'))) := HG7
             obtain ⟨r6, f6⟩ := grown_row_at hGb.out.row H5.out.1 HOb.out gr6
             have c67 : w6.cell? ⟨gA, n * 9 + 7, none⟩ = some (.slice y3.ia y3.m y3.ic) := (GR.c r6).2.2.2.2.2.2.2.1
             have f67 := f6 (n * 9 + 7)
             clear own6 gr6 hnil6 hat6 r6 f6 HOb hGb HBb c57)
          | (show wpList _ _ _ (⟨_, Op.store 74 (.tmp 90) (.tmp 88), _, _, _, _⟩ :: _) _ _
             refine wpList_store1 rfl 74 (.tmp 90) (.tmp 88) rfl gA (n * 9 + 7) (.slice a6 (y3.m + 1) c6') rfl rfl rfl _ c67 f67 Try.size74 ?_
             intro w7 hw7
             rw [← hw7] at HG7
             clear hw7 c67 f67
             have hi7 := set_at (y := { y3 with n := y3.n + 1, pa := a4, pc := c4, m := y3.m + 1, ia := a6, ic := c6' }) hi3
             obtain ⟨g7, e7, _, _, r7⟩ := HG7.out.1.row.at hi7
             cases e7
             have c78 : w7.cell? ⟨gA, n * 9 + 8, none⟩ = some (.int .i64 y3.t) := (GR.c r7).2.2.2.2.2.2.2.2
             obtain ⟨g7', cur7, e7', _, h7⟩ := HG7.out.1.row.blk hi7
             cases e7'
             have f78 : w7.frozen? ⟨gA, n * 9 + 8, none⟩ = false := cell_frozen h7
             have HF7 : Hid (Fr isG B w w7) := (HF5.out.trans (Fr.of_below ((Below.refl _ _).alloc (Nat.le_refl _) _))).trans HG7.out.2
             have HG9 := HG7.out.1.touch hi7 (s : Int)
             rw [List.set_set] at HG9
             have HG9 : Hid (GW (w7.setCell ⟨gA, n * 9 + 8, none⟩ (.int .i64 (s : Nat))) B (some ⟨gA, 0, none⟩) gcx (l3.set n { y3 with n := y3.n + 1, pa := a4, pc := c4, m := y3.m + 1, ia := a6, ic := c6', t := (s : Int) }) (D3.set n (d3.1 ++ [p], d3.2 ++ [(s : Int)])) ∧ Fr isG B w7 (w7.setCell ⟨gA, n * 9 + 8, none⟩ (.int .i64 (s : Nat)))) := HG9
             clear r7 h7 hi7)
          | (show wpList _ _ _ (⟨_, Op.store 3 (.tmp 95) (.tmp 93), _, _, _, _⟩ :: _) _ _
             refine wpList_store1 rfl 3 (.tmp 95) (.tmp 93) rfl gA (n * 9 + 8) (.int .i64 (s : Nat)) rfl rfl rfl _ c78 f78 Try.size3 ?_
             intro w9 hw9
             rw [← hw9] at HG9
             clear hw9 c78 f78
             have hi9 := set_at (y := { y3 with n := y3.n + 1, pa := a4, pc := c4, m := y3.m + 1, ia := a6, ic := c6', t := (s : Int) }) hi3
             obtain ⟨g9, e9, _, _, r9⟩ := HG9.out.1.row.at hi9
             cases e9
             have c96 : w9.cell? ⟨gA, n * 9 + 6, none⟩ = some (.slice a4 (y3.n + 1) c4) := (GR.c r9).2.2.2.2.2.2.1
             have HF9 : Hid (Fr isG B wA w9 ∧ Fr isG B w w9) := ⟨(((Fr.of_below ((Below.refl _ _).alloc (Nat.le_refl _) _)).trans HG5.out.2).trans ((Fr.of_below ((Below.refl _ _).alloc (Nat.le_refl _) _)).trans HG7.out.2)).trans HG9.out.2, HF7.out.trans HG9.out.2⟩
             have hk9 : w9.heap[w1.heap.size]? = some (.cells #[.int .i64 k.typ, .int .u8 k.ton, .int .u8 k.npi, .string k.num, .int .i64 k.ref, .int .i64 k.tot] 73) := HF9.out.1.keep HZ3.out.2 (by rintro ⟨c, fr, h | h⟩ <;> simp at h)
             have hz9 : w9.heap[w.heap.size + 1]? = some (.cells #[.int .i64 0, .int .i64 0, .slice none 0 0] 83) := HF9.out.1.keep HZ3.out.1 (by rintro ⟨c, fr, h | h⟩ <;> simp at h)
             have k95 : w9.cell? ⟨w1.heap.size, 5, none⟩ = some (.int .i64 k.tot) := cell_of_row _ _ _ _ _ _ hk9
             have k94 : w9.cell? ⟨w1.heap.size, 4, none⟩ = some (.int .i64 k.ref) := cell_of_row _ _ _ _ _ _ hk9
             have HZ9 : Hid (w9.heap[w.heap.size + 1]? = some (.cells #[.int .i64 0, .int .i64 0, .slice none 0 0] 83) ∧ w9.heap[w1.heap.size]? = some (.cells #[.int .i64 k.typ, .int .u8 k.ton, .int .u8 k.npi, .string k.num, .int .i64 k.ref, .int .i64 k.tot] 73)) := ⟨hz9, hk9⟩
             have HR9 : Hid (w9.rangeAt gA (n * 9) (GR.cells { y3 with n := y3.n + 1, pa := a4, pc := c4, m := y3.m + 1, ia := a6, ic := c6', t := (s : Int) })) := r9
             have hs9 : wA.heap.size ≤ w9.heap.size := HF9.out.1.size
             clear r9 hk9 hz9 HF5 HF7 H5 HG5 HG7 hi9))
      generalize hN : y3.n + 1 = N at *
      generalize hN2 : y3.m + 1 = N2 at *
      have HNN : Hid (N = 1 ∧ N2 = 1) := by rw [← hN, ← hN2, HY3.out.1]; exact ⟨rfl, rfl⟩
      clear hN hN2
      have htot : ((N : Int) == k.tot) = false := by simp only [beq_eq_false_iff_ne, ne_eq]; rw [HNN.out.1]; exact hnt
      go_quiet (fail)
      have HGI : Hid (GI (w9.drewN nq) B (some ⟨gA, 0, none⟩) gcx (l.map GR.kt ++ [(k, (s : Int))]) (D ++ [([p], [(s : Int)])])) := by
        obtain ⟨e1, e2, e3, e4⟩ := HY3.out
        have h := HG9.out.1.below (below_drewN (Below.refl _ _) nq)
        refine ⟨l3.set n { y3 with n := N, pa := a4, pc := c4, m := N2, ia := a6, ic := c6', t := (s : Int) }, ?_, ?_⟩
        · have e5 : D3.set n (d3.1 ++ [p], d3.2 ++ [(s : Int)]) = D ++ [([p], [(s : Int)])] := by
            have h1 := hG.out.len
            rw [HN.out] at h1
            rw [e4, e2, h1]
            simp
          rw [← e5]
          exact h
        · rw [kt_set, e3, e1, ← HN.out]
          simp [GR.kt, x0]
      have HI83 : Hid (Is83 (w9.drewN nq) (w.heap.size + 1)) := ⟨_, _, HZ9.out.1⟩
      have HFN : Hid (Fr isG B w (w9.drewN nq)) := HF9.out.2.drewN _
      have hz10 : (w9.drewN nq).heap[w.heap.size + 1]? = some (.cells #[.int .i64 0, .int .i64 0, .slice none 0 0] 83) := HZ9.out.1
      clear HG9 HF9 HZ9 HR9 k95 k94 c96
      generalize w9.drewN nq = w10 at *
      have o0 : w10.cell? ⟨w.heap.size + 1, 0, none⟩ = some (.int .i64 0) := cell_of_row _ _ _ _ _ _ (hz10)
      have o1 : w10.cell? ⟨w.heap.size + 1, 1, none⟩ = some (.int .i64 0) := cell_of_row _ _ _ _ _ _ (hz10)
      have o2 : w10.cell? ⟨w.heap.size + 1, 2, none⟩ = some (.slice none 0 0) := cell_of_row _ _ _ _ _ _ (hz10)
      have of : ∀ k, w10.frozen? ⟨w.heap.size + 1, k, none⟩ = false := fun k => by simp [World.frozen?, (hz10)]
      clear hz10
      go_wp2
      (try simp only [Exit.inBlock, Exit.then])
      refine bodyPost_ret (v := stepOut (some ⟨gA, 0, none⟩) (n + 1) gcx (wrap64 (held + 1)) 0 0 none 0 0) ?_ rfl ⟨⟨_, _, _, rfl, ?_⟩, ?_⟩
      · rw [results_tmp_tmp_cell rfl]
        go_simp
        rfl
      · repeat' (first | with_reducible exact HGI.out | with_reducible exact HI83.out | with_reducible refine GI.set83 ?_ ?_ _ _ | with_reducible refine Is83.set ?_ _ _)
      · repeat' (first | with_reducible exact HFN.out | with_reducible refine Fr.set_new ?_ (by omega) _ _)

end Go.Proofs.Qxb6616208a
