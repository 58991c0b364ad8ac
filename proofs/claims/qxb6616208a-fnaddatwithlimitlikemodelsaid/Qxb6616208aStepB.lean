/-
  zzStep (30) at limit 0: a part added.
-/
import Derived.Test.Qxb6616208aStepA
namespace Go.Proofs.Qxb6616208a
open Go.RowKit
set_option linter.unusedVariables false
set_option linter.unusedSimpArgs false

def GR.kt (x : GR) : Key × Int := (x.key, x.t)

/-- the groups: keys with their last step, and the contents -/
def GI (w : World) (B : Nat) (ga : Option Addr) (gc : Nat) (T : List (Key × Int)) (D : List (List Int × List Int)) : Prop := ∃ l, GW w B ga gc l D ∧ l.map GR.kt = T

theorem grown_row_at {w w1 : World} {B g gc : Nat} {l : List GR} {a : Option Addr} {n c : Nat} {xs : List Value} {i : Nat} {y : GR} (h : GRow w B (some ⟨g, 0, none⟩) gc l) (hy : l[i]? = some y) (o : w.ownsRow B 3 1 (.slice a n c) n xs) (gr : w.grownBy w1 (Value.slice a n c).ownBlock) :
    w1.rangeAt g (i * 9) y.cells ∧ ∀ k, w1.frozen? ⟨g, k, none⟩ = false := by
  obtain ⟨g', cur, e1, hB, hg⟩ := h.blk hy
  cases e1
  have rowne : (Value.slice a n c).ownBlock ≠ some g := fun e => by
    rcases own_blk o with e1 | ⟨q, cq, e1, _, hq⟩
    · rw [e1] at e; simp [Value.ownBlock] at e
    · rw [e1] at e; simp [Value.ownBlock] at e; subst e; rw [hg] at hq; simp at hq
  have hg1 : w1.heap[g]? = w.heap[g]? := gr.block g (Array.getElem?_eq_some_iff.1 hg).1 (fun e => rowne e.symm)
  obtain ⟨g', e2, _, _, hr⟩ := h.at hy
  cases e2
  exact ⟨fun j v hv => (World.cell?_of_block (by exact hg1)).trans (hr j v hv), fun k => by rw [World.frozen?_of_block (w := w) (by exact hg1)]; exact cell_frozen hg⟩

/-- a variable of type zzOut -/
def Is83 (w : World) (b : Nat) : Prop := ∃ c fr, w.heap[b]? = some (.cells c 83 fr)
theorem heap_set_one {w : World} {b o : Nat} {c : Array Value} {t : TypeId} {fr : Nat × Nat} (h : w.heap[b]? = some (.cells c t fr)) (v : Value) :
    (w.setCell ⟨b, o, none⟩ v).heap[b]? = some (.cells (c.setIfInBounds o v) t fr) := by
  simp [World.setCell, Array.getElem?_modify, h]
theorem Is83.set {w : World} {b : Nat} (h : Is83 w b) (o : Nat) (v : Value) : Is83 (w.setCell ⟨b, o, none⟩ v) b := by
  obtain ⟨c, fr, h⟩ := h
  exact ⟨_, fr, heap_set_one h v⟩
theorem GI.set83 {w : World} {B : Nat} {ga : Option Addr} {gc : Nat} {T : List (Key × Int)} {D : List (List Int × List Int)} {b : Nat} (h : GI w B ga gc T D) (hb : Is83 w b) (o : Nat) (v : Value) : GI (w.setCell ⟨b, o, none⟩ v) B ga gc T D := by
  obtain ⟨l, h1, h2⟩ := h
  obtain ⟨c, fr, hc⟩ := hb
  refine ⟨l, h1.keep fun k ob e hg => (Below.heap_setCell _ _ _ _ fun e2 => ?_).trans e, h2⟩
  simp only [] at e2
  subst e2
  rw [hc] at e
  cases e
  obtain ⟨c', fr', h | h⟩ := hg <;> simp at h
theorem GI.below {w w' : World} {B : Nat} {ga : Option Addr} {gc : Nat} {T : List (Key × Int)} {D : List (List Int × List Int)} (h : GI w B ga gc T D) (hb : Below w.heap.size w w') : GI w' B ga gc T D := by
  obtain ⟨l, h1, h2⟩ := h
  exact ⟨l, h1.below hb, h2⟩
theorem Fr.set_new {T : Obj → Prop} {B : Nat} {w W : World} {b : Nat} (h : Fr T B w W) (hb : w.heap.size ≤ b) (o : Nat) (v : Value) : Fr T B w (W.setCell ⟨b, o, none⟩ v) :=
  ⟨h.os, h.tape, h.output, by simpa [World.setCell] using h.size, fun k ob e => by
    have hk : k < w.heap.size := (Array.getElem?_eq_some_iff.1 e).1
    rcases h.block k ob e with e1 | e1
    · exact Or.inl ((Below.heap_setCell _ _ _ _ (by simp only []; omega)).trans e1)
    · exact Or.inr e1⟩
theorem Fr.drew {T : Obj → Prop} {B : Nat} {w W : World} (h : Fr T B w W) : Fr T B w W.drew := ⟨h.os, h.tape, h.output, h.size, h.block⟩
theorem Fr.drewN {T : Obj → Prop} {B : Nat} {w W : World} (h : Fr T B w W) (n : Nat) : Fr T B w (W.drewN n) := h.trans (Fr.of_below (below_drewN (Below.refl _ _) n))

theorem set_at {α : Type} {l : List α} {i : Nat} {x y : α} (h : l[i]? = some x) : (l.set i y)[i]? = some y := by
  rw [List.getElem?_set]
  simp [(List.getElem?_eq_some_iff.1 h).1]

theorem kt_set {l : List GR} {i : Nat} (y : GR) : (l.set i y).map GR.kt = (l.map GR.kt).set i y.kt := by
  rw [List.map_set]

set_option maxHeartbeats 4000000 in
set_option maxRecDepth 100000 in
theorem step_add (B : Nat) (ga : Option Addr) (n gc : Nat) (l : List GR) (D : List (List Int × List Int)) (held : Int) (s : Nat) (x : Pd) (ea : Option Addr) (en ec : Nat) (k : Key) (p : Int) (w : World) (hn : l.length = n) (hnl : n ≤ 4096) (hs : s ≤ 4096) (hBw : B ≤ w.heap.size) (hG : Hid (GW w B ga gc l D)) (hen : x.els.length = en) (hel : en ≤ 1048576) (hE : Hid (Els w ea x.els)) (hk : Hid (x.key = some (k, p))) (i : Nat) (y : GR) (d : List Int × List Int) (hi : l[i]? = some y) (hd : D[i]? = some d) (hyk : y.key = k) (hfirst : ∀ j z, j < i → l[j]? = some z → z.key ≠ k) (hlen : d.1.length ≤ 4096) (hlen2 : d.2.length ≤ 4096) (hnd : hasI d.1 p = false) (hnt : (y.n : Int) + 1 ≠ k.tot) :
    Calls Try.prog 30 #[.slice ga n gc, .int .i64 held, .int .i64 0, .agg #[.string x.smsc, .int .i64 x.typ, .int .u8 x.fton, .int .u8 x.fnpi, .string x.fnum, .int .u8 x.tton, .int .u8 x.tnpi, .string x.tnum, .slice ea en ec], .int .i64 (s : Nat)] w fun e w' => (∃ h', e = .returned (stepOut ga n gc h' 0 0 none 0 0)) ∧ GI w' B ga gc ((l.map GR.kt).set i (k, (s : Int))) (D.set i (d.1 ++ [p], d.2 ++ [(s : Int)])) ∧ Fr isG B w w' := by
  have HYK0 : Hid (y.key = k) := hyk
  have HE0 : Hid (Els ((w.alloc (.cells #[.string x.smsc, .int .i64 x.typ, .int .u8 x.fton, .int .u8 x.fnpi, .string x.fnum, .int .u8 x.tton, .int .u8 x.tnpi, .string x.tnum, .slice ea en ec] 79)).alloc (.cells #[.int .i64 0, .int .i64 0, .slice none 0 0] 83)) ea x.els) := hE.out.below (((Below.refl _ _).alloc (Nat.le_refl _) _).alloc (by simp) _)
  have HC : Hid (Calls Try.prog 45 #[.agg #[.string x.smsc, .int .i64 x.typ, .int .u8 x.fton, .int .u8 x.fnpi, .string x.fnum, .int .u8 x.tton, .int .u8 x.tnpi, .string x.tnum, .slice ea en ec]] ((w.alloc (.cells #[.string x.smsc, .int .i64 x.typ, .int .u8 x.fton, .int .u8 x.fnpi, .string x.fnum, .int .u8 x.tton, .int .u8 x.tnpi, .string x.tnum, .slice ea en ec] 79)).alloc (.cells #[.int .i64 0, .int .i64 0, .slice none 0 0] 83)) fun e w' => e = .returned (keyOut x.key) ∧ Below ((w.alloc (.cells #[.string x.smsc, .int .i64 x.typ, .int .u8 x.fton, .int .u8 x.fnpi, .string x.fnum, .int .u8 x.tton, .int .u8 x.tnpi, .string x.tnum, .slice ea en ec] 79)).alloc (.cells #[.int .i64 0, .int .i64 0, .slice none 0 0] 83)).heap.size ((w.alloc (.cells #[.string x.smsc, .int .i64 x.typ, .int .u8 x.fton, .int .u8 x.fnpi, .string x.fnum, .int .u8 x.tton, .int .u8 x.tnpi, .string x.tnum, .slice ea en ec] 79)).alloc (.cells #[.int .i64 0, .int .i64 0, .slice none 0 0] 83)) w') := zzKeyOf_any x ea en ec _ hen hel HE0
  have hb0 : Below w.heap.size w ((w.alloc (.cells #[.string x.smsc, .int .i64 x.typ, .int .u8 x.fton, .int .u8 x.fnpi, .string x.fnum, .int .u8 x.tton, .int .u8 x.tnpi, .string x.tnum, .slice ea en ec] 79)).alloc (.cells #[.int .i64 0, .int .i64 0, .slice none 0 0] 83)) := ((Below.refl _ _).alloc (Nat.le_refl _) _).alloc (by simp) _
  have hz0 : ((w.alloc (.cells #[.string x.smsc, .int .i64 x.typ, .int .u8 x.fton, .int .u8 x.fnpi, .string x.fnum, .int .u8 x.tton, .int .u8 x.tnpi, .string x.tnum, .slice ea en ec] 79)).alloc (.cells #[.int .i64 0, .int .i64 0, .slice none 0 0] 83)).heap[w.heap.size + 1]? = some (.cells #[.int .i64 0, .int .i64 0, .slice none 0 0] 83) := heap_alloc2_new _ _ _
  have hs0 : ((w.alloc (.cells #[.string x.smsc, .int .i64 x.typ, .int .u8 x.fton, .int .u8 x.fnpi, .string x.fnum, .int .u8 x.tton, .int .u8 x.tnpi, .string x.tnum, .slice ea en ec] 79)).alloc (.cells #[.int .i64 0, .int .i64 0, .slice none 0 0] 83)).heap.size = w.heap.size + 2 := by simp
  have H0 : Hid (Below w.heap.size w ((w.alloc (.cells #[.string x.smsc, .int .i64 x.typ, .int .u8 x.fton, .int .u8 x.fnpi, .string x.fnum, .int .u8 x.tton, .int .u8 x.tnpi, .string x.tnum, .slice ea en ec] 79)).alloc (.cells #[.int .i64 0, .int .i64 0, .slice none 0 0] 83)) ∧ ((w.alloc (.cells #[.string x.smsc, .int .i64 x.typ, .int .u8 x.fton, .int .u8 x.fnpi, .string x.fnum, .int .u8 x.tton, .int .u8 x.tnpi, .string x.tnum, .slice ea en ec] 79)).alloc (.cells #[.int .i64 0, .int .i64 0, .slice none 0 0] 83)).heap[w.heap.size + 1]? = some (.cells #[.int .i64 0, .int .i64 0, .slice none 0 0] 83) ∧ ((w.alloc (.cells #[.string x.smsc, .int .i64 x.typ, .int .u8 x.fton, .int .u8 x.fnpi, .string x.fnum, .int .u8 x.tton, .int .u8 x.tnpi, .string x.tnum, .slice ea en ec] 79)).alloc (.cells #[.int .i64 0, .int .i64 0, .slice none 0 0] 83)).heap.size = w.heap.size + 2) := ⟨hb0, hz0, hs0⟩
  clear hb0 hz0 hs0 HE0 hE
  go_enter Try.func30, Try.ntmps30
  go_wp2_with fail
  refine HC.out.mono ?_
  rintro e w1 ⟨rfl, hb1⟩
  have hbW : Hid (Below w.heap.size w w1) := H0.out.1.trans (hb1.mono (by rw [H0.out.2.2]; omega))
  have hz1 : w1.heap[w.heap.size + 1]? = some (.cells #[.int .i64 0, .int .i64 0, .slice none 0 0] 83) := (hb1.block _ (by rw [H0.out.2.2]; omega)).trans H0.out.2.1
  have hS1 : w.heap.size + 1 < w1.heap.size := (Array.getElem?_eq_some_iff.1 hz1).1
  have HZ : Hid (w1.heap[w.heap.size + 1]? = some (.cells #[.int .i64 0, .int .i64 0, .slice none 0 0] 83)) := hz1
  rw [hk.out]
  clear HC hb1 H0 hz1
  simp only [keyOut]
  have HN : Hid (l.length = n) := hn
  clear hn hk
  have hGW1 : Hid (GW w1 B ga gc l D) := hG.out.below hbW.out
  have heq := eq73
  go_wp2
  have HK : Hid ((w1.alloc (.cells #[.int .i64 k.typ, .int .u8 k.ton, .int .u8 k.npi, .string k.num, .int .i64 k.ref, .int .i64 k.tot] 73)).heap[w1.heap.size]? = some (.cells #[.int .i64 k.typ, .int .u8 k.ton, .int .u8 k.npi, .string k.num, .int .i64 k.ref, .int .i64 k.tot] 73)) := heap_alloc_new _ _
  have HBW : Hid (Below w1.heap.size w1 (w1.alloc (.cells #[.int .i64 k.typ, .int .u8 k.ton, .int .u8 k.npi, .string k.num, .int .i64 k.ref, .int .i64 k.tot] 73))) := (Below.refl _ _).alloc (Nat.le_refl _) _
  generalize (w1.alloc (.cells #[.int .i64 k.typ, .int .u8 k.ton, .int .u8 k.npi, .string k.num, .int .i64 k.ref, .int .i64 k.tot] 73)) = w2 at *
  go_loopw [16, 17] (fun v i wr => ∃ j : Nat, j ≤ n ∧ i = .int .i64 j ∧ v = .int .i64 (-1) ∧ Hid (∀ j' z, j' < j → l[j']? = some z → z.key ≠ k) ∧ Hid (Below w1.heap.size w1 wr ∧ wr.heap[w1.heap.size]? = some (.cells #[.int .i64 k.typ, .int .u8 k.ton, .int .u8 k.npi, .string k.num, .int .i64 k.ref, .int .i64 k.tot] 73))) (fun _ i _ => n - (intOf i).toNat)
  case atStart => exact ⟨0, Nat.zero_le _, rfl, rfl, fun j' z h => by omega, HBW, HK⟩
  case round =>
    obtain ⟨j, hj, rfl, rfl, hno, HX⟩ := hrel
    clear HBW HK
    have k0 : wr.cell? ⟨w1.heap.size, 0, none⟩ = some (.int .i64 k.typ) := cell_of_row _ _ _ _ _ _ HX.out.2
    have k1 : wr.cell? ⟨w1.heap.size, 1, none⟩ = some (.int .u8 k.ton) := cell_of_row _ _ _ _ _ _ HX.out.2
    have k2 : wr.cell? ⟨w1.heap.size, 2, none⟩ = some (.int .u8 k.npi) := cell_of_row _ _ _ _ _ _ HX.out.2
    have k3 : wr.cell? ⟨w1.heap.size, 3, none⟩ = some (.string k.num) := cell_of_row _ _ _ _ _ _ HX.out.2
    have k4 : wr.cell? ⟨w1.heap.size, 4, none⟩ = some (.int .i64 k.ref) := cell_of_row _ _ _ _ _ _ HX.out.2
    have k5 : wr.cell? ⟨w1.heap.size, 5, none⟩ = some (.int .i64 k.tot) := cell_of_row _ _ _ _ _ _ HX.out.2
    by_cases hlt : j < n
    · obtain ⟨z, hz⟩ : ∃ z, l[j]? = some z := ⟨_, List.getElem?_eq_getElem (by have := HN.out; omega)⟩
      have hjn : (j : Int) < n := by omega
      obtain ⟨g, rfl, hgl, hgB, hrg⟩ := hGW1.out.row.at hz
      have HR : Hid (wr.rangeAt g (j * 9) z.cells) := fun jj v hv => (HX.out.1.cell (by exact hgl)).trans (hrg jj v hv)
      obtain ⟨c0, c1, c2, c3, c4, c5, -, -, -⟩ := GR.c HR.out
      by_cases hji : j = i
      · subst hji
        rw [hi] at hz
        cases hz
        have hsame : (y.key.same k) = true := Key.same_iff.2 hyk
        have HYK : Hid (y.key = k) := hyk
        clear hno hfirst hyk hrg
        go_wp2
        go_quiet (fail)
        clear c0 c1 c2 c3 c4 c5 hsame heq
        have HX3 : Hid (Below w1.heap.size w1 (wr.drewN nq) ∧ (wr.drewN nq).heap[w1.heap.size]? = some (.cells #[.int .i64 k.typ, .int .u8 k.ton, .int .u8 k.npi, .string k.num, .int .i64 k.ref, .int .i64 k.tot] 73)) := ⟨below_drewN HX.out.1 _, HX.out.2⟩
        clear HX HR k0 k1 k2 k3 k4 k5
        generalize wr.drewN nq = w3 at *
        have hG3 : Hid (GW w3 B (some ⟨g, 0, none⟩) gc l D) := hGW1.out.below HX3.out.1
        obtain ⟨yn, ym, op, oi⟩ := hG3.out.ok j y d hi hd
        obtain ⟨g', rfl', hgl3, hgB3, hrg3⟩ := hG3.out.row.at hi
        cases rfl'
        obtain ⟨-, -, -, -, -, -, c6, c7, c8⟩ := GR.c hrg3
        have HP : Hid (IRow w3 y.pa d.1) := own_irow op
        have HO : Hid (w3.ownsRow B 3 1 (.slice y.pa y.n y.pc) y.n (ints d.1) ∧ w3.ownsRow B 3 1 (.slice y.ia y.m y.ic) y.m (ints d.2)) := ⟨op, oi⟩
        clear op oi hrg3
        have HYN : Hid (y.n = d.1.length ∧ y.m = d.2.length) := ⟨yn, ym⟩
        have hyl : y.n ≤ 4096 := by rw [yn]; exact hlen
        have HH : Hid (Calls Try.prog 46 #[.slice y.pa y.n y.pc, .int .i64 p] w3 fun e w' => e = .returned (.bool (hasI d.1 p)) ∧ w3 = w') := zzHasPart_any y.pa y.n y.pc d.1 p w3 yn.symm (by omega) HP
        clear yn ym
        have hbT : Hid (Below w.heap.size w w3) := hbW.out.trans (HX3.out.1.mono hbW.out.size)
        have hz3 : w3.heap[w.heap.size + 1]? = some (.cells #[.int .i64 0, .int .i64 0, .slice none 0 0] 83) := (HX3.out.1.block _ hS1).trans HZ.out
        have hk3 := HX3.out.2
        have hS3 : w1.heap.size < w3.heap.size := (Array.getElem?_eq_some_iff.1 hk3).1
        have hS4 : w.heap.size + 1 < w3.heap.size := by omega
        have hS5 : w.heap.size < w3.heap.size := by omega
        have HZ3 : Hid (w3.heap[w.heap.size + 1]? = some (.cells #[.int .i64 0, .int .i64 0, .slice none 0 0] 83) ∧ w3.heap[w1.heap.size]? = some (.cells #[.int .i64 k.typ, .int .u8 k.ton, .int .u8 k.npi, .string k.num, .int .i64 k.ref, .int .i64 k.tot] 73)) := ⟨hz3, hk3⟩
        clear hz3 hk3
        go_wp2_with fail
        refine HH.out.mono ?_
        rintro e w' ⟨rfl, rfl⟩
        rw [hnd]
        clear HH
        have hT : Hid (Fr isG B w w3) := Fr.of_below hbT.out
        have hBw3 : Hid (B ≤ w3.heap.size) := by show B ≤ _; have := hbT.out.size; omega
        have hym : y.m ≤ 4096 := by rw [HYN.out.2]; exact hlen2
        clear HO HP HYN
        obtain ⟨i3, z3, hiq, hz3', hs3, hb3, hc3⟩ := Try.g3
        have H3 : Hid (Try.prog.info? 3 = some i3 ∧ i3.zero = some z3 ∧ i3.size = 1 ∧ i3.bytes = 8 ∧ z3.cells.size = 1) := ⟨hiq, hz3', hs3, hb3, hc3⟩
        clear hiq hz3' hs3 hb3 hc3
        have hGa : Hid (GW (w3.alloc (.cells #[.int .i64 p] 3)) B (some ⟨g, 0, none⟩) gc l D) := hG3.out.below ((Below.refl _ _).alloc (Nat.le_refl _) _)
        have HOa : Hid ((w3.alloc (.cells #[.int .i64 p] 3)).ownsRow B 3 1 (.slice y.pa y.n y.pc) y.n (ints d.1)) := (hGa.out.ok j y d hi hd).2.2.1
        have HBa : Hid (B ≤ (w3.alloc (.cells #[.int .i64 p] 3)).heap.size) := by show B ≤ _; have := hBw3.out; simp; omega
        go_wp2_with (first
          | (refine wpList_append_own_at (P := Try.prog) _ rfl (.tmp 73) (.tmp 75) 74 rfl B 3 i3 z3 1 8 Try.underlying74 H3.out.1 H3.out.2.1 H3.out.2.2.1 H3.out.2.2.2.1 H3.out.2.2.2.2 (by decide) (.slice y.pa y.n y.pc) y.n (ints d.1) rfl (by exact HOa.out) ⟨w3.heap.size, 0, none⟩ 1 1 [.int .i64 p] rfl rfl (by exact cell_one_new w3 _ _) (by intro u hu; simp at hu; subst hu; rfl) (by unfold maxLen; omega) (by omega) (by exact HBa.out) ?_
             intro v1 w4 own4 gr4 hnil4 hat4
             obtain ⟨a4, c4, rfl⟩ := grow_slice own4
             have HG5 : Hid (GW (w4.setCell ⟨g, j * 9 + 6, none⟩ (.slice a4 (y.n + 1) c4)) B (some ⟨g, 0, none⟩) gc (l.set j { y with n := y.n + 1, pa := a4, pc := c4 }) (D.set j (d.1 ++ [p], d.2)) ∧ Fr isG B (w3.alloc (.cells #[.int .i64 p] 3)) (w4.setCell ⟨g, j * 9 + 6, none⟩ (.slice a4 (y.n + 1) c4))) := hGa.out.parts hi hd own4 gr4 hat4
             obtain ⟨r4, f4⟩ := grown_row_at hGa.out.row hi HOa.out gr4
             have c46 : w4.cell? ⟨g, j * 9 + 6, none⟩ = some (.slice y.pa y.n y.pc) := (GR.c r4).2.2.2.2.2.2.1
             have f46 := f4 (j * 9 + 6)
             clear own4 gr4 hnil4 hat4 r4 f4 HOa hGa HBa c6)
          | (show wpList _ _ _ (⟨_, Op.store 74 (.tmp 78) (.tmp 76), _, _, _, _⟩ :: _) _ _
             refine wpList_store1 rfl 74 (.tmp 78) (.tmp 76) rfl g (j * 9 + 6) (.slice a4 (y.n + 1) c4) rfl rfl rfl _ c46 f46 Try.size74 ?_
             intro w5 hw5
             rw [← hw5] at HG5
             clear hw5 c46 f46
             have hi5 := set_at (y := { y with n := y.n + 1, pa := a4, pc := c4 }) hi
             have hd5 := set_at (y := (d.1 ++ [p], d.2)) hd
             obtain ⟨g5, e5, _, _, r5⟩ := HG5.out.1.row.at hi5
             cases e5
             have c57 : w5.cell? ⟨g, j * 9 + 7, none⟩ = some (.slice y.ia y.m y.ic) := (GR.c r5).2.2.2.2.2.2.2.1
             have hBw5 : Hid (B ≤ w5.heap.size) := by show B ≤ _; have h1 := HG5.out.2.size; have h2 := hBw3.out; simp at h1; omega
             have hGb : Hid (GW (w5.alloc (.cells #[.int .i64 (s : Nat)] 3)) B (some ⟨g, 0, none⟩) gc (l.set j { y with n := y.n + 1, pa := a4, pc := c4 }) (D.set j (d.1 ++ [p], d.2))) := HG5.out.1.below ((Below.refl _ _).alloc (Nat.le_refl _) _)
             have HOb : Hid ((w5.alloc (.cells #[.int .i64 (s : Nat)] 3)).ownsRow B 3 1 (.slice y.ia y.m y.ic) y.m (ints d.2)) := (hGb.out.ok j _ _ hi5 hd5).2.2.2
             have HBb : Hid (B ≤ (w5.alloc (.cells #[.int .i64 (s : Nat)] 3)).heap.size) := by show B ≤ _; have := hBw5.out; simp; omega
             have HF5 : Hid (Fr isG B w w5) := (hT.out.trans (Fr.of_below ((Below.refl _ _).alloc (Nat.le_refl _) _))).trans HG5.out.2
             have H5 : Hid ((l.set j { y with n := y.n + 1, pa := a4, pc := c4 })[j]? = some { y with n := y.n + 1, pa := a4, pc := c4 } ∧ (D.set j (d.1 ++ [p], d.2))[j]? = some (d.1 ++ [p], d.2)) := ⟨hi5, hd5⟩
             clear hi5 hd5 r5)
          | (refine wpList_append_own_at (P := Try.prog) _ rfl (.tmp 85) (.tmp 87) 74 rfl B 3 i3 z3 1 8 Try.underlying74 H3.out.1 H3.out.2.1 H3.out.2.2.1 H3.out.2.2.2.1 H3.out.2.2.2.2 (by decide) (.slice y.ia y.m y.ic) y.m (ints d.2) rfl (by exact HOb.out) ⟨w5.heap.size, 0, none⟩ 1 1 [.int .i64 (s : Nat)] rfl rfl (by exact cell_one_new w5 _ _) (by intro u hu; simp at hu; subst hu; rfl) (by unfold maxLen; omega) (by omega) (by exact HBb.out) ?_
             intro v6 w6 own6 gr6 hnil6 hat6
             obtain ⟨a6, c6', rfl⟩ := grow_slice own6
             have HG7 := hGb.out.idx H5.out.1 H5.out.2 own6 gr6 hat6
             rw [List.set_set, List.set_set] at HG7
             have HG7 : Hid (GW (w6.setCell ⟨g, j * 9 + 7, none⟩ (.slice a6 (y.m + 1) c6')) B (some ⟨g, 0, none⟩) gc (l.set j { y with n := y.n + 1, pa := a4, pc := c4, m := y.m + 1, ia := a6, ic := c6' }) (D.set j (d.1 ++ [p], d.2 ++ [(s : Int)])) ∧ Fr isG B (w5.alloc (.cells #[.int .i64 (s : Nat)] 3)) (w6.setCell ⟨g, j * 9 + 7, none⟩ (.slice a6 (y.m + 1) c6'))) := HG7
             obtain ⟨r6, f6⟩ := grown_row_at hGb.out.row H5.out.1 HOb.out gr6
             have c67 : w6.cell? ⟨g, j * 9 + 7, none⟩ = some (.slice y.ia y.m y.ic) := (GR.c r6).2.2.2.2.2.2.2.1
             have f67 := f6 (j * 9 + 7)
             clear own6 gr6 hnil6 hat6 r6 f6 HOb hGb HBb c57)
          | (show wpList _ _ _ (⟨_, Op.store 74 (.tmp 90) (.tmp 88), _, _, _, _⟩ :: _) _ _
             refine wpList_store1 rfl 74 (.tmp 90) (.tmp 88) rfl g (j * 9 + 7) (.slice a6 (y.m + 1) c6') rfl rfl rfl _ c67 f67 Try.size74 ?_
             intro w7 hw7
             rw [← hw7] at HG7
             clear hw7 c67 f67
             have hi7 := set_at (y := { y with n := y.n + 1, pa := a4, pc := c4, m := y.m + 1, ia := a6, ic := c6' }) hi
             obtain ⟨g7, e7, _, _, r7⟩ := HG7.out.1.row.at hi7
             cases e7
             have c78 : w7.cell? ⟨g, j * 9 + 8, none⟩ = some (.int .i64 y.t) := (GR.c r7).2.2.2.2.2.2.2.2
             obtain ⟨g7', cur7, e7', _, h7⟩ := HG7.out.1.row.blk hi7
             cases e7'
             have f78 : w7.frozen? ⟨g, j * 9 + 8, none⟩ = false := cell_frozen h7
             have HF7 : Hid (Fr isG B w w7) := (HF5.out.trans (Fr.of_below ((Below.refl _ _).alloc (Nat.le_refl _) _))).trans HG7.out.2
             have HG9 := HG7.out.1.touch hi7 (s : Int)
             rw [List.set_set] at HG9
             have HG9 : Hid (GW (w7.setCell ⟨g, j * 9 + 8, none⟩ (.int .i64 (s : Nat))) B (some ⟨g, 0, none⟩) gc (l.set j { y with n := y.n + 1, pa := a4, pc := c4, m := y.m + 1, ia := a6, ic := c6', t := (s : Int) }) (D.set j (d.1 ++ [p], d.2 ++ [(s : Int)])) ∧ Fr isG B w7 (w7.setCell ⟨g, j * 9 + 8, none⟩ (.int .i64 (s : Nat)))) := HG9
             clear r7 h7 hi7)
          | (show wpList _ _ _ (⟨_, Op.store 3 (.tmp 95) (.tmp 93), _, _, _, _⟩ :: _) _ _
             refine wpList_store1 rfl 3 (.tmp 95) (.tmp 93) rfl g (j * 9 + 8) (.int .i64 (s : Nat)) rfl rfl rfl _ c78 f78 Try.size3 ?_
             intro w9 hw9
             rw [← hw9] at HG9
             clear hw9 c78 f78
             have hi9 := set_at (y := { y with n := y.n + 1, pa := a4, pc := c4, m := y.m + 1, ia := a6, ic := c6', t := (s : Int) }) hi
             obtain ⟨g9, e9, _, _, r9⟩ := HG9.out.1.row.at hi9
             cases e9
             have c96 : w9.cell? ⟨g, j * 9 + 6, none⟩ = some (.slice a4 (y.n + 1) c4) := (GR.c r9).2.2.2.2.2.2.1
             have HF9 : Hid (Fr isG B w3 w9 ∧ Fr isG B w w9) := ⟨(((Fr.of_below ((Below.refl _ _).alloc (Nat.le_refl _) _)).trans HG5.out.2).trans ((Fr.of_below ((Below.refl _ _).alloc (Nat.le_refl _) _)).trans HG7.out.2)).trans HG9.out.2, HF7.out.trans HG9.out.2⟩
             have hk9 : w9.heap[w1.heap.size]? = some (.cells #[.int .i64 k.typ, .int .u8 k.ton, .int .u8 k.npi, .string k.num, .int .i64 k.ref, .int .i64 k.tot] 73) := HF9.out.1.keep HZ3.out.2 (by rintro ⟨c, fr, h | h⟩ <;> simp at h)
             have hz9 : w9.heap[w.heap.size + 1]? = some (.cells #[.int .i64 0, .int .i64 0, .slice none 0 0] 83) := HF9.out.1.keep HZ3.out.1 (by rintro ⟨c, fr, h | h⟩ <;> simp at h)
             have k95 : w9.cell? ⟨w1.heap.size, 5, none⟩ = some (.int .i64 k.tot) := cell_of_row _ _ _ _ _ _ hk9
             have k94 : w9.cell? ⟨w1.heap.size, 4, none⟩ = some (.int .i64 k.ref) := cell_of_row _ _ _ _ _ _ hk9
             have HZ9 : Hid (w9.heap[w.heap.size + 1]? = some (.cells #[.int .i64 0, .int .i64 0, .slice none 0 0] 83) ∧ w9.heap[w1.heap.size]? = some (.cells #[.int .i64 k.typ, .int .u8 k.ton, .int .u8 k.npi, .string k.num, .int .i64 k.ref, .int .i64 k.tot] 73)) := ⟨hz9, hk9⟩
             have HR9 : Hid (w9.rangeAt g (j * 9) (GR.cells { y with n := y.n + 1, pa := a4, pc := c4, m := y.m + 1, ia := a6, ic := c6', t := (s : Int) })) := r9
             have hs9 : w3.heap.size ≤ w9.heap.size := HF9.out.1.size
             clear r9 hk9 hz9 HF5 HF7 H5 HG5 HG7 hi9))
        clear c7 c8
        have htot : (((y.n + 1 : Nat) : Int) == k.tot) = false := by simp only [beq_eq_false_iff_ne, ne_eq]; intro h; exact hnt (by rw [← h]; rfl)
        go_quiet (fail)
        have HGI : Hid (GI (w9.drewN nq) B (some ⟨g, 0, none⟩) gc ((l.map GR.kt).set j (k, (s : Int))) (D.set j (d.1 ++ [p], d.2 ++ [(s : Int)]))) := ⟨_, HG9.out.1.below (below_drewN (Below.refl _ _) _), by rw [kt_set]; simp only [GR.kt, HYK.out]⟩
        have HI83 : Hid (Is83 (w9.drewN nq) (w.heap.size + 1)) := ⟨_, _, HZ9.out.1⟩
        have HFN : Hid (Fr isG B w (w9.drewN nq)) := HF9.out.2.drewN _
        have hz10 : (w9.drewN nq).heap[w.heap.size + 1]? = some (.cells #[.int .i64 0, .int .i64 0, .slice none 0 0] 83) := HZ9.out.1
        clear HG9 HF9 HZ9 HR9 k95 k94 c96
        generalize w9.drewN nq = w10 at *
        have o0 : w10.cell? ⟨w.heap.size + 1, 0, none⟩ = some (.int .i64 0) := cell_of_row _ _ _ _ _ _ (hz10)
        have o1 : w10.cell? ⟨w.heap.size + 1, 1, none⟩ = some (.int .i64 0) := cell_of_row _ _ _ _ _ _ (hz10)
        have o2 : w10.cell? ⟨w.heap.size + 1, 2, none⟩ = some (.slice none 0 0) := cell_of_row _ _ _ _ _ _ (hz10)
        have of : ∀ k, w10.frozen? ⟨w.heap.size + 1, k, none⟩ = false := fun k => by simp [World.frozen?, (hz10)]
        clear hz10
        go_wp2
        (try simp only [Exit.inBlock, Exit.then])
        refine bodyPost_ret (v := stepOut (some ⟨g, 0, none⟩) n gc (wrap64 (held + 1)) 0 0 none 0 0) ?_ rfl ⟨⟨_, rfl⟩, ?_, ?_⟩
        · rw [results_tmp_tmp_cell rfl]
          go_simp
          rfl
        · repeat' (first | with_reducible exact HGI.out | with_reducible exact HI83.out | with_reducible refine GI.set83 ?_ ?_ _ _ | with_reducible refine Is83.set ?_ _ _)
        · repeat' (first | with_reducible exact HFN.out | with_reducible refine Fr.set_new ?_ (by omega) _ _)
      · have hji' : j < i := by
          rcases Nat.lt_or_ge j i with h | h
          · exact h
          · exact absurd HYK0.out (hno.out i y (by omega) hi)
        have hsame : (z.key.same k) = false := Bool.eq_false_iff.2 fun h => hfirst j z hji' hz (Key.same_iff.1 h)
        have hno2 : Hid (∀ j' z', j' < j + 1 → l[j']? = some z' → z'.key ≠ k) := fun j' z' h1 h2 => by
          rcases Nat.lt_or_ge j' j with h | h
          · exact hno.out j' z' h h2
          · obtain rfl : j' = j := by omega
            rw [hz] at h2; cases h2
            exact hfirst j' z hji' hz
        clear hno hfirst hrg hyk
        go_wp2
        go_quiet (fail)
        go_wp2
        go_roundw
        case rel => exact ⟨j + 1, by omega, by go_num, rfl, hno2, below_drewN HX.out.1 _, HX.out.2⟩
        case measure => simp [intOf]; omega
    · exact absurd HYK0.out (hno.out i y (by have := HN.out; have := (List.getElem?_eq_some_iff.1 hi).1; omega) hi)

end Go.Proofs.Qxb6616208a
