/-
  zzBuild (28).
-/
import Derived.Test.Qxb6616208aClone
import Derived.Test.Qxb6616208aScr
import Derived.Laws.Cover3
import Derived.Laws.OwnMore
import Derived.Deep.RegionWith
import Derived.Deep.CutRange
namespace Go.Proofs.Qxb6616208a
open Go.RowKit
set_option linter.unusedVariables false
set_option linter.unusedSimpArgs false

/-- the elements built so far: block g, two cells each -/
structure EB (w : World) (g n : Nat) (es : List El) (j : Nat) : Prop where
  blk : ∃ cs : Array Value, w.heap[g]? = some (.cells cs 27 (0, 0)) ∧ cs.size = n * 2
  el : ∀ i id d, i < j → es[i]? = some (id, d) → w.cell? ⟨g, i * 2, none⟩ = some (.int .u8 id) ∧ ∃ a c, w.cell? ⟨g, i * 2 + 1, none⟩ = some (.slice a d.length c) ∧ Bytes w a d ∧ (a = none → d.length = 0 ∧ c = 0) ∧ ∀ b o, a = some ⟨b, o, none⟩ → b ≠ g

theorem EB.lt {w : World} {g n : Nat} {es : List El} {j : Nat} (h : EB w g n es j) : g < w.heap.size := by
  obtain ⟨cs, h1, _⟩ := h.blk
  exact (Array.getElem?_eq_some_iff.1 h1).1
theorem EB.below {w w' : World} {g n : Nat} {es : List El} {j : Nat} (h : EB w g n es j) (hb : Below w.heap.size w w') : EB w' g n es j := by
  obtain ⟨cs, h1, h2⟩ := h.blk
  refine ⟨⟨cs, (hb.block _ h.lt).trans h1, h2⟩, fun i id d hi hd => ?_⟩
  obtain ⟨e1, a, c, e2, e3, e4, e5⟩ := h.el i id d hi hd
  exact ⟨(hb.cell (by exact h.lt)).trans e1, a, c, (hb.cell (by exact h.lt)).trans e2, e3.below hb, e4, e5⟩
theorem EB.alloc {w : World} {g n : Nat} {es : List El} {j : Nat} (h : EB w g n es j) (o : Obj) : EB (w.alloc o) g n es j := h.below ((Below.refl _ _).alloc (Nat.le_refl _) _)
theorem EB.old {w : World} {g n : Nat} {es : List El} {j : Nat} (h : EB w g n es j) {k : Nat} (hk : k < n * 2) : ∃ v, w.cell? ⟨g, k, none⟩ = some v := by
  obtain ⟨cs, h1, h2⟩ := h.blk
  exact ⟨cs[k]'(by omega), (cell_of_row _ _ _ _ _ _ h1).trans (Array.getElem?_eq_getElem (by omega))⟩
theorem EB.frozen {w : World} {g n : Nat} {es : List El} {j : Nat} (h : EB w g n es j) (k : Nat) : w.frozen? ⟨g, k, none⟩ = false := by
  obtain ⟨cs, h1, h2⟩ := h.blk
  simp [World.frozen?, h1]

theorem Bytes.set_other {w : World} {a : Option Addr} {d : List Int} (h : Bytes w a d) {g : Nat} (hne : ∀ b o, a = some ⟨b, o, none⟩ → b ≠ g) (k : Nat) (v : Value) : Bytes (w.setCell ⟨g, k, none⟩ v) a d := by
  intro i z hz
  obtain ⟨b, off, e, h1, h2, h3⟩ := h i z hz
  exact ⟨b, off, e, by simpa [World.setCell] using h1, (World.cell?_of_block (w := w) (Below.heap_setCell _ _ _ _ (by exact hne b off e))).trans h2, h3⟩

/-- one element more -/
theorem EB.step {w : World} {g n : Nat} {es : List El} {j : Nat} (h : EB w g n es j) {id : Int} {d : List Int} (hd : es[j]? = some (id, d)) (hj : j < n) {a : Option Addr} {c : Nat} (hB : Bytes w a d) (hnil : a = none → d.length = 0 ∧ c = 0) (hne : ∀ b o, a = some ⟨b, o, none⟩ → b ≠ g) :
    EB ((w.setCell ⟨g, j * 2, none⟩ (.int .u8 id)).setCell ⟨g, j * 2 + 1, none⟩ (.slice a d.length c)) g n es (j + 1) := by
  obtain ⟨cs, h1, h2⟩ := h.blk
  have hb1 : (w.setCell ⟨g, j * 2, none⟩ (.int .u8 id)).heap[g]? = some (.cells (cs.setIfInBounds (j * 2) (.int .u8 id)) 27 (0, 0)) := by simp [World.setCell, Array.getElem?_modify, h1]
  have hb2 : ((w.setCell ⟨g, j * 2, none⟩ (.int .u8 id)).setCell ⟨g, j * 2 + 1, none⟩ (.slice a d.length c)).heap[g]? = some (.cells ((cs.setIfInBounds (j * 2) (.int .u8 id)).setIfInBounds (j * 2 + 1) (.slice a d.length c)) 27 (0, 0)) := by
    rw [show ∀ (W : World) (c : Array Value) (o : Nat) (v : Value), W.heap[g]? = some (.cells c 27 (0, 0)) → (W.setCell ⟨g, o, none⟩ v).heap[g]? = some (.cells (c.setIfInBounds o v) 27 (0, 0)) from fun W c o v h => by simp [World.setCell, Array.getElem?_modify, h]]
    exact hb1
  refine ⟨⟨_, hb2, by simpa using h2⟩, fun i id' d' hi hd' => ?_⟩
  rw [cell_of_row _ _ _ _ _ _ hb2, cell_of_row _ _ _ _ _ _ hb2]
  by_cases e : i = j
  · subst e
    rw [hd] at hd'
    cases hd'
    have hl1 : i * 2 < cs.size := by omega
    have hl2 : i * 2 + 1 < cs.size := by omega
    refine ⟨?_, a, c, ?_, (hB.set_other hne _ _).set_other hne _ _, hnil, hne⟩
    · rw [Array.getElem?_setIfInBounds_ne (by omega)]
      simp [hl1]
    · simp [hl2]
  · obtain ⟨e1, a', c', e2, e3, e4, e5⟩ := h.el i id' d' (by omega) hd'
    rw [cell_of_row _ _ _ _ _ _ h1] at e1 e2
    refine ⟨?_, a', c', ?_, (e3.set_other e5 _ _).set_other e5 _ _, e4, e5⟩
    · rw [Array.getElem?_setIfInBounds_ne (by omega), Array.getElem?_setIfInBounds_ne (by omega)]; exact e1
    · rw [Array.getElem?_setIfInBounds_ne (by omega), Array.getElem?_setIfInBounds_ne (by omega)]; exact e2

theorem EB.els {w : World} {g : Nat} {es : List El} (h : EB w g es.length es es.length) (hid : ∀ e ∈ es, (0 ≤ e.1 ∧ e.1 < 256) ∧ e.2.length ≤ maxLen) : Els w (some ⟨g, 0, none⟩) es := by
  intro i id d hd
  obtain ⟨e1, a, c, e2, e3, e4, e5⟩ := h.el i id d (List.getElem?_eq_some_iff.1 hd).1 hd
  obtain ⟨k1, k2⟩ := hid _ (List.mem_of_getElem? hd)
  exact ⟨g, 0, a, d.length, c, rfl, h.lt, by simpa using e1, by simpa using e2, k1, rfl, k2, e3, e4⟩

theorem els_ids {w : World} {ea : Option Addr} {es : List El} (h : Els w ea es) : ∀ e ∈ es, (0 ≤ e.1 ∧ e.1 < 256) ∧ e.2.length ≤ maxLen := by
  intro e he
  obtain ⟨i, hi⟩ := List.mem_iff_getElem?.1 he
  obtain ⟨b, off, a, n, cap, _, _, _, _, h1, h2, h3, _⟩ := h i e.1 e.2 hi
  exact ⟨h1, by rw [h2]; exact h3⟩

theorem cloned_bytes {w w' : World} {d : List Int} {e : Ending} (h : Cloned w w' d e) : ∃ a c, e = .returned (.slice a d.length c) ∧ Bytes w' a d ∧ (a = none → d.length = 0 ∧ c = 0) ∧ ∀ b o, a = some ⟨b, o, none⟩ → w.heap.size ≤ b := by
  rcases h with ⟨rfl, rfl⟩ | ⟨g, rfl, h1, h2, h3⟩
  · exact ⟨none, 0, rfl, fun i z hz => by simp at hz, fun _ => ⟨rfl, rfl⟩, fun b o e => by cases e⟩
  · refine ⟨some ⟨g, 0, none⟩, d.length, rfl, fun i z hz => ?_, fun e => (by cases e), fun b o e => by cases e; exact h1⟩
    have hi := (List.getElem?_eq_some_iff.1 hz).1
    refine ⟨g, 0, rfl, h2.lt, ?_, h3 z (List.mem_of_getElem? hz)⟩
    rw [Nat.zero_add, h2.cell hi]
    simp [hz]

theorem Try.g27 : ∃ i z, Try.prog.info? 27 = some i ∧ i.zero = some z ∧ i.size = 2 ∧ i.bytes = 32 ∧ z.cells.size = 2 := by
  have h : (Try.prog.info? 27).map (fun i => (i.size, i.bytes, i.zero.map (·.cells.size))) = some (2, 32, some 2) := by kernel_rfl
  cases hq : Try.prog.info? 27 with
  | none => rw [hq] at h; cases h
  | some i =>
    rw [hq] at h
    simp only [Option.map_some, Option.some.injEq, Prod.mk.injEq] at h
    obtain ⟨h1, h2, h3⟩ := h
    cases hz : i.zero with
    | none => rw [hz] at h3; cases h3
    | some z => rw [hz] at h3; exact ⟨i, z, rfl, hz, h1, h2, by simpa using h3⟩

set_option maxHeartbeats 4000000 in
set_option maxRecDepth 100000 in
theorem zzBuild_some (x : Pd) (ad : Addr) (n ec : Nat) (w : World) (hn : Hid (x.els.length = n)) (hnl : n ≤ 1048576) (hsm : Hid (x.Small)) (hE : Hid (Els w (some ad) x.els)) (hok : Hid (x.Ok)) :
    Calls Try.prog 28 #[.agg #[.string x.smsc, .int .i64 x.typ, .int .u8 x.fton, .int .u8 x.fnpi, .string x.fnum, .int .u8 x.tton, .int .u8 x.tnpi, .string x.tnum, .slice (some ad) n ec]] w fun e w' => ∃ p, e = .returned (.pointer (some ⟨p, 0, none⟩)) ∧ w.heap.size ≤ p ∧ PAt w' p x ∧ Below w.heap.size w w' := by
  obtain ⟨i27, z27, hi27, hz27, hs27, hb27, hc27⟩ := Try.g27
  have hb0 : Below w.heap.size w (w.alloc (.cells #[.string x.smsc, .int .i64 x.typ, .int .u8 x.fton, .int .u8 x.fnpi, .string x.fnum, .int .u8 x.tton, .int .u8 x.tnpi, .string x.tnum, .slice (some ad) n ec] 79)) := (Below.refl _ _).alloc (Nat.le_refl _) _
  obtain ⟨w1, hmk, own1, gr1⟩ := run_make_full (P := Try.prog) (w.alloc (.cells #[.string x.smsc, .int .i64 x.typ, .int .u8 x.fton, .int .u8 x.fnpi, .string x.fnum, .int .u8 x.tton, .int .u8 x.tnpi, .string x.tnum, .slice (some ad) n ec] 79)) 0 28 27 i27 z27 2 Try.underlying28 hi27 hz27 hs27 .i64 .i64 n (by rw [hb27]; omega) (by unfold maxLen; omega) (Nat.zero_le _)
  have hsz : (w.alloc (.cells #[.string x.smsc, .int .i64 x.typ, .int .u8 x.fton, .int .u8 x.fnpi, .string x.fnum, .int .u8 x.tton, .int .u8 x.tnpi, .string x.tnum, .slice (some ad) n ec] 79)).heap.size = w.heap.size + 1 := by simp
  rw [hsz] at hmk own1
  have H1 : Hid (EB w1 (w.heap.size + 1) n x.els 0 ∧ Below w.heap.size w w1 ∧ w1.heap[w.heap.size]? = some (.cells #[.string x.smsc, .int .i64 x.typ, .int .u8 x.fton, .int .u8 x.fnpi, .string x.fnum, .int .u8 x.tton, .int .u8 x.tnpi, .string x.tnum, .slice (some ad) n ec] 79)) := by
    refine ⟨⟨?_, fun i id d hi => by omega⟩, hb0.trans ⟨gr1.os, gr1.tape, gr1.output, gr1.size, fun k hk => gr1.block k (by rw [hsz]; omega) (by simp)⟩, (gr1.block _ (by rw [hsz]; omega) (by simp)).trans (heap_alloc_new w _)⟩
    rcases own1.2 with ⟨e, _⟩ | ⟨g', cap', cur, e, _, hg, _, _, hsz2, _⟩
    · cases e
    · simp only [Value.slice.injEq, Option.some.injEq, Addr.mk.injEq] at e
      obtain ⟨⟨rfl, -⟩, -, rfl⟩ := e
      exact ⟨cur, hg, hsz2⟩
  clear hi27 hz27 hs27 hb27 hc27 own1 gr1 hb0 hsz
  go_enter Try.func28, Try.ntmps28
  go_wp2
  clear hmk
  go_loopw [4] (fun i wr => ∃ j : Nat, j ≤ n ∧ i = .int .i64 j ∧ Hid (EB wr (w.heap.size + 1) n x.els j ∧ Below w.heap.size w wr ∧ wr.heap[w.heap.size]? = some (.cells #[.string x.smsc, .int .i64 x.typ, .int .u8 x.fton, .int .u8 x.fnpi, .string x.fnum, .int .u8 x.tton, .int .u8 x.tnpi, .string x.tnum, .slice (some ad) n ec] 79))) (fun i _ => n - (intOf i).toNat)
  case atStart => exact ⟨0, Nat.zero_le _, rfl, H1⟩
  case round =>
    obtain ⟨j, hj, rfl, HI⟩ := hrel
    clear H1
    have z8 : wr.cell? ⟨w.heap.size, 8, none⟩ = some (.slice (some ad) n ec) := cell_of_row _ _ _ _ _ _ HI.out.2.2
    by_cases hlt : j < n
    · obtain ⟨⟨id, d⟩, hd⟩ : ∃ y, x.els[j]? = some y := ⟨_, List.getElem?_eq_getElem (by have := hn.out; omega)⟩
      obtain ⟨b, off, a, nd, cp, e0, hbl, c1, c2, hid, hdl, hnl2, hB, hnil⟩ := hE.out j id d hd
      cases e0
      have hjn : (j : Int) < n := by omega
      have hbr : b < wr.heap.size := Nat.lt_of_lt_of_le hbl HI.out.2.1.size
      have HD : Hid (x.els[j]? = some (id, d) ∧ d.length = nd) := ⟨hd, hdl⟩
      rw [← HI.out.2.1.cell (by exact hbl)] at c1 c2
      have hSr : w.heap.size < wr.heap.size := World.block_lt_of_cell? _ _ z8
      have hgr : w.heap.size + 1 < wr.heap.size := HI.out.1.lt
      have HCL : Hid (∀ W, Below wr.heap.size wr W → Calls Try.prog 38 #[.slice a nd cp] W fun e w' => ∃ a' c', e = .returned (.slice a' nd c') ∧ Bytes w' a' d ∧ (a' = none → nd = 0 ∧ c' = 0) ∧ (∀ b o, a' = some ⟨b, o, none⟩ → b ≠ w.heap.size + 1) ∧ Below wr.heap.size wr w') := fun W hW => by
        refine (zzClone_any a nd cp d W hdl (by rw [← hdl]; exact hsm.out.2 _ (List.mem_of_getElem? hd)) ((hB.below HI.out.2.1).below hW) hnil).mono ?_
        rintro e w' ⟨hc, hb⟩
        obtain ⟨a', c', h1, h2, h3, h4⟩ := cloned_bytes hc
        rw [hdl] at h1 h3
        exact ⟨a', c', h1, h2, h3, fun b o e => by have := h4 b o e; have := hW.size; omega, hW.trans (hb.mono hW.size)⟩
      clear hB hnil hdl hd
      go_wp2_with fail
      go_region_with (go_at_call 38; refine (HCL.out _ (by first | exact Below.refl _ _ | exact (Below.refl _ _).drew)).mono ?_; rintro e w5 ⟨a', c', rfl, hB5, hn5, hne5, hb5⟩; have y8 : w5.cell? ⟨w.heap.size, 8, none⟩ = some (.slice (some ⟨b, off, none⟩) n ec) := (hb5.cell (by exact hSr)).trans z8; have y1 : w5.cell? ⟨b, off + j * 2, none⟩ = some (.int .u8 id) := (hb5.cell (by exact hbr)).trans c1; have hE5 := HI.out.1.below hb5; obtain ⟨v1, hv1⟩ := hE5.old (k := j * 2) (by omega); obtain ⟨v2, hv2⟩ := hE5.old (k := j * 2 + 1) (by omega); have hf5 : ∀ k, w5.frozen? ⟨w.heap.size + 1, k, none⟩ = false := fun k => hE5.frozen k; have H5 : Hid (EB w5 (w.heap.size + 1) n x.els j ∧ Below wr.heap.size wr w5 ∧ Bytes w5 a' d ∧ (a' = none → nd = 0 ∧ c' = 0) ∧ (∀ b o, a' = some ⟨b, o, none⟩ → b ≠ w.heap.size + 1)) := ⟨hE5, hb5, hB5, hn5, hne5⟩; clear hE5 hb5 hB5 hn5 hne5)
      all_goals
        have HN5 : Hid (EB ((w5.setCell ⟨w.heap.size + 1, j * 2, none⟩ (.int .u8 id)).setCell ⟨w.heap.size + 1, j * 2 + 1, none⟩ (.slice a' nd c')) (w.heap.size + 1) n x.els (j + 1) ∧ Below w.heap.size w ((w5.setCell ⟨w.heap.size + 1, j * 2, none⟩ (.int .u8 id)).setCell ⟨w.heap.size + 1, j * 2 + 1, none⟩ (.slice a' nd c')) ∧ ((w5.setCell ⟨w.heap.size + 1, j * 2, none⟩ (.int .u8 id)).setCell ⟨w.heap.size + 1, j * 2 + 1, none⟩ (.slice a' nd c')).heap[w.heap.size]? = some (.cells #[.string x.smsc, .int .i64 x.typ, .int .u8 x.fton, .int .u8 x.fnpi, .string x.fnum, .int .u8 x.tton, .int .u8 x.tnpi, .string x.tnum, .slice (some ⟨b, off, none⟩) n ec] 79)) := by
          obtain ⟨q1, q2, q3, q4, q5⟩ := H5.out
          have hw5 : Below w.heap.size w w5 := HI.out.2.1.trans (q2.mono HI.out.2.1.size)
          refine ⟨?_, (hw5.setCell (by simp) _).setCell (by simp) _, ?_⟩
          · have h := q1.step HD.out.1 hlt (a := a') (c := c') q3 (by rw [HD.out.2]; exact q4) q5
            rw [HD.out.2] at h
            exact h
          · rw [Below.heap_setCell _ _ _ _ (by simp), Below.heap_setCell _ _ _ _ (by simp)]
            exact (q2.block _ hSr).trans HI.out.2.2
        clear H5 HI HCL
        go_wp2
        go_roundw
        case rel => exact ⟨j + 1, by omega, by go_num, HN5⟩
        case measure => simp [intOf]; omega
    · have z0 : wr.cell? ⟨w.heap.size, 0, none⟩ = some (.string x.smsc) := cell_of_row _ _ _ _ _ _ HI.out.2.2
      have z1 : wr.cell? ⟨w.heap.size, 1, none⟩ = some (.int .i64 x.typ) := cell_of_row _ _ _ _ _ _ HI.out.2.2
      have z2 : wr.cell? ⟨w.heap.size, 2, none⟩ = some (.int .u8 x.fton) := cell_of_row _ _ _ _ _ _ HI.out.2.2
      have z3 : wr.cell? ⟨w.heap.size, 3, none⟩ = some (.int .u8 x.fnpi) := cell_of_row _ _ _ _ _ _ HI.out.2.2
      have z4 : wr.cell? ⟨w.heap.size, 4, none⟩ = some (.string x.fnum) := cell_of_row _ _ _ _ _ _ HI.out.2.2
      have z5 : wr.cell? ⟨w.heap.size, 5, none⟩ = some (.int .u8 x.tton) := cell_of_row _ _ _ _ _ _ HI.out.2.2
      have z6 : wr.cell? ⟨w.heap.size, 6, none⟩ = some (.int .u8 x.tnpi) := cell_of_row _ _ _ _ _ _ HI.out.2.2
      have z7 : wr.cell? ⟨w.heap.size, 7, none⟩ = some (.string x.tnum) := cell_of_row _ _ _ _ _ _ HI.out.2.2
      have hjn : j = n := by omega
      subst hjn
      have HX : Hid (EB wr (w.heap.size + 1) j x.els j ∧ Below w.heap.size w wr) := ⟨HI.out.1, HI.out.2.1⟩
      have hgr : w.heap.size + 1 < wr.heap.size := HI.out.1.lt
      clear HI
      go_wp2
      go_ret
      refine ⟨wr.heap.size, rfl, by omega, ⟨⟨by simp, ⟨some ⟨w.heap.size + 1, 0, none⟩, j, ?_, ?_⟩, by rw [hn.out]; unfold maxLen; omega⟩, cell_of_row _ _ _ _ _ _ (heap_alloc_new _ _), cell_of_row _ _ _ _ _ _ (heap_alloc_new _ _), cell_of_row _ _ _ _ _ _ (heap_alloc_new _ _), cell_of_row _ _ _ _ _ _ (heap_alloc_new _ _), cell_of_row _ _ _ _ _ _ (heap_alloc_new _ _), cell_of_row _ _ _ _ _ _ (heap_alloc_new _ _), cell_of_row _ _ _ _ _ _ (heap_alloc_new _ _)⟩, HX.out.2.alloc HX.out.2.size _⟩
      · rw [hn.out]; exact cell_of_row _ _ _ _ _ _ (heap_alloc_new _ _)
      · have h := HX.out.1
        rw [← hn.out] at h
        exact (h.alloc _).els (els_ids hE.out)

set_option maxHeartbeats 2000000 in
set_option maxRecDepth 100000 in
theorem zzBuild_nil (x : Pd) (w : World) (hx : Hid (x.els = [])) :
    Calls Try.prog 28 #[.agg #[.string x.smsc, .int .i64 x.typ, .int .u8 x.fton, .int .u8 x.fnpi, .string x.fnum, .int .u8 x.tton, .int .u8 x.tnpi, .string x.tnum, .slice none 0 0]] w fun e w' => ∃ p, e = .returned (.pointer (some ⟨p, 0, none⟩)) ∧ w.heap.size ≤ p ∧ PAt w' p x ∧ Below w.heap.size w w' := by
  go_enter Try.func28, Try.ntmps28
  go_wp2
  go_ret
  refine ⟨w.heap.size + 1, rfl, by omega, ⟨⟨by simp, ⟨none, 0, ?_, ?_⟩, by rw [hx.out]; simp⟩, cell_of_row _ _ _ _ _ _ (heap_alloc2_new _ _ _), cell_of_row _ _ _ _ _ _ (heap_alloc2_new _ _ _), cell_of_row _ _ _ _ _ _ (heap_alloc2_new _ _ _), cell_of_row _ _ _ _ _ _ (heap_alloc2_new _ _ _), cell_of_row _ _ _ _ _ _ (heap_alloc2_new _ _ _), cell_of_row _ _ _ _ _ _ (heap_alloc2_new _ _ _), cell_of_row _ _ _ _ _ _ (heap_alloc2_new _ _ _)⟩, ((Below.refl _ _).alloc (Nat.le_refl _) _).alloc (by simp) _⟩
  · rw [hx.out]; exact cell_of_row _ _ _ _ _ _ (heap_alloc2_new _ _ _)
  · rw [hx.out]; intro i id d hd; simp at hd

end Go.Proofs.Qxb6616208a
