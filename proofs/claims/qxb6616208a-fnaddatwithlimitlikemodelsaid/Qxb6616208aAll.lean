/-
  zzBuildAll (18).
-/
import Derived.Test.Qxb6616208aBuild
namespace Go.Proofs.Qxb6616208a
open Go.RowKit
set_option linter.unusedVariables false
set_option linter.unusedSimpArgs false

theorem zzBuild_any (x : Pd) (ea : Option Addr) (ec : Nat) (w : World) (hsm : Hid (x.Small)) (hE : Hid (Els w ea x.els)) (hok : Hid (x.Ok)) (hnil : Hid (ea = none → x.els.length = 0 ∧ ec = 0)) :
    Calls Try.prog 28 #[.agg #[.string x.smsc, .int .i64 x.typ, .int .u8 x.fton, .int .u8 x.fnpi, .string x.fnum, .int .u8 x.tton, .int .u8 x.tnpi, .string x.tnum, .slice ea x.els.length ec]] w fun e w' => ∃ p, e = .returned (.pointer (some ⟨p, 0, none⟩)) ∧ w.heap.size ≤ p ∧ PAt w' p x ∧ Below w.heap.size w w' := by
  cases ea with
  | none =>
    obtain ⟨h1, h2⟩ := hnil.out rfl
    rw [h1, h2]
    exact zzBuild_nil x w (List.length_eq_zero_iff.1 h1)
  | some ad => exact zzBuild_some x ad x.els.length ec w rfl hsm.out.1 hsm hE hok

theorem ZAt.below_at {w w' : World} {B b o : Nat} {x : Pd} {ea : Option Addr} {ec : Nat} (h : ZAt w b o x ea ec) (hl : b < B) (hb : Below B w w') : ZAt w' b o x ea ec := by
  have g : ∀ o, w'.cell? ⟨b, o, none⟩ = w.cell? ⟨b, o, none⟩ := fun o => hb.cell (by exact hl)
  exact ⟨(g _).trans h.c0, (g _).trans h.c1, (g _).trans h.c2, (g _).trans h.c3, (g _).trans h.c4, (g _).trans h.c5, (g _).trans h.c6, (g _).trans h.c7, (g _).trans h.c8⟩

theorem Scr.below_at {w w' : World} {sa : Option Addr} {l : List Pd} (h : Scr w sa l) (hb : Below w.heap.size w w') : Scr w' sa l := h.below hb

/-- all that lies in block g are pointers -/
def Ptrs (w : World) (g : Nat) : Prop := ∀ (k : Nat) (v : Value), w.cell? ⟨g, k, none⟩ = some v → ∃ q, v = .pointer q

theorem cell_keep {w : World} {g b o k : Nat} {v u : Value} (hP : Ptrs w g) (h : w.cell? ⟨b, o, none⟩ = some v) (hv : ∀ q, v ≠ .pointer q) : (w.setCell ⟨g, k, none⟩ u).cell? ⟨b, o, none⟩ = some v := by
  have hne : b ≠ g := fun e => by
    subst e
    obtain ⟨q, rfl⟩ := hP o v h
    exact hv q rfl
  exact (World.cell?_of_block (w := w) (Below.heap_setCell _ _ _ _ (by exact hne))).trans h

theorem size_set (w : World) (a : Addr) (v : Value) : (w.setCell a v).heap.size = w.heap.size := by simp [World.setCell]

theorem Bytes.set32 {w : World} {g k : Nat} {u : Value} (hP : Ptrs w g) {a : Option Addr} {d : List Int} (h : Bytes w a d) : Bytes (w.setCell ⟨g, k, none⟩ u) a d := by
  intro i z hz
  obtain ⟨b, off, e, h1, h2, h3⟩ := h i z hz
  exact ⟨b, off, e, by rw [size_set]; exact h1, cell_keep hP h2 (by simp), h3⟩

theorem Els.set32 {w : World} {g k : Nat} {u : Value} (hP : Ptrs w g) {ea : Option Addr} {es : List El} (h : Els w ea es) : Els (w.setCell ⟨g, k, none⟩ u) ea es := by
  intro i id d hd
  obtain ⟨b, off, a, n, cap, e, h1, h2, h3, h4, h5, h6, h7, h8⟩ := h i id d hd
  exact ⟨b, off, a, n, cap, e, by rw [size_set]; exact h1, cell_keep hP h2 (by simp), cell_keep hP h3 (by simp), h4, h5, h6, h7.set32 hP, h8⟩

theorem PAt.set32 {w : World} {g k p : Nat} {u : Value} {x : Pd} (hP : Ptrs w g) (h : PAt w p x) : PAt (w.setCell ⟨g, k, none⟩ u) p x := by
  obtain ⟨ea, cap, h1, h2⟩ := h.el.els
  exact ⟨⟨by rw [size_set]; exact h.el.lt, ⟨ea, cap, cell_keep hP h1 (by simp), h2.set32 hP⟩, h.el.len⟩, cell_keep hP h.c3 (by simp), cell_keep hP h.c4 (by simp), cell_keep hP h.c5 (by simp), cell_keep hP h.c6 (by simp), cell_keep hP h.c10 (by simp), cell_keep hP h.c11 (by simp), cell_keep hP h.c12 (by simp)⟩

/-- the row of pointers built so far -/
structure PB (w : World) (g n : Nat) (l : List Pd) (pb : Nat → Nat) (j : Nat) : Prop where
  blk : ∃ cs : Array Value, w.heap[g]? = some (.cells cs 32 (0, 0)) ∧ cs.size = n ∧ (∀ (i : Nat), i < j → cs[i]? = some (Value.pointer (some ⟨pb i, 0, none⟩))) ∧ ∀ (i : Nat) (v : Value), cs[i]? = some v → ∃ q, v = Value.pointer q
  at_ : ∀ (i : Nat) (x : Pd), i < j → l[i]? = some x → PAt w (pb i) x

theorem PB.lt {w : World} {g n : Nat} {l : List Pd} {pb : Nat → Nat} {j : Nat} (h : PB w g n l pb j) : g < w.heap.size := by
  obtain ⟨cs, h1, _⟩ := h.blk
  exact (Array.getElem?_eq_some_iff.1 h1).1
theorem PB.below {w w' : World} {g n : Nat} {l : List Pd} {pb : Nat → Nat} {j : Nat} (h : PB w g n l pb j) (hb : Below w.heap.size w w') : PB w' g n l pb j := by
  obtain ⟨cs, h1, h2⟩ := h.blk
  exact ⟨⟨cs, (hb.block _ h.lt).trans h1, h2⟩, fun i x hi hx => (h.at_ i x hi hx).below hb⟩
theorem PB.old {w : World} {g n : Nat} {l : List Pd} {pb : Nat → Nat} {j : Nat} (h : PB w g n l pb j) {k : Nat} (hk : k < n) : ∃ v, w.cell? ⟨g, k, none⟩ = some v := by
  obtain ⟨cs, h1, h2, _⟩ := h.blk
  exact ⟨cs[k]'(by omega), (cell_of_row _ _ _ _ _ _ h1).trans (Array.getElem?_eq_getElem (by omega))⟩
theorem PB.frozen {w : World} {g n : Nat} {l : List Pd} {pb : Nat → Nat} {j : Nat} (h : PB w g n l pb j) (k : Nat) : w.frozen? ⟨g, k, none⟩ = false := by
  obtain ⟨cs, h1, _⟩ := h.blk
  simp [World.frozen?, h1]
theorem PB.ptrs {w : World} {g n : Nat} {l : List Pd} {pb : Nat → Nat} {j : Nat} (h : PB w g n l pb j) : Ptrs w g := fun k v hv => by
  obtain ⟨cs, h1, h2, h3, h4⟩ := h.blk
  rw [cell_of_row _ _ _ _ _ _ h1] at hv
  exact h4 k v hv

theorem PB.step {w : World} {g n : Nat} {l : List Pd} {pb : Nat → Nat} {j : Nat} (h : PB w g n l pb j) (hj : j < n) {p : Nat} {x : Pd} (hx : l[j]? = some x) (hp : PAt w p x) :
    PB (w.setCell ⟨g, j, none⟩ (.pointer (some ⟨p, 0, none⟩))) g n l (fun i => if i = j then p else pb i) (j + 1) := by
  obtain ⟨cs, h1, h2, h3, h4⟩ := h.blk
  refine ⟨⟨cs.setIfInBounds j (.pointer (some ⟨p, 0, none⟩)), by simp [World.setCell, Array.getElem?_modify, h1], by simpa using h2, fun i hi => ?_, fun i v hv => ?_⟩, fun i y hi hy => ?_⟩
  · by_cases e : i = j
    · subst e
      simp [h2, hj]
    · rw [Array.getElem?_setIfInBounds_ne (fun h => e h.symm)]
      simp only [e, if_false]
      exact h3 i (by omega)
  · by_cases e : i = j
    · subst e
      simp [h2, hj] at hv
      exact ⟨_, hv.symm⟩
    · rw [Array.getElem?_setIfInBounds_ne (fun h => e h.symm)] at hv
      exact h4 i v hv
  · by_cases e : i = j
    · subst e
      rw [hx] at hy
      cases hy
      simp only [if_true]
      exact hp.set32 h.ptrs
    · simp only [e, if_false]
      exact (h.at_ i y (by omega) hy).set32 h.ptrs

theorem Try.info32' : (Try.prog.info? 32).map (fun i => (i.zero, i.size, i.bytes)) = some (some (.pointer none), 1, 8) := by kernel_rfl

set_option maxHeartbeats 2000000 in
set_option maxRecDepth 100000 in
theorem zzBuildAll_any (sa : Option Addr) (n cap : Nat) (l : List Pd) (w : World) (hn : Hid (l.length = n)) (hl : n ≤ 4096) (hS : Hid (Scr w sa l)) (hsm : Hid (∀ x ∈ l, x.Small)) :
    Calls Try.prog 18 #[.slice sa n cap] w fun e w' => ∃ g pb, e = .returned (.slice (some ⟨g, 0, none⟩) n n) ∧ PB w' g n l pb n ∧ Below w.heap.size w w' := by
  have hmk := run_make_row' (P := Try.prog) 55 32 (.pointer none) 8 Try.underlying55 Try.info32' rfl .i64 .i64 n (by omega) (by omega)
  go_enter Try.func18, Try.ntmps18
  go_wp2
  have I0 : Hid (PB (w.alloc (.cells (madeCells #[.pointer none] n) 32)) w.heap.size n l (fun _ => 0) 0 ∧ Below w.heap.size w (w.alloc (.cells (madeCells #[.pointer none] n) 32))) := by
    refine ⟨⟨⟨_, heap_alloc_new _ _, by simpa using size_madeCells #[Value.pointer none] n, fun i hi => by omega, fun i v hv => ?_⟩, fun i x hi => by omega⟩, (Below.refl _ _).alloc (Nat.le_refl _) _⟩
    by_cases hi : i < n
    · simp [madeCells, hi, Nat.mod_one] at hv
      exact ⟨_, hv.symm⟩
    · simp [madeCells, hi] at hv
  generalize w.alloc (.cells (madeCells #[.pointer none] n) 32) = w0 at *
  go_loopw [4] (fun i wr => ∃ (j : Nat) (pb : Nat → Nat), j ≤ n ∧ i = .int .i64 j ∧ Hid (PB wr w.heap.size n l pb j ∧ Below w.heap.size w wr)) (fun i _ => n - (intOf i).toNat)
  case atStart => exact ⟨0, _, Nat.zero_le _, rfl, I0⟩
  case round =>
    obtain ⟨j, pb, hj, rfl, HI⟩ := hrel
    clear I0 hmk
    by_cases hlt : j < n
    · obtain ⟨x, hd⟩ : ∃ x, l[j]? = some x := ⟨_, List.getElem?_eq_getElem (by have := hn.out; omega)⟩
      obtain ⟨b, off, ea, ec, rfl, hbl, hz, hE, hok, hnil⟩ := (hS.out.below_at HI.out.2) j x hd
      obtain ⟨c0, c1, c2, c3, c4, c5, c6, c7, c8⟩ := hz
      have hjn : (j : Int) < n := by omega
      have HZ : Hid (Calls Try.prog 28 #[.agg #[.string x.smsc, .int .i64 x.typ, .int .u8 x.fton, .int .u8 x.fnpi, .string x.fnum, .int .u8 x.tton, .int .u8 x.tnpi, .string x.tnum, .slice ea x.els.length ec]] wr fun e w' => ∃ p, e = .returned (.pointer (some ⟨p, 0, none⟩)) ∧ wr.heap.size ≤ p ∧ PAt w' p x ∧ Below wr.heap.size wr w') := zzBuild_any x ea ec wr (hsm.out x (List.mem_of_getElem? hd)) hE hok hnil
      have HD : Hid (l[j]? = some x) := hd
      clear hE hok hnil hd
      go_wp2_with fail
      refine HZ.out.mono ?_
      rintro e w5 ⟨p, rfl, hp, hPA, hb5⟩
      have hPB5 := HI.out.1.below hb5
      obtain ⟨v, hv⟩ := hPB5.old hlt
      have hf := hPB5.frozen j
      have HN : Hid (PB (w5.setCell ⟨w.heap.size, j, none⟩ (.pointer (some ⟨p, 0, none⟩))) w.heap.size n l (fun i => if i = j then p else pb i) (j + 1) ∧ Below w.heap.size w (w5.setCell ⟨w.heap.size, j, none⟩ (.pointer (some ⟨p, 0, none⟩)))) := ⟨hPB5.step hlt HD.out hPA, (HI.out.2.trans (hb5.mono HI.out.2.size)).setCell (by simp) _⟩
      clear hPB5 hPA hb5 HZ HI c0 c1 c2 c3 c4 c5 c6 c7 c8
      go_wp2
      go_roundw
      case rel => exact ⟨j + 1, _, by omega, by go_num, HN⟩
      case measure => simp [intOf]; omega
    · obtain rfl : n = j := by omega
      go_wp2
      go_ret
      exact ⟨w.heap.size, pb, rfl, HI.out.1, HI.out.2⟩

end Go.Proofs.Qxb6616208a
