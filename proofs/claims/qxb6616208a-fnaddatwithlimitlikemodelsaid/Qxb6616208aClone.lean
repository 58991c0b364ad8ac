/-
  zzCloneBytes (38).
-/
import Derived.Test.Qxb6616208aPdu
import Derived.Deep.OwnRows
import Derived.Lib.SliceRun
namespace Go.Proofs.Qxb6616208a
open Go.RowKit
set_option linter.unusedVariables false
set_option linter.unusedSimpArgs false

/-- a row of bytes in a block of its own -/
def BRow (w : World) (g tot : Nat) (F : Nat → Int) : Prop := ∃ cs : Array Value, w.heap[g]? = some (.cells cs 5 (0, 0)) ∧ cs.size = tot ∧ ∀ i, i < tot → cs[i]? = some (.int .u8 (F i))

theorem BRow.cell {w : World} {g tot : Nat} {F : Nat → Int} (h : BRow w g tot F) {i : Nat} (hi : i < tot) : w.cell? ⟨g, i, none⟩ = some (.int .u8 (F i)) := by
  obtain ⟨cs, h1, h2, h3⟩ := h
  exact (cell_of_row _ _ _ _ _ _ h1).trans (h3 i hi)
theorem BRow.frozen {w : World} {g tot : Nat} {F : Nat → Int} (h : BRow w g tot F) (i : Nat) : w.frozen? ⟨g, i, none⟩ = false := by
  obtain ⟨cs, h1, h2, h3⟩ := h
  simp [World.frozen?, h1]
theorem BRow.lt {w : World} {g tot : Nat} {F : Nat → Int} (h : BRow w g tot F) : g < w.heap.size := by
  obtain ⟨cs, h1, h2, h3⟩ := h
  exact (Array.getElem?_eq_some_iff.1 h1).1
theorem BRow.ext {w : World} {g tot : Nat} {F G : Nat → Int} (h : BRow w g tot F) (e : ∀ i, i < tot → F i = G i) : BRow w g tot G := by
  obtain ⟨cs, h1, h2, h3⟩ := h
  exact ⟨cs, h1, h2, fun i hi => (h3 i hi).trans (by rw [e i hi])⟩
theorem BRow.set {w : World} {g tot : Nat} {F : Nat → Int} (h : BRow w g tot F) {k : Nat} (hk : k < tot) (z : Int) : BRow (w.setCell ⟨g, k, none⟩ (.int .u8 z)) g tot (fun i => if i = k then z else F i) := by
  obtain ⟨cs, h1, h2, h3⟩ := h
  refine ⟨cs.setIfInBounds k (.int .u8 z), by simp [World.setCell, Array.getElem?_modify, h1], by simpa using h2, fun i hi => ?_⟩
  by_cases e : i = k
  · subst e
    simp [h2, hi]
  · simp only [e, if_false]
    rw [Array.getElem?_setIfInBounds_ne (fun h => e h.symm)]
    exact h3 i hi

theorem Try.info5 : (Try.prog.info? 5).map (fun i => (i.zero, i.size, i.bytes)) = some (some (.int .u8 0), 1, 1) := by kernel_rfl

/-- what zzCloneBytes hands out: nil, or a fresh row -/
def Cloned (w w' : World) (d : List Int) (e : Ending) : Prop :=
  (e = .returned (.slice none 0 0) ∧ d = []) ∨ ∃ g, e = .returned (.slice (some ⟨g, 0, none⟩) d.length d.length) ∧ w.heap.size ≤ g ∧ BRow w' g d.length (fun i => d.getD i 0) ∧ ∀ z ∈ d, 0 ≤ z ∧ z < 256

set_option maxHeartbeats 1000000 in
set_option maxRecDepth 100000 in
theorem zzClone_any (a : Option Addr) (n cap : Nat) (d : List Int) (w : World) (hl : Hid (d.length = n)) (hn : n ≤ 1048576) (hB : Hid (Bytes w a d)) (hnil : Hid (a = none → n = 0 ∧ cap = 0)) :
    Calls Try.prog 38 #[.slice a n cap] w fun e w' => Cloned w w' d e ∧ Below w.heap.size w w' := by
  have heq := Lib.run_eql_slice_nil (P := Try.prog)
  cases a with
  | none =>
    have h0 := (hnil.out rfl).1
    have h1 := (hnil.out rfl).2
    subst h0 h1
    go_enter Try.func38, Try.ntmps38
    go_wp2
    go_ret
    exact ⟨Or.inl ⟨rfl, List.length_eq_zero_iff.1 hl.out⟩, Below.refl _ _⟩
  | some ad =>
    have hmk := run_make_row' (P := Try.prog) 25 5 (.int .u8 0) 1 Try.underlying25 Try.info5 rfl .i64 .i64 n (by omega) (by omega)
    clear hnil
    go_enter Try.func38, Try.ntmps38
    go_wp2
    have I0 : BRow (w.alloc (.cells (madeCells #[.int .u8 0] n) 5)) w.heap.size n (fun i => if i < 0 then d.getD i 0 else 0) :=
      ⟨_, heap_alloc_new _ _, by simpa using size_madeCells #[Value.int .u8 0] n, fun i hi => by simp [madeCells, hi, Nat.mod_one]⟩
    have HB0 : Hid (Below w.heap.size w (w.alloc (.cells (madeCells #[.int .u8 0] n) 5))) := (Below.refl _ _).alloc (Nat.le_refl _) _
    generalize w.alloc (.cells (madeCells #[.int .u8 0] n) 5) = w0 at *
    go_loopw [4] (fun i wr => ∃ j : Nat, j ≤ n ∧ i = .int .i64 j ∧ BRow wr w.heap.size n (fun i => if i < j then d.getD i 0 else 0) ∧ Hid (Below w.heap.size w wr)) (fun i _ => n - (intOf i).toNat)
    case atStart => exact ⟨0, Nat.zero_le _, rfl, I0, HB0⟩
    case round =>
      obtain ⟨j, hj, rfl, I, HB⟩ := hrel
      clear I0 HB0 hmk
      by_cases hlt : j < n
      · obtain ⟨z, hz⟩ : ∃ z, d[j]? = some z := ⟨_, List.getElem?_eq_getElem (by have := hl.out; omega)⟩
        obtain ⟨b, off, e, hbl, cb, z0, z1⟩ := hB.out j z hz
        cases e
        have hjn : (j : Int) < n := by omega
        rw [← HB.out.cell (by exact hbl)] at cb
        have c1 := I.cell hlt
        have f1 := I.frozen j
        have HI : Hid (BRow (wr.setCell ⟨w.heap.size, j, none⟩ (.int .u8 z)) w.heap.size n (fun i => if i < j + 1 then d.getD i 0 else 0)) := (I.set hlt z).ext fun i hi => by
          by_cases e : i = j
          · subst e; simp [hz]
          · have : (i < j) = (i < j + 1) := by simp; omega
            simp [e, this]
        have HB2 : Hid (Below w.heap.size w (wr.setCell ⟨w.heap.size, j, none⟩ (.int .u8 z))) := HB.out.setCell (by simp) _
        clear I HB hz
        go_wp2
        go_roundw
        case rel => exact ⟨j + 1, by omega, by go_num, HI, HB2⟩
        case measure => simp [intOf]; omega
      · have I1 : BRow wr w.heap.size n (fun i => d.getD i 0) := I.ext fun i hi => by rw [if_pos (by omega)]
        have HF : Hid (Cloned w wr d (.returned (.slice (some ⟨w.heap.size, 0, none⟩) n n)) ∧ Below w.heap.size w wr) := by
          refine ⟨Or.inr ⟨w.heap.size, by rw [hl.out], Nat.le_refl _, by rw [hl.out]; exact I1, fun z hz => ?_⟩, HB.out⟩
          obtain ⟨k, hk⟩ := List.mem_iff_getElem?.1 hz
          obtain ⟨b, off, _, _, _, h1, h2⟩ := hB.out k z hk
          exact ⟨h1, h2⟩
        clear I I1 HB
        go_wp2
        go_ret
        exact HF.out

end Go.Proofs.Qxb6616208a
