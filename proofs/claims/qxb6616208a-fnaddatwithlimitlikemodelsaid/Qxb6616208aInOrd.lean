/-
  inOrder (54) of a message that misses parts: each part in its place, nil elsewhere.
-/
import Derived.Test.Qxb6616208aForget
import Derived.Test.Qxb6616208aAddN
namespace Go.Proofs.Qxb6616208a
open Go.RowKit
set_option linter.unusedVariables false
set_option linter.unusedSimpArgs false

def ptrO (p : Option Nat) : Value := .pointer (p.map fun b => ⟨b, 0, none⟩)

/-- a row of pointers, nil or not, in a block of its own -/
def NRow (w : World) (g tot : Nat) (F : Nat → Option Nat) : Prop := ∃ cs : Array Value, w.heap[g]? = some (.cells cs 32 (0, 0)) ∧ cs.size = tot ∧ ∀ i, i < tot → cs[i]? = some (ptrO (F i))

theorem NRow.cell {w : World} {g tot : Nat} {F : Nat → Option Nat} (h : NRow w g tot F) {i : Nat} (hi : i < tot) : w.cell? ⟨g, i, none⟩ = some (ptrO (F i)) := by
  obtain ⟨cs, h1, h2, h3⟩ := h
  exact (cell_of_row _ _ _ _ _ _ h1).trans (h3 i hi)
theorem NRow.frozen {w : World} {g tot : Nat} {F : Nat → Option Nat} (h : NRow w g tot F) (i : Nat) : w.frozen? ⟨g, i, none⟩ = false := by
  obtain ⟨cs, h1, h2, h3⟩ := h
  simp [World.frozen?, h1]
theorem NRow.lt {w : World} {g tot : Nat} {F : Nat → Option Nat} (h : NRow w g tot F) : g < w.heap.size := by
  obtain ⟨cs, h1, h2, h3⟩ := h
  exact (Array.getElem?_eq_some_iff.1 h1).1
theorem NRow.block {w w' : World} {g tot : Nat} {F : Nat → Option Nat} (h : NRow w g tot F) (e : w'.heap[g]? = w.heap[g]?) : NRow w' g tot F := by
  obtain ⟨cs, h1, h2, h3⟩ := h
  exact ⟨cs, e.trans h1, h2, h3⟩
theorem NRow.ext {w : World} {g tot : Nat} {F G : Nat → Option Nat} (h : NRow w g tot F) (e : ∀ i, i < tot → F i = G i) : NRow w g tot G := by
  obtain ⟨cs, h1, h2, h3⟩ := h
  exact ⟨cs, h1, h2, fun i hi => (h3 i hi).trans (by rw [e i hi])⟩
theorem NRow.set {w : World} {g tot : Nat} {F : Nat → Option Nat} (h : NRow w g tot F) {k : Nat} (hk : k < tot) (p : Nat) : NRow (w.setCell ⟨g, k, none⟩ (.pointer (some ⟨p, 0, none⟩))) g tot (fun i => if i = k then some p else F i) := by
  obtain ⟨cs, h1, h2, h3⟩ := h
  refine ⟨cs.setIfInBounds k (.pointer (some ⟨p, 0, none⟩)), by simp [World.setCell, Array.getElem?_modify, h1], by simpa using h2, fun i hi => ?_⟩
  by_cases e : i = k
  · subst e
    simp [h2, hi, ptrO]
  · simp only [e, if_false]
    rw [Array.getElem?_setIfInBounds_ne (fun h => e h.symm)]
    exact h3 i hi

/-- the places: the last part with the number, or nil -/
def slotP (L : List (Nat × List El)) (i : Nat) : Option Nat := L.foldl (fun acc x => if pno x.2 = (i : Int) + 1 then some x.1 else acc) none

theorem slotP_step {L : List (Nat × List El)} {k : Nat} {p : Nat} {es : List El} (h : L[k]? = some (p, es)) (i : Nat) : slotP (L.take (k + 1)) i = if pno es = (i : Int) + 1 then some p else slotP (L.take k) i := by
  obtain ⟨hk, e⟩ := List.getElem?_eq_some_iff.1 h
  rw [List.take_succ_eq_append_getElem hk, e]
  simp [slotP, List.foldl_append]

set_option maxHeartbeats 2000000 in
set_option maxRecDepth 100000 in
theorem inOrderP_any (m q cap n tot : Nat) (L : List (Nat × List El)) (w : World) (hm : w.cell? ⟨m, 0, none⟩ = some (.slice (some ⟨q, 0, none⟩) n cap)) (hml : m < w.heap.size) (hfz : w.frozen? ⟨m, 0, none⟩ = false) (hql : q < w.heap.size) (hn : Hid (L.length = n)) (hnt : n ≠ tot) (hlen : n ≤ 65536) (ht : tot ≤ 65536)
    (hR : Hid (PRow w q L)) (hr : Hid (∀ x ∈ L, 1 ≤ pno x.2 ∧ pno x.2 ≤ tot)) :
    Calls Try.prog 54 #[.pointer (some ⟨m, 0, none⟩), .int .i64 (tot : Nat)] w fun e w' => e = .returned (.pointer (some ⟨m, 0, none⟩)) ∧ ∃ w1 g, w' = w1.setCell ⟨m, 0, none⟩ (.slice (some ⟨g, 0, none⟩) tot tot) ∧ w.heap.size ≤ g ∧ NRow w1 g tot (slotP L) ∧ Below w.heap.size w w1 := by
  have hmk := run_make_row' (P := Try.prog) 55 32 (.pointer none) 8 Try.underlying55 Try.info32 rfl .i64 .i64 tot (by omega) (by omega)
  have hnt' : ((n : Int) == (tot : Int)) = false := by simp; omega
  have ca : ∀ o, (w.alloc o).cell? ⟨m, 0, none⟩ = some (.slice (some ⟨q, 0, none⟩) n cap) := fun o => (World.cell?_alloc_lt _ _ _ (by exact hml)).trans hm
  go_enter Try.func54, Try.ntmps54
  go_wp2
  have I0 : NRow (w.alloc (.cells (madeCells #[.pointer none] tot) 32)) w.heap.size tot (slotP (L.take 0)) :=
    ⟨_, heap_alloc_new _ _, by simpa using size_madeCells #[Value.pointer none] tot, fun i hi => by simp [madeCells, hi, Nat.mod_one, slotP, ptrO]⟩
  have HB0 : Hid (Below w.heap.size w (w.alloc (.cells (madeCells #[.pointer none] tot) 32))) := (Below.refl _ _).alloc (Nat.le_refl _) _
  generalize (w.alloc (.cells (madeCells #[.pointer none] tot) 32)) = w0 at *
  clear hmk ca
  go_loopw [28, 7] (fun i _ wr => ∃ j : Nat, j ≤ n ∧ i = .int .i64 j ∧ NRow wr w.heap.size tot (slotP (L.take j)) ∧ Hid (Below w.heap.size w wr)) (fun i _ _ => n - (intOf i).toNat)
  case atStart => exact ⟨0, Nat.zero_le _, rfl, I0, HB0⟩
  case round =>
    obtain ⟨j, hj, rfl, I, HB⟩ := hrel
    clear I0 HB0
    by_cases hlt : j < n
    · obtain ⟨⟨p, es⟩, hd⟩ : ∃ x, L[j]? = some x := ⟨_, List.getElem?_eq_getElem (by have := hn.out; omega)⟩
      obtain ⟨c1, hpe⟩ := (hR.out.below hql HB.out) j p es hd
      have hjn : (j : Int) < n := by omega
      have HP : Hid (PEl wr p es) := hpe
      obtain ⟨hp1, hp2⟩ := hr.out _ (List.mem_of_getElem? hd)
      have HS : Hid (∀ i : Nat, slotP (L.take (j + 1)) i = if pno es = (i : Int) + 1 then some p else slotP (L.take j) i) := slotP_step hd
      have HI : Hid (NRow wr w.heap.size tot (slotP (L.take j))) := I
      have hwl := I.lt
      have HPO : Hid (Calls Try.prog 27 #[.pointer (some ⟨p, 0, none⟩)] wr fun e w' => e = .returned (.int .i64 (pno es)) ∧ Below wr.heap.size wr w') := partOf_any p es wr HP
      clear hpe hd I HP hr hR
      simp only [] at hp1 hp2
      obtain ⟨k, hk⟩ : ∃ k : Nat, pno es = k + 1 := ⟨(pno es - 1).toNat, by omega⟩
      rw [hk] at HPO hp1 hp2
      have HK : Hid (pno es = (k : Int) + 1) := hk
      clear hk
      go_wp2_with fail
      refine HPO.out.mono ?_
      rintro e w1 ⟨rfl, hb1⟩
      have HI1 : Hid (NRow w1 w.heap.size tot (slotP (L.take j)) ∧ Below w.heap.size w w1) := ⟨HI.out.block (hb1.block _ hwl), HB.out.trans (hb1.mono HB.out.size)⟩
      have hkt : k < tot := by omega
      have cT := HI1.out.1.cell hkt
      have fT := HI1.out.1.frozen k
      have hkt' : (k : Int) < tot := by omega
      have hw1 : (k : Int) + 1 - 1 = k := by omega
      have HI2 : Hid (NRow (w1.setCell ⟨w.heap.size, k, none⟩ (.pointer (some ⟨p, 0, none⟩))) w.heap.size tot (slotP (L.take (j + 1))) ∧ Below w.heap.size w (w1.setCell ⟨w.heap.size, k, none⟩ (.pointer (some ⟨p, 0, none⟩)))) := by
        refine ⟨(HI1.out.1.set hkt p).ext fun i hi => ?_, HI1.out.2.setCell (Nat.le_refl _) _⟩
        rw [HS.out, HK.out]
        by_cases e : i = k
        · subst e; simp
        · rw [if_neg e, if_neg (by omega)]
      clear HPO HI HB hb1 HI1 HS HK
      go_wp2
      go_roundw
      case rel => exact ⟨j + 1, by omega, by go_num, HI2.out.1, HI2.out.2⟩
      case measure => simp [intOf]; omega
    · have HI : Hid (NRow wr w.heap.size tot (slotP L) ∧ Below w.heap.size w wr) := by
        have h := I
        rw [List.take_of_length_le (by have := hn.out; omega)] at h
        exact ⟨h, HB.out⟩
      have cm : wr.cell? ⟨m, 0, none⟩ = some (.slice (some ⟨q, 0, none⟩) n cap) := (HB.out.cell (by exact hml)).trans hm
      have fm : wr.frozen? ⟨m, 0, none⟩ = false := (HB.out.frozen (by exact hml)).trans hfz
      clear I HB hn hr hR
      go_wp2
      go_ret
      exact ⟨rfl, wr, w.heap.size, rfl, Nat.le_refl _, HI.out.1, HI.out.2⟩

end Go.Proofs.Qxb6616208a
