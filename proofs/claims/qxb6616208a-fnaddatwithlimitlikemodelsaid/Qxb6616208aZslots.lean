/-
  zzSlots (35).
-/
import Derived.Test.Qxb6616208aZkey
import Derived.Deep.OwnRows
namespace Go.Proofs.Qxb6616208a
open Go.RowKit
set_option linter.unusedVariables false
set_option linter.unusedSimpArgs false

/-- a row of ints in a block of its own -/
def SRow (w : World) (g tot : Nat) (F : Nat → Int) : Prop := ∃ cs : Array Value, w.heap[g]? = some (.cells cs 3 (0, 0)) ∧ cs.size = tot ∧ ∀ i, i < tot → cs[i]? = some (.int .i64 (F i))

theorem SRow.cell {w : World} {g tot : Nat} {F : Nat → Int} (h : SRow w g tot F) {i : Nat} (hi : i < tot) : w.cell? ⟨g, i, none⟩ = some (.int .i64 (F i)) := by
  obtain ⟨cs, h1, h2, h3⟩ := h
  exact (cell_of_row _ _ _ _ _ _ h1).trans (h3 i hi)
theorem SRow.frozen {w : World} {g tot : Nat} {F : Nat → Int} (h : SRow w g tot F) (i : Nat) : w.frozen? ⟨g, i, none⟩ = false := by
  obtain ⟨cs, h1, h2, h3⟩ := h
  simp [World.frozen?, h1]
theorem SRow.lt {w : World} {g tot : Nat} {F : Nat → Int} (h : SRow w g tot F) : g < w.heap.size := by
  obtain ⟨cs, h1, h2, h3⟩ := h
  exact (Array.getElem?_eq_some_iff.1 h1).1
theorem SRow.block {w w' : World} {g tot : Nat} {F : Nat → Int} (h : SRow w g tot F) (e : w'.heap[g]? = w.heap[g]?) : SRow w' g tot F := by
  obtain ⟨cs, h1, h2, h3⟩ := h
  exact ⟨cs, e.trans h1, h2, h3⟩
theorem SRow.ext {w : World} {g tot : Nat} {F G : Nat → Int} (h : SRow w g tot F) (e : ∀ i, i < tot → F i = G i) : SRow w g tot G := by
  obtain ⟨cs, h1, h2, h3⟩ := h
  exact ⟨cs, h1, h2, fun i hi => (h3 i hi).trans (by rw [e i hi])⟩
theorem SRow.set {w : World} {g tot : Nat} {F : Nat → Int} (h : SRow w g tot F) {k : Nat} (hk : k < tot) (z : Int) : SRow (w.setCell ⟨g, k, none⟩ (.int .i64 z)) g tot (fun i => if i = k then z else F i) := by
  obtain ⟨cs, h1, h2, h3⟩ := h
  refine ⟨cs.setIfInBounds k (.int .i64 z), by simp [World.setCell, Array.getElem?_modify, h1], by simpa using h2, fun i hi => ?_⟩
  by_cases e : i = k
  · subst e
    simp [h2, hi]
  · simp only [e, if_false]
    rw [Array.getElem?_setIfInBounds_ne (fun h => e h.symm)]
    exact h3 i hi

/-- the slots: the last index with the part's number, or -1 -/
def slotF (l : List (Int × Int)) (i : Nat) : Int := l.foldl (fun acc x => if x.1 = (i : Int) + 1 then x.2 else acc) (-1)

theorem slotF_step {l : List (Int × Int)} {k : Nat} {p z : Int} (h : l[k]? = some (p, z)) (i : Nat) : slotF (l.take (k + 1)) i = if p = (i : Int) + 1 then z else slotF (l.take k) i := by
  obtain ⟨hk, e⟩ := List.getElem?_eq_some_iff.1 h
  rw [List.take_succ_eq_append_getElem hk, e]
  simp [slotF, List.foldl_append]

theorem Try.info3 : (Try.prog.info? 3).map (fun i => (i.zero, i.size, i.bytes)) = some (some (.int .i64 0), 1, 8) := by kernel_rfl

set_option maxHeartbeats 2000000 in
set_option maxRecDepth 100000 in
theorem zzSlots_any (k : Key) (t : Int) (pa ia : Option Addr) (n pc ic tot : Nat) (l : List (Int × Int)) (w : World) (htot : k.tot = tot) (ht : tot ≤ 65536) (hn : l.length = n) (hl : n ≤ 1048576)
    (hp : Hid (IRow w pa (l.map (·.1)))) (hi : Hid (IRow w ia (l.map (·.2)))) (hr : Hid (∀ x, x ∈ l → 1 ≤ x.1 ∧ x.1 ≤ tot)) :
    Calls Try.prog 35 #[.agg #[.int .i64 k.typ, .int .u8 k.ton, .int .u8 k.npi, .string k.num, .int .i64 k.ref, .int .i64 k.tot, .slice pa n pc, .slice ia n ic, .int .i64 t]] w
      fun e w' => ∃ g, e = .returned (.slice (some ⟨g, 0, none⟩) tot tot) ∧ w.heap.size ≤ g ∧ SRow w' g tot (slotF l) ∧ Below w.heap.size w w' := by
  have HN : Hid (l.length = n) := hn
  have hmk := run_make_row' (P := Try.prog) 74 3 (.int .i64 0) 8 Try.underlying74 Try.info3 rfl .i64 .i64 tot (by omega) (by omega)
  rw [htot]
  clear hn htot
  go_enter Try.func35, Try.ntmps35
  go_wp2
  have I0 : SRow ((w.alloc (.cells #[.int .i64 k.typ, .int .u8 k.ton, .int .u8 k.npi, .string k.num, .int .i64 k.ref, .int .i64 tot, .slice pa n pc, .slice ia n ic, .int .i64 t] 76)).alloc (.cells (madeCells #[.int .i64 0] tot) 3)) (w.heap.size + 1) tot (fun i => if i < 0 then -1 else 0) :=
    ⟨_, heap_alloc2_new _ _ _, by simpa using size_madeCells #[Value.int .i64 0] tot, fun i hi => by simp [madeCells, hi, Nat.mod_one]⟩
  have HB0 : Hid (Below w.heap.size w ((w.alloc (.cells #[.int .i64 k.typ, .int .u8 k.ton, .int .u8 k.npi, .string k.num, .int .i64 k.ref, .int .i64 tot, .slice pa n pc, .slice ia n ic, .int .i64 t] 76)).alloc (.cells (madeCells #[.int .i64 0] tot) 3)) ∧ ((w.alloc (.cells #[.int .i64 k.typ, .int .u8 k.ton, .int .u8 k.npi, .string k.num, .int .i64 k.ref, .int .i64 tot, .slice pa n pc, .slice ia n ic, .int .i64 t] 76)).alloc (.cells (madeCells #[.int .i64 0] tot) 3)).heap[w.heap.size]? = some (.cells #[.int .i64 k.typ, .int .u8 k.ton, .int .u8 k.npi, .string k.num, .int .i64 k.ref, .int .i64 tot, .slice pa n pc, .slice ia n ic, .int .i64 t] 76)) := ⟨((Below.refl _ _).alloc (Nat.le_refl _) _).alloc (by simp) _, heap_alloc2_old _ _ _⟩
  generalize ((w.alloc (.cells #[.int .i64 k.typ, .int .u8 k.ton, .int .u8 k.npi, .string k.num, .int .i64 k.ref, .int .i64 tot, .slice pa n pc, .slice ia n ic, .int .i64 t] 76)).alloc (.cells (madeCells #[.int .i64 0] tot) 3)) = w0 at *
  go_loopw [4] (fun i wr => ∃ j : Nat, j ≤ tot ∧ i = .int .i64 j ∧ SRow wr (w.heap.size + 1) tot (fun i => if i < j then -1 else 0) ∧ Hid (Below w.heap.size w wr ∧ wr.heap[w.heap.size]? = some (.cells #[.int .i64 k.typ, .int .u8 k.ton, .int .u8 k.npi, .string k.num, .int .i64 k.ref, .int .i64 tot, .slice pa n pc, .slice ia n ic, .int .i64 t] 76))) (fun i _ => tot - (intOf i).toNat)
  case atStart => exact ⟨0, Nat.zero_le _, rfl, I0, HB0⟩
  case round =>
    obtain ⟨j, hj, rfl, I, HB⟩ := hrel
    clear I0 HB0
    by_cases hlt : j < tot
    · have hjn : (j : Int) < tot := by omega
      have c1 := I.cell hlt
      have f1 := I.frozen j
      have HI : Hid (SRow (wr.setCell ⟨w.heap.size + 1, j, none⟩ (.int .i64 (-1))) (w.heap.size + 1) tot (fun i => if i < j + 1 then -1 else 0)) := (I.set hlt (-1)).ext fun i hi => by
        by_cases e : i = j
        · simp [e]
        · have : (i < j) = (i < j + 1) := by simp; omega
          simp [e, this]
      have HB2 : Hid (Below w.heap.size w (wr.setCell ⟨w.heap.size + 1, j, none⟩ (.int .i64 (-1))) ∧ (wr.setCell ⟨w.heap.size + 1, j, none⟩ (.int .i64 (-1))).heap[w.heap.size]? = some (.cells #[.int .i64 k.typ, .int .u8 k.ton, .int .u8 k.npi, .string k.num, .int .i64 k.ref, .int .i64 tot, .slice pa n pc, .slice ia n ic, .int .i64 t] 76)) := ⟨HB.out.1.setCell (by simp) _, (Below.heap_setCell _ _ _ _ (by simp)).trans HB.out.2⟩
      clear I HB
      go_wp2
      go_roundw
      case rel => exact ⟨j + 1, by omega, by go_num, HI, HB2⟩
      case measure => simp [intOf]; omega
    · obtain rfl : tot = j := by omega
      have I1 : SRow wr (w.heap.size + 1) tot (slotF (l.take 0)) := I.ext fun i hi => by simp [hi, slotF]
      have hB := HB.out
      clear I hlt hj hmk
      have z6 : wr.cell? ⟨w.heap.size, 6, none⟩ = some (.slice pa n pc) := cell_of_row _ _ _ _ _ _ HB.out.2
      go_wp2
      clear z6 hB
      go_loopw [5] (fun i wt => ∃ j : Nat, j ≤ n ∧ i = .int .i64 j ∧ SRow wt (w.heap.size + 1) tot (slotF (l.take j)) ∧ Hid (Below w.heap.size w wt ∧ wt.heap[w.heap.size]? = some (.cells #[.int .i64 k.typ, .int .u8 k.ton, .int .u8 k.npi, .string k.num, .int .i64 k.ref, .int .i64 tot, .slice pa n pc, .slice ia n ic, .int .i64 t] 76))) (fun i _ => n - (intOf i).toNat)
      case atStart => exact ⟨0, Nat.zero_le _, rfl, I1, HB⟩
      case round =>
        rename World => wt
        obtain ⟨j, hj, rfl, I, HB'⟩ := hrel
        clear I1 HB
        have z6 : wt.cell? ⟨w.heap.size, 6, none⟩ = some (.slice pa n pc) := cell_of_row _ _ _ _ _ _ HB'.out.2
        have z7 : wt.cell? ⟨w.heap.size, 7, none⟩ = some (.slice ia n ic) := cell_of_row _ _ _ _ _ _ HB'.out.2
        by_cases hlt : j < n
        · obtain ⟨⟨p, z⟩, hd⟩ : ∃ x, l[j]? = some x := ⟨_, List.getElem?_eq_getElem (by have := HN.out; omega)⟩
          have hjn : (j : Int) < n := by omega
          obtain ⟨hp1, hp2⟩ := hr.out _ (List.mem_of_getElem? hd)
          obtain ⟨q, rfl⟩ : ∃ q : Nat, p = q + 1 := ⟨(p - 1).toNat, by omega⟩
          have hq : q < tot := by simp only [] at hp2; omega
          obtain ⟨b, rfl, cp⟩ := hp.out j ((q : Int) + 1) (by rw [List.getElem?_map, hd]; rfl)
          obtain ⟨b2, rfl, ci⟩ := hi.out j z (by rw [List.getElem?_map, hd]; rfl)
          have hbl := World.block_lt_of_cell? _ _ cp
          have hbl2 := World.block_lt_of_cell? _ _ ci
          rw [← HB'.out.1.cell (by exact hbl)] at cp
          rw [← HB'.out.1.cell (by exact hbl2)] at ci
          have c1 := I.cell hq
          have f1 := I.frozen q
          have hq' : (q : Int) < tot := by omega
          have HI : Hid (SRow (wt.setCell ⟨w.heap.size + 1, q, none⟩ (.int .i64 z)) (w.heap.size + 1) tot (slotF (l.take (j + 1)))) := (I.set hq z).ext fun i hi => by
            rw [slotF_step hd]
            by_cases e : i = q
            · subst e; simp
            · rw [if_neg e, if_neg (by omega)]
          have HB2 : Hid (Below w.heap.size w (wt.setCell ⟨w.heap.size + 1, q, none⟩ (.int .i64 z)) ∧ (wt.setCell ⟨w.heap.size + 1, q, none⟩ (.int .i64 z)).heap[w.heap.size]? = some (.cells #[.int .i64 k.typ, .int .u8 k.ton, .int .u8 k.npi, .string k.num, .int .i64 k.ref, .int .i64 tot, .slice (some ⟨b, 0, none⟩) n pc, .slice (some ⟨b2, 0, none⟩) n ic, .int .i64 t] 76)) := ⟨HB'.out.1.setCell (by simp) _, (Below.heap_setCell _ _ _ _ (by simp)).trans HB'.out.2⟩
          clear I HB' hd hr hp hi
          simp only [] at hp1 hp2
          have hw1 : (q : Int) + 1 - 1 = q := by omega
          go_wp2
          go_region
          go_wp2
          go_roundw
          case rel => exact ⟨j + 1, by omega, by go_num, HI, ⟨HB2.out.1.drew, HB2.out.2⟩⟩
          case measure => simp [intOf]; omega
        · have I2 : SRow wt (w.heap.size + 1) tot (slotF l) := by
            have h := I
            rwa [List.take_of_length_le (by have := HN.out; omega)] at h
          have HI : Hid (SRow wt (w.heap.size + 1) tot (slotF l)) := I2
          clear I I2
          go_wp2
          go_ret
          exact ⟨w.heap.size + 1, rfl, by omega, HI, HB'.out.1⟩

end Go.Proofs.Qxb6616208a
