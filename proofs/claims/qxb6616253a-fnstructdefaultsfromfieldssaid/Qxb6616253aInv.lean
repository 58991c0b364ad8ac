/-
  What holds after j rounds of filling the map: no walk here.
-/
import Derived.Test.Qxb6616253aTypes
namespace Go.Proofs.Qxb6616253a
open Go.RowKit Go.Maps Go.WideMaps
set_option linter.unusedVariables false
set_option linter.unusedSimpArgs false

/-- the key's datum -/
def kd (s : ByteArray) : Lit := .string s.data.toList

theorem kd_inj {a b : ByteArray} : (a.toList = b.toList) ↔ kd a = kd b := by
  simp [kd, ByteArray.toList_eq]

/-- the scalar block -/
def scal (df : Option ByteArray) : Obj := .cells (tyC 0 (.map none) (.pointer none) false (dfV df) false) 46 (0, 0)

theorem isKey_kd {s : ByteArray} (h : s.size ≤ maxLen) : WideAt.IsKeyLit (kd s) := klaw.key (keyOf_string_mk Try.underlying9 h)

/-- the map after j rounds: at each name the block made last under it -/
structure MapInv (wr : World) (gM j : Nat) (ss : List ByteArray) (qs : Nat → Nat) (D : DataW Nat) : Prop where
  own : wr.ownsMap Try.prog 9 ptrR gM j D
  absent : ∀ s, s.size ≤ maxLen → lastTo ss s j = -1 → has D (kd s) = false
  present : ∀ s (k : Nat), s.size ≤ maxLen → lastTo ss s j = k → has D (kd s) = true ∧ D.atKey (kd s) .nil = .held (qs k)
  elts : ∀ kl, has D kl = true → ∃ i, i < j ∧ D.atKey kl .nil = .held (qs i) ∧ ∃ s, s.size ≤ maxLen ∧ kl = kd s ∧ lastTo ss s j = i

theorem MapInv.start (w : World) (ss : List ByteArray) (qs : Nat → Nat) : MapInv (w.alloc (.map #[] 0)) w.heap.size 0 ss qs (.map []) where
  own := World.ownsMap_made _ _ _ _
  absent := fun _ _ _ => rfl
  present := fun s k _ h => by simp [lastTo] at h
  elts := fun kl h => by cases h

/-- one store more -/
theorem MapInv.step {wr w' : World} {gM j : Nat} {ss : List ByteArray} {qs : Nat → Nat} {D : DataW Nat} (h : MapInv wr gM j ss qs D) (q : Nat) (hs : (ss.getD j ByteArray.empty).size ≤ maxLen)
    (own' : w'.ownsMap Try.prog 9 ptrR gM (j + 1) (D.put (kd (ss.getD j ByteArray.empty)) (.held q))) : MapInv w' gM (j + 1) ss (fun i => if i = j then q else qs i) (D.put (kd (ss.getD j ByteArray.empty)) (.held q)) := by
  have hm : IsMap D := h.own.isMap
  have hk := isKey_kd hs
  refine ⟨own', ?_, ?_, ?_⟩
  · intro s hz hl
    unfold lastTo at hl
    split at hl
    · omega
    · rename_i hne
      rw [kd_inj] at hne
      rw [has_put_other (Ne.symm hne)]
      exact h.absent s hz hl
  · intro s k hz hl
    unfold lastTo at hl
    split at hl
    · rename_i he
      rw [kd_inj] at he
      have : k = j := by omega
      subst this
      rw [← he]
      exact ⟨has_put_same hm hk _, by rw [atKey_put_same hm hk]; simp⟩
    · rename_i hne
      rw [kd_inj] at hne
      have hb := lastTo_bd ss s j
      rw [has_put_other (Ne.symm hne), atKey_put_other (Ne.symm hne)]
      have := h.present s k hz hl
      rw [if_neg (by omega)]
      exact this
  · intro kl hkl
    by_cases he : kl = kd (ss.getD j ByteArray.empty)
    · subst he
      exact ⟨j, by omega, by rw [atKey_put_same hm hk]; simp, ss.getD j ByteArray.empty, hs, rfl, by simp [lastTo]⟩
    · rw [has_put_other he] at hkl
      obtain ⟨i, hi, ha, s, hz, rfl, hl⟩ := h.elts kl hkl
      refine ⟨i, by omega, by rw [atKey_put_other he, ha]; rw [if_neg (by omega)], s, hz, rfl, ?_⟩
      unfold lastTo
      rw [if_neg (fun e => he ((kd_inj.1 e).symm))]
      exact hl

/-- carried over whatever leaves the map's block alone -/
theorem MapInv.kept {wr w' : World} {gM j : Nat} {ss : List ByteArray} {qs : Nat → Nat} {D : DataW Nat} (h : MapInv wr gM j ss qs D) {row : Option Nat} (hg : wr.grownBy w' row) (hne : some gM ≠ row) : MapInv w' gM j ss qs D :=
  ⟨h.own.kept hg hne, h.absent, h.present, h.elts⟩

/-- the row of types after j rounds -/
structure RowInv (W wr : World) (gT n j : Nat) (qs : Nat → Nat) (l : List Value) : Prop where
  own : wr.ownsRow W.heap.size 29 1 (.slice (some ⟨gT, 0, none⟩) n n) n l
  tys : ∀ i, i < j → l[i]? = some (.pointer (some ⟨qs i, 0, none⟩))

/-- all that the Member law's first loop knows -/
structure Inv (W wr : World) (gT gM n j : Nat) (ss : List ByteArray) (qs : Nat → Nat) (D : DataW Nat) (l : List Value) : Prop where
  row : RowInv W wr gT n j qs l
  map : MapInv wr gM j ss qs D
  blk : ∀ i, i < j → wr.heap[qs i]? = some (scal none)
  ne : gT ≠ gM
  lo : W.heap.size ≤ gT ∧ W.heap.size ≤ gM
  below : Below W.heap.size W wr

theorem Inv.step {W wr : World} {gT gM n j : Nat} {ss : List ByteArray} {qs : Nat → Nat} {D : DataW Nat} {l : List Value} (h : Inv W wr gT gM n j ss qs D l) (hj : j < n) (hjm : j < maxLen) (hs : (ss.getD j ByteArray.empty).size ≤ maxLen) :
    ∃ w3, (Instr.mapUpdate 28 (.map (some gM)) (.string (ss.getD j ByteArray.empty)) (.pointer (some ⟨wr.heap.size, 0, none⟩))).run Try.prog ((wr.alloc (scal none)).setCell ⟨gT, j, none⟩ (.pointer (some ⟨wr.heap.size, 0, none⟩))).drew = .ok () w3 ∧
      Inv W w3 gT gM n (j + 1) ss (fun i => if i = j then wr.heap.size else qs i) (D.put (kd (ss.getD j ByteArray.empty)) (.held wr.heap.size)) (l.set j (.pointer (some ⟨wr.heap.size, 0, none⟩))) := by
  have hgT : gT < wr.heap.size := (h.row.own.lt _ rfl).2
  have hgM := h.map.own.lt
  have o1 := h.row.own.alloc (scal none)
  obtain ⟨o2, g2⟩ := o1.stored j (.pointer (some ⟨wr.heap.size, 0, none⟩))
  have g02 : wr.grownBy ((wr.alloc (scal none)).setCell ⟨gT, j, none⟩ (.pointer (some ⟨wr.heap.size, 0, none⟩))) (some gT) :=
    (World.grownBy_alloc wr (scal none) (some gT)).andThen g2 (fun j hj => Or.inr hj)
  have m2 := (h.map.kept g02 (by simpa using h.ne.symm))
  obtain ⟨w3, hrun, own3, turn⟩ := (m2.own.drew).store klaw Try.underlying28 hjm (keyOf_string_mk Try.underlying9 hs) (ptrR_some wr.heap.size)
  have g3 := turn.grown
  refine ⟨w3, hrun, ⟨⟨(o2.drew).kept g3 (by simpa [Value.ownBlock] using h.ne), ?_⟩, m2.step wr.heap.size hs own3, ?_, h.ne, h.lo, ?_⟩⟩
  · intro i hi
    by_cases e : i = j
    · subst e
      rw [List.getElem?_set_self (by have := h.row.own.1; omega)]
      simp
    · rw [List.getElem?_set_ne (by omega), if_neg e]
      exact h.row.tys i (by omega)
  · intro i hi
    by_cases e : i = j
    · rw [if_pos e, g3.block _ (by simp [World.drew]) (by simp; omega)]
      show ((wr.alloc (scal none)).setCell ⟨gT, j, none⟩ _).heap[wr.heap.size]? = _
      rw [heap_setCell_other _ _ _ _ (by show wr.heap.size ≠ gT; omega)]
      exact heap_alloc_new wr _
    · rw [if_neg e]
      have hb := h.blk i (by omega)
      have hlt : qs i < wr.heap.size := (Array.getElem?_eq_some_iff.1 hb).1
      have n1 : qs i ≠ gM := by
        intro e1
        obtain ⟨es, c, hh, _⟩ := h.map.own
        rw [e1, hh] at hb
        cases hb
      have n2 : qs i ≠ gT := by
        intro e1
        rcases h.row.own.2 with ⟨h1, _⟩ | ⟨g, cap, cur, h1, _, hh, _⟩
        · simp at h1
        · simp only [Value.slice.injEq, Option.some.injEq, Addr.mk.injEq, and_true, true_and] at h1
          rw [e1, h1.1, hh] at hb
          simp [scal] at hb
      rw [g3.block _ (by simp [World.drew]; omega) (by simpa using n1)]
      show ((wr.alloc (scal none)).setCell ⟨gT, j, none⟩ _).heap[qs i]? = _
      rw [heap_setCell_other _ _ _ _ (by show qs i ≠ gT; exact n2), Below.heap_alloc wr _ _ hlt]
      exact hb
  · have b2 : Below W.heap.size W ((wr.alloc (scal none)).setCell ⟨gT, j, none⟩ (.pointer (some ⟨wr.heap.size, 0, none⟩))) := h.below.grown g02 h.below.size (by simpa using h.lo.1)
    exact (b2.drew).grown g3 (by have := b2.size; simpa [World.drew] using this) (by simpa using h.lo.2)

end Go.Proofs.Qxb6616253a
