/-
  What constraintsOf has gathered after k dependents: plain lists, and the rows in memory. No walk.
-/
import Derived.Test.Qxb6616268aBuild
import Derived.Test.Qxb6616268aDomain
import Derived.Deep.AppendLies
namespace Go.Proofs.Qxb6616268a
open Go.RowKit
set_option linter.unusedVariables false
set_option linter.unusedSimpArgs false

/-- the string behind a pointer -/
def ps : Option SPtr → ByteArray
  | some q => q.s
  | none => ByteArray.empty

abbrev S3 := ByteArray × ByteArray × ByteArray
def cells3 (x : S3) : List Value := [.string x.1, .string x.2.1, .string x.2.2]

/-- the three lists of an answer -/
def uL (l : List Dp) : List ByteArray := (l.filter Dp.isUnique).map Dp.describe
def cL (col : ByteArray) (l : List Dp) : List S3 := (l.filter Dp.isCheck).map fun d => (d.describe, col, ps d.cond)
def kL (l : List Dp) : List S3 := (l.filter Dp.isLookup).map fun d => (d.describe, ps d.lt, ps d.lc)

theorem uL_append (a b : List Dp) : uL (a ++ b) = uL a ++ uL b := by simp [uL]
theorem cL_append (col : ByteArray) (a b : List Dp) : cL col (a ++ b) = cL col a ++ cL col b := by simp [cL]
theorem kL_append (a b : List Dp) : kL (a ++ b) = kL a ++ kL b := by simp [kL]

theorem take_snoc {l : List Dp} {k : Nat} {d : Dp} (h : l[k]? = some d) : l.take (k + 1) = l.take k ++ [d] := by
  obtain ⟨hk, rfl⟩ := List.getElem?_eq_some_iff.1 h
  exact List.take_succ_eq_append_getElem hk

def cs1 (u : List ByteArray) : List Value := u.map Value.string
def cs3 (c : List S3) : List Value := c.flatMap cells3

theorem cs3_len (c : List S3) : (cs3 c).length = c.length * 3 := by
  induction c with
  | nil => rfl
  | cons x c ih => simp only [cs3, List.flatMap_cons, List.length_append, List.length_cons] at *; rw [ih]; simp [cells3]; omega
theorem cs3_append (a b : List S3) : cs3 (a ++ b) = cs3 a ++ cs3 b := by simp [cs3]
theorem cs1_append (a b : List ByteArray) : cs1 (a ++ b) = cs1 a ++ cs1 b := by simp [cs1]

theorem cs3_get (c : List S3) (i j : Nat) (x : S3) (hx : c[i]? = some x) (hj : j < 3) : (cs3 c)[i * 3 + j]? = (cells3 x)[j]? := by
  induction c generalizing i with
  | nil => simp at hx
  | cons y c ih =>
    have e : cs3 (y :: c) = cells3 y ++ cs3 c := by simp [cs3]
    rw [e]
    cases i with
    | zero =>
      simp at hx; subst hx
      rw [List.getElem?_append_left (by simp [cells3]; omega)]
      simp
    | succ i =>
      rw [List.getElem?_append_right (by simp [cells3]; omega)]
      rw [← ih i (by simpa using hx)]
      congr 1
      simp [cells3]; omega

/-- the answer's block and its three rows -/
structure CInv (w wr : World) (B S : Nat) (u : List ByteArray) (c k : List S3) (au ac ak : Option Addr) (pu pc pk : Nat) : Prop where
  blk : wr.heap[S]? = some (.cells #[.bool false, .slice au u.length pu, .slice ac c.length pc, .slice ak k.length pk] 34 (0, 0))
  u : wr.ownsRow B 9 1 (.slice au u.length pu) u.length (cs1 u)
  c : wr.ownsRow B 54 3 (.slice ac c.length pc) c.length (cs3 c)
  k : wr.ownsRow B 56 3 (.slice ak k.length pk) k.length (cs3 k)
  lo : w.heap.size ≤ S ∧ S < B ∧ B ≤ wr.heap.size
  below : Below S w wr

/-- two rows of different element types lie in different blocks -/
theorem row_ne {w : World} {B B' e e' z z' n n' : Nat} {v v' : Value} {xs xs' : List Value} (h : w.ownsRow B e z v n xs) (h' : w.ownsRow B' e' z' v' n' xs') (hne : e ≠ e') : v.ownBlock = none ∨ v.ownBlock ≠ v'.ownBlock := by
  rcases h.2 with ⟨rfl, _⟩ | ⟨g, cap, cur, rfl, _, hh, _⟩
  · exact Or.inl rfl
  · rcases h'.2 with ⟨rfl, _⟩ | ⟨g', cap', cur', rfl, _, hh', _⟩
    · exact Or.inr (by simp [Value.ownBlock])
    · refine Or.inr fun e0 => ?_
      simp [Value.ownBlock] at e0
      rw [e0, hh'] at hh
      simp at hh
      exact hne hh.2.symm

theorem own_block_ge {w : World} {B e z n : Nat} {v : Value} {xs : List Value} (h : w.ownsRow B e z v n xs) {j : Nat} (hj : v.ownBlock = some j) : B ≤ j := (h.lt j hj).1

theorem ne_low {w : World} {B e z n S : Nat} {v : Value} {xs : List Value} (h : w.ownsRow B e z v n xs) (hS : S < B) : v.ownBlock = none ∨ v.ownBlock ≠ some S :=
  Or.inr fun e1 => by have := own_block_ge h e1; omega

/-- carried over whatever leaves the answer's block and the rows alone -/
theorem CInv.kept {w wr w' : World} {B S : Nat} {u : List ByteArray} {c k : List S3} {au ac ak : Option Addr} {pu pc pk : Nat} (h : CInv w wr B S u c k au ac ak pu pc pk) (hb : Below wr.heap.size wr w') : CInv w w' B S u c k au ac ak pu pc pk := by
  have hg : wr.grownBy w' none := ⟨hb.os, hb.tape, hb.output, hb.size, fun i hi _ => hb.block i hi⟩
  have hS : S < wr.heap.size := (Array.getElem?_eq_some_iff.1 h.blk).1
  refine ⟨(hb.block S hS).trans h.blk, h.u.kept hg ?_, h.c.kept hg ?_, h.k.kept hg ?_, ⟨h.lo.1, h.lo.2.1, Nat.le_trans h.lo.2.2 hb.size⟩, h.below.trans (hb.mono (by omega))⟩
  · cases (Value.slice au u.length pu).ownBlock <;> simp
  · cases (Value.slice ac c.length pc).ownBlock <;> simp
  · cases (Value.slice ak k.length pk).ownBlock <;> simp

theorem heap_set {w : World} {S i : Nat} {cs : Array Value} {e : TypeId} {v : Value} (h : w.heap[S]? = some (.cells cs e (0, 0))) : (w.setCell ⟨S, i, none⟩ v).heap[S]? = some (.cells (cs.setIfInBounds i v) e (0, 0)) :=
  heap_setCell_same w S i cs e v h

/-- one check more -/
theorem CInv.check {w wr w' : World} {B S : Nat} {u : List ByteArray} {c k : List S3} {au ac ak : Option Addr} {pu pc pk : Nat} (h : CInv w wr B S u c k au ac ak pu pc pk) {x : S3} {g cap : Nat}
    (own : w'.ownsRow B 54 3 (.slice (some ⟨g, 0, none⟩) (c.length + 1) cap) (c.length + 1) (cs3 c ++ cells3 x)) (gr : wr.grownBy w' (Value.slice ac c.length pc).ownBlock) :
    CInv w (w'.setCell ⟨S, 2, none⟩ (.slice (some ⟨g, 0, none⟩) (c.length + 1) cap)) B S u (c ++ [x]) k au (some ⟨g, 0, none⟩) ak pu cap pk := by
  have hS : S < wr.heap.size := (Array.getElem?_eq_some_iff.1 h.blk).1
  have hne : some S ≠ (Value.slice ac c.length pc).ownBlock := fun e => by have := own_block_ge h.c e.symm; have := h.lo; omega
  have b1 : w'.heap[S]? = _ := (gr.block S hS hne).trans h.blk
  have gs : w'.grownBy (w'.setCell ⟨S, 2, none⟩ (.slice (some ⟨g, 0, none⟩) (c.length + 1) cap)) (some S) := ⟨rfl, rfl, rfl, by simp, fun i _ hi => heap_setCell_other w' _ i _ (fun e => hi (by simp [e]))⟩
  have u1 := h.u.kept gr (row_ne h.u h.c (by decide))
  have k1 := h.k.kept gr (row_ne h.k h.c (by decide))
  refine ⟨?_, u1.kept gs (ne_low u1 h.lo.2.1), ?_, k1.kept gs (ne_low k1 h.lo.2.1), ⟨h.lo.1, h.lo.2.1, ?_⟩, ?_⟩
  · rw [heap_set b1]; simp
  · have := own.kept gs (ne_low own h.lo.2.1)
    simpa [cs3_append, cs3] using this
  · have := h.lo; have := gr.size; simp; omega
  · have b2 : Below S w w' := h.below.trans ⟨gr.os, gr.tape, gr.output, gr.size, fun i hi => gr.block i (by omega) (fun e => by have := own_block_ge h.c e.symm; have := h.lo; omega)⟩
    exact b2.setCell (Nat.le_refl _) _

/-- one lookup more -/
theorem CInv.lookup {w wr w' : World} {B S : Nat} {u : List ByteArray} {c k : List S3} {au ac ak : Option Addr} {pu pc pk : Nat} (h : CInv w wr B S u c k au ac ak pu pc pk) {x : S3} {g cap : Nat}
    (own : w'.ownsRow B 56 3 (.slice (some ⟨g, 0, none⟩) (k.length + 1) cap) (k.length + 1) (cs3 k ++ cells3 x)) (gr : wr.grownBy w' (Value.slice ak k.length pk).ownBlock) :
    CInv w (w'.setCell ⟨S, 3, none⟩ (.slice (some ⟨g, 0, none⟩) (k.length + 1) cap)) B S u c (k ++ [x]) au ac (some ⟨g, 0, none⟩) pu pc cap := by
  have hS : S < wr.heap.size := (Array.getElem?_eq_some_iff.1 h.blk).1
  have hne : some S ≠ (Value.slice ak k.length pk).ownBlock := fun e => by have := own_block_ge h.k e.symm; have := h.lo; omega
  have b1 : w'.heap[S]? = _ := (gr.block S hS hne).trans h.blk
  have gs : w'.grownBy (w'.setCell ⟨S, 3, none⟩ (.slice (some ⟨g, 0, none⟩) (k.length + 1) cap)) (some S) := ⟨rfl, rfl, rfl, by simp, fun i _ hi => heap_setCell_other w' _ i _ (fun e => hi (by simp [e]))⟩
  have u1 := h.u.kept gr (row_ne h.u h.k (by decide))
  have c1 := h.c.kept gr (row_ne h.c h.k (by decide))
  refine ⟨?_, u1.kept gs (ne_low u1 h.lo.2.1), c1.kept gs (ne_low c1 h.lo.2.1), ?_, ⟨h.lo.1, h.lo.2.1, ?_⟩, ?_⟩
  · rw [heap_set b1]; simp
  · have := own.kept gs (ne_low own h.lo.2.1)
    simpa [cs3_append, cs3] using this
  · have := h.lo; have := gr.size; simp; omega
  · have b2 : Below S w w' := h.below.trans ⟨gr.os, gr.tape, gr.output, gr.size, fun i hi => gr.block i (by omega) (fun e => by have := own_block_ge h.k e.symm; have := h.lo; omega)⟩
    exact b2.setCell (Nat.le_refl _) _

/-- one unique more -/
theorem CInv.unique {w wr w' : World} {B S : Nat} {u : List ByteArray} {c k : List S3} {au ac ak : Option Addr} {pu pc pk : Nat} (h : CInv w wr B S u c k au ac ak pu pc pk) {x : ByteArray} {g cap : Nat}
    (own : w'.ownsRow B 9 1 (.slice (some ⟨g, 0, none⟩) (u.length + 1) cap) (u.length + 1) (cs1 u ++ [.string x])) (gr : wr.grownBy w' (Value.slice au u.length pu).ownBlock) :
    CInv w (w'.setCell ⟨S, 1, none⟩ (.slice (some ⟨g, 0, none⟩) (u.length + 1) cap)) B S (u ++ [x]) c k (some ⟨g, 0, none⟩) ac ak cap pc pk := by
  have hS : S < wr.heap.size := (Array.getElem?_eq_some_iff.1 h.blk).1
  have hne : some S ≠ (Value.slice au u.length pu).ownBlock := fun e => by have := own_block_ge h.u e.symm; have := h.lo; omega
  have b1 : w'.heap[S]? = _ := (gr.block S hS hne).trans h.blk
  have gs : w'.grownBy (w'.setCell ⟨S, 1, none⟩ (.slice (some ⟨g, 0, none⟩) (u.length + 1) cap)) (some S) := ⟨rfl, rfl, rfl, by simp, fun i _ hi => heap_setCell_other w' _ i _ (fun e => hi (by simp [e]))⟩
  have c1 := h.c.kept gr (row_ne h.c h.u (by decide))
  have k1 := h.k.kept gr (row_ne h.k h.u (by decide))
  refine ⟨?_, ?_, c1.kept gs (ne_low c1 h.lo.2.1), k1.kept gs (ne_low k1 h.lo.2.1), ⟨h.lo.1, h.lo.2.1, ?_⟩, ?_⟩
  · rw [heap_set b1]; simp
  · have := own.kept gs (ne_low own h.lo.2.1)
    simpa [cs1_append, cs1] using this
  · have := h.lo; have := gr.size; simp; omega
  · have b2 : Below S w w' := h.below.trans ⟨gr.os, gr.tape, gr.output, gr.size, fun i hi => gr.block i (by omega) (fun e => by have := own_block_ge h.u e.symm; have := h.lo; omega)⟩
    exact b2.setCell (Nat.le_refl _) _

end Go.Proofs.Qxb6616268a
