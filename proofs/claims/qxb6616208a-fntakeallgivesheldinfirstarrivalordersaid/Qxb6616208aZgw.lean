/-
  The law's groups: rows and their contents; steps. No walk.
-/
import Derived.Test.Qxb6616208aZgrp
namespace Go.Proofs.Qxb6616208a
open Go.RowKit
set_option linter.unusedVariables false
set_option linter.unusedSimpArgs false

/-- blocks of the law's groups -/
def isG (o : Obj) : Prop := ∃ c fr, o = .cells c 76 fr ∨ o = .cells c 3 fr

/-- of what was there only blocks from B on, of kind T, may have turned -/
structure Fr (T : Obj → Prop) (B : Nat) (w w' : World) : Prop where
  os : w'.os = w.os
  tape : w'.tape = w.tape
  output : w'.output = w.output
  size : w.heap.size ≤ w'.heap.size
  block : ∀ k o, w.heap[k]? = some o → w'.heap[k]? = some o ∨ (B ≤ k ∧ T o)

theorem Fr.refl (T : Obj → Prop) (B : Nat) (w : World) : Fr T B w w := ⟨rfl, rfl, rfl, Nat.le_refl _, fun _ _ h => Or.inl h⟩
theorem Fr.trans {T : Obj → Prop} {B : Nat} {a b c : World} (h : Fr T B a b) (g : Fr T B b c) : Fr T B a c :=
  ⟨g.os.trans h.os, g.tape.trans h.tape, g.output.trans h.output, Nat.le_trans h.size g.size, fun k o e => by
    rcases h.block k o e with e1 | h1
    · exact g.block k o e1
    · exact Or.inr h1⟩
theorem Fr.of_below {T : Obj → Prop} {B : Nat} {w w' : World} (h : Below w.heap.size w w') : Fr T B w w' :=
  ⟨h.os, h.tape, h.output, h.size, fun k o e => Or.inl ((h.block k (Array.getElem?_eq_some_iff.1 e).1).trans e)⟩
theorem Fr.keep {T : Obj → Prop} {B : Nat} {w w' : World} (h : Fr T B w w') {k : Nat} {o : Obj} (e : w.heap[k]? = some o) (hT : ¬ T o) : w'.heap[k]? = some o := by
  rcases h.block k o e with e1 | ⟨_, h2⟩
  · exact e1
  · exact absurd h2 hT
theorem Fr.below {T : Obj → Prop} {B : Nat} {w w' : World} (h : Fr T B w w') (hB : B ≤ w.heap.size) : Below B w w' :=
  ⟨h.os, h.tape, h.output, h.size, fun k hk => by
    have hk' : k < w.heap.size := by omega
    have e : w.heap[k]? = some w.heap[k] := Array.getElem?_eq_getElem hk'
    rcases h.block k _ e with e1 | ⟨h1, _⟩
    · exact e1.trans e.symm
    · omega⟩
/-- one block of its own turned -/
theorem Fr.of_grown {T : Obj → Prop} {B : Nat} {w w' : World} {row : Option Nat} (h : w.grownBy w' row) (hr : ∀ k, row = some k → B ≤ k ∧ ∀ o, w.heap[k]? = some o → T o) : Fr T B w w' :=
  ⟨h.os, h.tape, h.output, h.size, fun k o e => by
    by_cases hk : some k = row
    · obtain ⟨h1, h2⟩ := hr k hk.symm
      exact Or.inr ⟨h1, h2 o e⟩
    · exact Or.inl ((h.block k (Array.getElem?_eq_some_iff.1 e).1 hk).trans e)⟩
theorem Fr.of_set {T : Obj → Prop} {B : Nat} {w : World} {b o : Nat} {v : Value} {c : Array Value} {t : TypeId} {fr : Nat × Nat} (hB : B ≤ b) (h : w.heap[b]? = some (.cells c t fr)) (hT : ∀ c, T (.cells c t fr)) : Fr T B w (w.setCell ⟨b, o, none⟩ v) :=
  ⟨rfl, rfl, rfl, by simp [World.setCell], fun k ob e => by
    by_cases hk : k = b
    · subst hk
      rw [h] at e
      cases e
      exact Or.inr ⟨hB, hT _⟩
    · exact Or.inl ((Below.heap_setCell _ _ _ _ (by exact hk)).trans e)⟩

def ints (l : List Int) : List Value := l.map (Value.int .i64)
theorem ints_one (l : List Int) : ∀ u ∈ ints l, u.oneCell' = true := by
  intro u hu
  obtain ⟨z, _, rfl⟩ := List.mem_map.1 hu
  rfl

/-- no two slices share a block -/
def Apt (l : List GR) : Prop := ∀ (i j : Nat) (x y : GR), l[i]? = some x → l[j]? = some y → (x.pa = none ∨ x.pa ≠ y.ia) ∧ (i ≠ j → (x.pa = none ∨ x.pa ≠ y.pa) ∧ (x.ia = none ∨ x.ia ≠ y.ia))

structure GW (w : World) (B : Nat) (ga : Option Addr) (gc : Nat) (l : List GR) (D : List (List Int × List Int)) : Prop where
  row : GRow w B ga gc l
  len : l.length = D.length
  ok : ∀ (i : Nat) (x : GR) (d : List Int × List Int), l[i]? = some x → D[i]? = some d → x.n = d.1.length ∧ x.m = d.2.length ∧ w.ownsRow B 3 1 (.slice x.pa x.n x.pc) x.n (ints d.1) ∧ w.ownsRow B 3 1 (.slice x.ia x.m x.ic) x.m (ints d.2)
  ap : Apt l

theorem own_keep {w w' : World} {B e z n : Nat} {v : Value} {xs : List Value} (h : w.ownsRow B e z v n xs) (hk : ∀ k c, v.ownBlock = some k → w.heap[k]? = some (.cells c e (0, 0)) → w'.heap[k]? = w.heap[k]?) : w'.ownsRow B e z v n xs := by
  refine ⟨h.1, ?_⟩
  rcases h.2 with h0 | ⟨g, cap, cur, rfl, hB, hg, r⟩
  · exact Or.inl h0
  · exact Or.inr ⟨g, cap, cur, rfl, hB, (hk g cur rfl hg).trans hg, r⟩

/-- carried over whatever leaves such blocks alone -/
theorem GW.keep {w w' : World} {B : Nat} {ga : Option Addr} {gc : Nat} {l : List GR} {D : List (List Int × List Int)} (h : GW w B ga gc l D) (hk : ∀ (k : Nat) (o : Obj), w.heap[k]? = some o → isG o → w'.heap[k]? = some o) : GW w' B ga gc l D :=
  ⟨own_keep h.row fun k c _ e => (hk k _ e ⟨c, (0, 0), Or.inl rfl⟩).trans e.symm, h.len, fun i x d hx hd => by
    obtain ⟨h1, h2, h3, h4⟩ := h.ok i x d hx hd
    exact ⟨h1, h2, own_keep h3 fun k c _ e => (hk k _ e ⟨c, (0, 0), Or.inr rfl⟩).trans e.symm, own_keep h4 fun k c _ e => (hk k _ e ⟨c, (0, 0), Or.inr rfl⟩).trans e.symm⟩, h.ap⟩

theorem GW.below {w w' : World} {B : Nat} {ga : Option Addr} {gc : Nat} {l : List GR} {D : List (List Int × List Int)} (h : GW w B ga gc l D) (hb : Below w.heap.size w w') : GW w' B ga gc l D :=
  h.keep fun k o e _ => (hb.block k (Array.getElem?_eq_some_iff.1 e).1).trans e

theorem flat_set (l : List GR) (i j : Nat) (x x' : GR) (v : Value) (hx : l[i]? = some x) (hj : j < 9) (hc : x'.cells = x.cells.set j v) : (flat l).set (i * 9 + j) v = flat (l.set i x') := by
  induction l generalizing i with
  | nil => simp at hx
  | cons y l ih =>
    have e : flat (y :: l) = y.cells ++ flat l := by simp [flat]
    cases i with
    | zero =>
      simp at hx; subst hx
      rw [e, List.set_append_left _ _ (by simp [GR.cells]; omega)]
      simp [flat, hc]
    | succ i =>
      have hlen : y.cells.length = 9 := rfl
      rw [e, List.set_append_right _ _ (by omega), hlen, show (i + 1) * 9 + j - 9 = i * 9 + j by omega, ih i (by simpa using hx)]
      simp [flat]

theorem heap_set_same' {w : World} {b o : Nat} {c : Array Value} {t : TypeId} {fr : Nat × Nat} (h : w.heap[b]? = some (.cells c t fr)) (v : Value) :
    (w.setCell ⟨b, o, none⟩ v).heap[b]? = some (.cells (c.setIfInBounds o v) t fr) := by
  simp [World.setCell, Array.getElem?_modify, h]
theorem own_set {w : World} {B e z n cap g j : Nat} {xs : List Value} (h : w.ownsRow B e z (.slice (some ⟨g, 0, none⟩) n cap) n xs) (hj : j < xs.length) (v : Value) : (w.setCell ⟨g, j, none⟩ v).ownsRow B e z (.slice (some ⟨g, 0, none⟩) n cap) n (xs.set j v) := by
  refine ⟨by simpa using h.1, ?_⟩
  rcases h.2 with ⟨h0, _⟩ | ⟨g', cap', cur, e1, hB, hg, h1, h2, h3, h4⟩
  · cases h0
  · simp only [Value.slice.injEq, Option.some.injEq, Addr.mk.injEq] at e1
    obtain ⟨⟨rfl, -⟩, -, rfl⟩ := e1
    refine Or.inr ⟨g, cap, cur.setIfInBounds j v, rfl, hB, heap_set_same' hg v, h1, h2, by simpa using h3, ?_⟩
    rw [← h4, Array.toList_setIfInBounds, List.take_set]

theorem get_set {α : Type} {l : List α} {i k : Nat} {a y : α} (h : (l.set i a)[k]? = some y) : (k = i ∧ y = a) ∨ (k ≠ i ∧ l[k]? = some y) := by
  rw [List.getElem?_set] at h
  by_cases e : i = k
  · rw [if_pos e] at h
    split at h
    · simp at h; exact Or.inl ⟨e.symm, h.symm⟩
    · cases h
  · rw [if_neg e] at h
    exact Or.inr ⟨fun h' => e h'.symm, h⟩

/-- a cell of group i set; what it leads to unchanged -/
theorem GRow.set {w : World} {B : Nat} {gc g : Nat} {l : List GR} (h : GRow w B (some ⟨g, 0, none⟩) gc l) {i j : Nat} {x x' : GR} {v : Value} (hx : l[i]? = some x) (hj : j < 9) (hc : x'.cells = x.cells.set j v) : GRow (w.setCell ⟨g, i * 9 + j, none⟩ v) B (some ⟨g, 0, none⟩) gc (l.set i x') := by
  have hi : i < l.length := (List.getElem?_eq_some_iff.1 hx).1
  have h1 := own_set h (j := i * 9 + j) (by rw [flat_len]; omega) v
  show World.ownsRow _ B 76 9 (.slice (some ⟨g, 0, none⟩) (l.set i x').length gc) (l.set i x').length (flat (l.set i x'))
  rw [List.length_set, ← flat_set l i j x x' v hx hj hc]
  exact h1

/-- the row's block -/
theorem GRow.blk {w : World} {B : Nat} {ga : Option Addr} {gc : Nat} {l : List GR} (h : GRow w B ga gc l) {i : Nat} {x : GR} (hx : l[i]? = some x) : ∃ g c, ga = some ⟨g, 0, none⟩ ∧ B ≤ g ∧ w.heap[g]? = some (.cells c 76 (0, 0)) := by
  have hi : i < l.length := (List.getElem?_eq_some_iff.1 hx).1
  rcases h.2 with ⟨e, h0⟩ | ⟨g, cap, cur, e, hB, hg, _⟩
  · omega
  · simp only [Value.slice.injEq] at e
    obtain ⟨rfl, -, rfl⟩ := e
    exact ⟨g, cur, rfl, hB, hg⟩

theorem own_blk {w : World} {B e z n c : Nat} {a : Option Addr} {xs : List Value} (h : w.ownsRow B e z (.slice a n c) n xs) : a = none ∨ ∃ g cur, a = some ⟨g, 0, none⟩ ∧ B ≤ g ∧ w.heap[g]? = some (.cells cur e (0, 0)) := by
  rcases h.2 with ⟨e, h0⟩ | ⟨g, cap, cur, e, hB, hg, _⟩
  · simp only [Value.slice.injEq] at e
    exact Or.inl e.1
  · simp only [Value.slice.injEq] at e
    exact Or.inr ⟨g, cur, e.1, hB, hg⟩

/-- a row kept over a growth of another row -/
theorem own_grown {w w' : World} {B e z n c : Nat} {a : Option Addr} {row : Option Nat} {xs : List Value} (h : w.ownsRow B e z (.slice a n c) n xs) (hg : w.grownBy w' row) (hne : ∀ g, a = some ⟨g, 0, none⟩ → row ≠ some g) : w'.ownsRow B e z (.slice a n c) n xs :=
  own_keep h fun k cc hk e1 => hg.block k (Array.getElem?_eq_some_iff.1 e1).1 fun hr => by
    rcases own_blk h with rfl | ⟨g, cur, rfl, _, _⟩
    · simp [Value.ownBlock] at hk
    · simp [Value.ownBlock] at hk
      subst hk
      exact hne g rfl hr.symm

/-- parts = append(parts, p) -/
theorem GW.parts {w w1 : World} {B g gc : Nat} {l : List GR} {D : List (List Int × List Int)} (h : GW w B (some ⟨g, 0, none⟩) gc l D) {i : Nat} {x : GR} {d : List Int × List Int} (hx : l[i]? = some x) (hd : D[i]? = some d) {p : Int} {a' : Option Addr} {c' : Nat}
    (own : w1.ownsRow B 3 1 (.slice a' (x.n + 1) c') (x.n + 1) (ints d.1 ++ [.int .i64 p])) (gr : w.grownBy w1 (Value.slice x.pa x.n x.pc).ownBlock) (hat : (Value.slice a' (x.n + 1) c').ownBlock = (Value.slice x.pa x.n x.pc).ownBlock ∨ (Value.slice a' (x.n + 1) c').ownBlock = some w.heap.size) :
    GW (w1.setCell ⟨g, i * 9 + 6, none⟩ (.slice a' (x.n + 1) c')) B (some ⟨g, 0, none⟩) gc (l.set i { x with n := x.n + 1, pa := a', pc := c' }) (D.set i (d.1 ++ [p], d.2)) ∧ Fr isG B w (w1.setCell ⟨g, i * 9 + 6, none⟩ (.slice a' (x.n + 1) c')) := by
  obtain ⟨k1, k2, op, oi⟩ := h.ok i x d hx hd
  obtain ⟨g', cur, e1, hB, hg⟩ := h.row.blk hx
  cases e1
  -- the blocks of this group's slices
  have bp := own_blk op
  have bi := own_blk oi
  have ba := own_blk own
  have rowne : (Value.slice x.pa x.n x.pc).ownBlock ≠ some g := fun e => by
    rcases bp with e1 | ⟨q, cq, e1, _, hq⟩
    · rw [e1] at e; simp [Value.ownBlock] at e
    · rw [e1] at e; simp [Value.ownBlock] at e; subst e; rw [hg] at hq; simp at hq
  have hg1 : w1.heap[g]? = some (.cells cur 76 (0, 0)) := (gr.block g (Array.getElem?_eq_some_iff.1 hg).1 (fun e => rowne e.symm)).trans hg
  have row1 : GRow w1 B (some ⟨g, 0, none⟩) gc l := own_grown h.row gr fun q hq e => by cases hq; exact rowne e
  obtain ⟨q, cq, ea, hBq, hq⟩ : ∃ q cq, a' = some ⟨q, 0, none⟩ ∧ B ≤ q ∧ w1.heap[q]? = some (.cells cq 3 (0, 0)) := by
    rcases ba with e | e
    · have := own.2
      rcases this with ⟨e2, h2⟩ | ⟨_, _, _, e2, _⟩
      · omega
      · rw [e] at e2; cases e2
    · exact e
  subst ea
  have hqg : q ≠ g := fun e => by subst e; rw [hg1] at hq; simp at hq
  have set1 : ∀ {e z n c : Nat} {a : Option Addr} {xs : List Value}, e = 3 → w1.ownsRow B e z (.slice a n c) n xs → (w1.setCell ⟨g, i * 9 + 6, none⟩ (.slice (some ⟨q, 0, none⟩) (x.n + 1) c')).ownsRow B e z (.slice a n c) n xs := fun {e z n c a xs} he o => own_keep o fun k cc hk e1 => Below.heap_setCell _ _ _ _ fun e2 => by
    simp only [] at e2
    subst e2
    subst he
    rw [hg1] at e1
    simp at e1
  have keep1 : ∀ j y dd, l[j]? = some y → D[j]? = some dd → (j ≠ i → w1.ownsRow B 3 1 (.slice y.pa y.n y.pc) y.n (ints dd.1)) ∧ w1.ownsRow B 3 1 (.slice y.ia y.m y.ic) y.m (ints dd.2) := fun j y dd hy hdd => by
    obtain ⟨_, _, oy, oyi⟩ := h.ok j y dd hy hdd
    refine ⟨fun hji => own_grown oy gr fun r hr e => ?_, own_grown oyi gr fun r hr e => ?_⟩
    · have := ((h.ap j i y x hy hx).2 hji).1
      rcases bp with e1 | ⟨r', _, e1, _, _⟩
      · rw [e1] at e; simp [Value.ownBlock] at e
      · rw [e1] at e this; simp [Value.ownBlock] at e; subst e; rw [hr] at this; simp at this
    · have := (h.ap i j x y hx hy).1
      rcases bp with e1 | ⟨r', _, e1, _, _⟩
      · rw [e1] at e; simp [Value.ownBlock] at e
      · rw [e1] at e this; simp [Value.ownBlock] at e; subst e; rw [hr] at this; simp at this
  -- where the new slice lies
  have hq' : x.pa = some ⟨q, 0, none⟩ ∨ q = w.heap.size := by
    rcases hat with e | e
    · simp [Value.ownBlock] at e
      rcases bp with e1 | ⟨r', _, e1, _, _⟩
      · rw [e1] at e; cases e
      · rw [e1] at e; simp at e; subst e; exact Or.inl e1
    · simp [Value.ownBlock] at e; exact Or.inr e
  have other : ∀ j y, l[j]? = some y → (j ≠ i → y.pa = none ∨ y.pa ≠ some ⟨q, 0, none⟩) ∧ (some ⟨q, 0, none⟩ : Option Addr) ≠ y.ia ∧ (y.ia = none ∨ y.ia ≠ some ⟨q, 0, none⟩) := fun j y hy => by
    obtain ⟨dd, hdd⟩ : ∃ dd, D[j]? = some dd := ⟨_, List.getElem?_eq_getElem (by rw [← h.len]; exact (List.getElem?_eq_some_iff.1 hy).1)⟩
    obtain ⟨_, _, oy, oyi⟩ := h.ok j y dd hy hdd
    rcases hq' with e | e
    · have a1 := (h.ap i j x y hx hy).1
      rw [e] at a1
      replace a1 := a1.resolve_left (by simp)
      refine ⟨fun hji => ?_, a1, Or.inr fun e2 => a1 e2.symm⟩
      have := ((h.ap j i y x hy hx).2 hji).1
      rwa [e] at this
    · have lt : ∀ {a : Option Addr} {n c : Nat} {xs : List Value}, w.ownsRow B 3 1 (.slice a n c) n xs → a ≠ some ⟨q, 0, none⟩ := fun o e2 => by
        rcases own_blk o with e3 | ⟨r, cr, e3, _, hr⟩
        · rw [e3] at e2; cases e2
        · rw [e3] at e2; cases e2; have := (Array.getElem?_eq_some_iff.1 hr).1; omega
      exact ⟨fun _ => Or.inr (lt oy), fun e2 => lt oyi e2.symm, Or.inr (lt oyi)⟩
  refine ⟨⟨row1.set (x' := { x with n := x.n + 1, pa := some ⟨q, 0, none⟩, pc := c' }) hx (by omega) rfl, by simpa using h.len, fun j y dd hy hdd => ?_, fun j k y z hy hz => ?_⟩, ?_⟩
  · rcases get_set hy with ⟨rfl, rfl⟩ | ⟨hji, hy⟩
    · rcases get_set hdd with ⟨-, rfl⟩ | ⟨h0, _⟩
      · refine ⟨by simp [k1], k2, ?_, set1 rfl (keep1 _ x d hx hd).2⟩
        have := set1 rfl own
        simpa [ints] using this
      · exact absurd rfl h0
    · rcases get_set hdd with ⟨h0, _⟩ | ⟨_, hdd⟩
      · exact absurd h0 hji
      · obtain ⟨y1, y2, _, _⟩ := h.ok j y dd hy hdd
        exact ⟨y1, y2, set1 rfl ((keep1 j y dd hy hdd).1 hji), set1 rfl (keep1 j y dd hy hdd).2⟩
  · rcases get_set hy with ⟨rfl, rfl⟩ | ⟨hji, hy'⟩
    · rcases get_set hz with ⟨rfl, rfl⟩ | ⟨hki, hz'⟩
      · exact ⟨Or.inr (other _ x hx).2.1, fun h0 => absurd rfl h0⟩
      · refine ⟨Or.inr (other k z hz').2.1, fun _ => ⟨Or.inr fun e => ?_, ((h.ap _ k x z hx hz').2 (fun e => hki e.symm)).2⟩⟩
        rcases (other k z hz').1 hki with e2 | e2
        · simp only [] at e; rw [e2] at e; cases e
        · exact e2 e.symm
    · rcases get_set hz with ⟨rfl, rfl⟩ | ⟨hki, hz'⟩
      · exact ⟨(h.ap j _ y x hy' hx).1, fun _ => ⟨(other j y hy').1 hji, ((h.ap j _ y x hy' hx).2 hji).2⟩⟩
      · exact h.ap j k y z hy' hz'
  · refine Fr.trans (Fr.of_grown gr fun r hr => ?_) (Fr.of_set hB hg1 fun c => ⟨c, _, Or.inl rfl⟩)
    rcases bp with e1 | ⟨r', cr, e1, hBr, hr'⟩
    · rw [e1] at hr; simp [Value.ownBlock] at hr
    · rw [e1] at hr
      simp [Value.ownBlock] at hr
      subst hr
      exact ⟨hBr, fun o e => by rw [hr'] at e; cases e; exact ⟨_, _, Or.inr rfl⟩⟩

/-- idx = append(idx, p) -/
theorem GW.idx {w w1 : World} {B g gc : Nat} {l : List GR} {D : List (List Int × List Int)} (h : GW w B (some ⟨g, 0, none⟩) gc l D) {i : Nat} {x : GR} {d : List Int × List Int} (hx : l[i]? = some x) (hd : D[i]? = some d) {p : Int} {a' : Option Addr} {c' : Nat}
    (own : w1.ownsRow B 3 1 (.slice a' (x.m + 1) c') (x.m + 1) (ints d.2 ++ [.int .i64 p])) (gr : w.grownBy w1 (Value.slice x.ia x.m x.ic).ownBlock) (hat : (Value.slice a' (x.m + 1) c').ownBlock = (Value.slice x.ia x.m x.ic).ownBlock ∨ (Value.slice a' (x.m + 1) c').ownBlock = some w.heap.size) :
    GW (w1.setCell ⟨g, i * 9 + 7, none⟩ (.slice a' (x.m + 1) c')) B (some ⟨g, 0, none⟩) gc (l.set i { x with m := x.m + 1, ia := a', ic := c' }) (D.set i (d.1, d.2 ++ [p])) ∧ Fr isG B w (w1.setCell ⟨g, i * 9 + 7, none⟩ (.slice a' (x.m + 1) c')) := by
  obtain ⟨k1, k2, op, oi⟩ := h.ok i x d hx hd
  obtain ⟨g', cur, e1, hB, hg⟩ := h.row.blk hx
  cases e1
  have bp := own_blk oi
  have ba := own_blk own
  have rowne : (Value.slice x.ia x.m x.ic).ownBlock ≠ some g := fun e => by
    rcases bp with e1 | ⟨q, cq, e1, _, hq⟩
    · rw [e1] at e; simp [Value.ownBlock] at e
    · rw [e1] at e; simp [Value.ownBlock] at e; subst e; rw [hg] at hq; simp at hq
  have hg1 : w1.heap[g]? = some (.cells cur 76 (0, 0)) := (gr.block g (Array.getElem?_eq_some_iff.1 hg).1 (fun e => rowne e.symm)).trans hg
  have row1 : GRow w1 B (some ⟨g, 0, none⟩) gc l := own_grown h.row gr fun q hq e => by cases hq; exact rowne e
  obtain ⟨q, cq, ea, hBq, hq⟩ : ∃ q cq, a' = some ⟨q, 0, none⟩ ∧ B ≤ q ∧ w1.heap[q]? = some (.cells cq 3 (0, 0)) := by
    rcases ba with e | e
    · have := own.2
      rcases this with ⟨e2, h2⟩ | ⟨_, _, _, e2, _⟩
      · omega
      · rw [e] at e2; cases e2
    · exact e
  subst ea
  have set1 : ∀ {e z n c : Nat} {a : Option Addr} {xs : List Value}, e = 3 → w1.ownsRow B e z (.slice a n c) n xs → (w1.setCell ⟨g, i * 9 + 7, none⟩ (.slice (some ⟨q, 0, none⟩) (x.m + 1) c')).ownsRow B e z (.slice a n c) n xs := fun {e z n c a xs} he o => own_keep o fun k cc hk e1 => Below.heap_setCell _ _ _ _ fun e2 => by
    simp only [] at e2
    subst e2
    subst he
    rw [hg1] at e1
    simp at e1
  have keep1 : ∀ j y dd, l[j]? = some y → D[j]? = some dd → w1.ownsRow B 3 1 (.slice y.pa y.n y.pc) y.n (ints dd.1) ∧ (j ≠ i → w1.ownsRow B 3 1 (.slice y.ia y.m y.ic) y.m (ints dd.2)) := fun j y dd hy hdd => by
    obtain ⟨_, _, oy, oyi⟩ := h.ok j y dd hy hdd
    refine ⟨own_grown oy gr fun r hr e => ?_, fun hji => own_grown oyi gr fun r hr e => ?_⟩
    · have := (h.ap j i y x hy hx).1
      rcases bp with e1 | ⟨r', _, e1, _, _⟩
      · rw [e1] at e; simp [Value.ownBlock] at e
      · rw [e1] at e this; simp [Value.ownBlock] at e; subst e; rw [hr] at this; simp at this
    · have := ((h.ap j i y x hy hx).2 hji).2
      rcases bp with e1 | ⟨r', _, e1, _, _⟩
      · rw [e1] at e; simp [Value.ownBlock] at e
      · rw [e1] at e this; simp [Value.ownBlock] at e; subst e; rw [hr] at this; simp at this
  have hq' : x.ia = some ⟨q, 0, none⟩ ∨ q = w.heap.size := by
    rcases hat with e | e
    · simp [Value.ownBlock] at e
      rcases bp with e1 | ⟨r', _, e1, _, _⟩
      · rw [e1] at e; cases e
      · rw [e1] at e; simp at e; subst e; exact Or.inl e1
    · simp [Value.ownBlock] at e; exact Or.inr e
  have other : ∀ j y, l[j]? = some y → (j ≠ i → y.ia = none ∨ y.ia ≠ some ⟨q, 0, none⟩) ∧ (y.pa = none ∨ y.pa ≠ some ⟨q, 0, none⟩) := fun j y hy => by
    obtain ⟨dd, hdd⟩ : ∃ dd, D[j]? = some dd := ⟨_, List.getElem?_eq_getElem (by rw [← h.len]; exact (List.getElem?_eq_some_iff.1 hy).1)⟩
    obtain ⟨_, _, oy, oyi⟩ := h.ok j y dd hy hdd
    rcases hq' with e | e
    · have a1 := (h.ap j i y x hy hx).1
      rw [e] at a1
      refine ⟨fun hji => ?_, a1⟩
      have := ((h.ap j i y x hy hx).2 hji).2
      rwa [e] at this
    · have lt : ∀ {a : Option Addr} {n c : Nat} {xs : List Value}, w.ownsRow B 3 1 (.slice a n c) n xs → a ≠ some ⟨q, 0, none⟩ := fun o e2 => by
        rcases own_blk o with e3 | ⟨r, cr, e3, _, hr⟩
        · rw [e3] at e2; cases e2
        · rw [e3] at e2; cases e2; have := (Array.getElem?_eq_some_iff.1 hr).1; omega
      exact ⟨fun _ => Or.inr (lt oyi), Or.inr (lt oy)⟩
  refine ⟨⟨row1.set (x' := { x with m := x.m + 1, ia := some ⟨q, 0, none⟩, ic := c' }) hx (by omega) rfl, by simpa using h.len, fun j y dd hy hdd => ?_, fun j k y z hy hz => ?_⟩, ?_⟩
  · rcases get_set hy with ⟨rfl, rfl⟩ | ⟨hji, hy⟩
    · rcases get_set hdd with ⟨-, rfl⟩ | ⟨h0, _⟩
      · refine ⟨k1, by simp [k2], set1 rfl (keep1 _ x d hx hd).1, ?_⟩
        have := set1 rfl own
        simpa [ints] using this
      · exact absurd rfl h0
    · rcases get_set hdd with ⟨h0, _⟩ | ⟨_, hdd⟩
      · exact absurd h0 hji
      · obtain ⟨y1, y2, _, _⟩ := h.ok j y dd hy hdd
        exact ⟨y1, y2, set1 rfl (keep1 j y dd hy hdd).1, set1 rfl ((keep1 j y dd hy hdd).2 hji)⟩
  · rcases get_set hy with ⟨rfl, rfl⟩ | ⟨hji, hy'⟩
    · rcases get_set hz with ⟨rfl, rfl⟩ | ⟨hki, hz'⟩
      · exact ⟨(other _ x hx).2, fun h0 => absurd rfl h0⟩
      · refine ⟨(h.ap _ k x z hx hz').1, fun _ => ⟨((h.ap _ k x z hx hz').2 (fun e => hki e.symm)).1, Or.inr fun e => ?_⟩⟩
        rcases (other k z hz').1 hki with e2 | e2
        · simp only [] at e; rw [e2] at e; cases e
        · exact e2 e.symm
    · rcases get_set hz with ⟨rfl, rfl⟩ | ⟨hki, hz'⟩
      · exact ⟨(other j y hy').2, fun _ => ⟨((h.ap j _ y x hy' hx).2 hji).1, (other j y hy').1 hji⟩⟩
      · exact h.ap j k y z hy' hz'
  · refine Fr.trans (Fr.of_grown gr fun r hr => ?_) (Fr.of_set hB hg1 fun c => ⟨c, _, Or.inl rfl⟩)
    rcases bp with e1 | ⟨r', cr, e1, hBr, hr'⟩
    · rw [e1] at hr; simp [Value.ownBlock] at hr
    · rw [e1] at hr
      simp [Value.ownBlock] at hr
      subst hr
      exact ⟨hBr, fun o e => by rw [hr'] at e; cases e; exact ⟨_, _, Or.inr rfl⟩⟩

/-- touched = s -/
theorem GW.touch {w : World} {B g gc : Nat} {l : List GR} {D : List (List Int × List Int)} (h : GW w B (some ⟨g, 0, none⟩) gc l D) {i : Nat} {x : GR} (hx : l[i]? = some x) (s : Int) :
    GW (w.setCell ⟨g, i * 9 + 8, none⟩ (.int .i64 s)) B (some ⟨g, 0, none⟩) gc (l.set i { x with t := s }) D ∧ Fr isG B w (w.setCell ⟨g, i * 9 + 8, none⟩ (.int .i64 s)) := by
  obtain ⟨g', cur, e1, hB, hg⟩ := h.row.blk hx
  cases e1
  have set1 : ∀ {e z n c : Nat} {a : Option Addr} {xs : List Value}, e = 3 → w.ownsRow B e z (.slice a n c) n xs → (w.setCell ⟨g, i * 9 + 8, none⟩ (.int .i64 s)).ownsRow B e z (.slice a n c) n xs := fun {e z n c a xs} he o => own_keep o fun k cc hk e1 => Below.heap_setCell _ _ _ _ fun e2 => by
    simp only [] at e2
    subst e2
    subst he
    rw [hg] at e1
    simp at e1
  refine ⟨⟨h.row.set (x' := { x with t := s }) hx (by omega) rfl, by simpa using h.len, fun j y dd hy hdd => ?_, fun j k y z hy hz => ?_⟩, Fr.of_set hB hg fun c => ⟨c, _, Or.inl rfl⟩⟩
  · rcases get_set hy with ⟨rfl, rfl⟩ | ⟨hji, hy⟩
    · obtain ⟨y1, y2, y3, y4⟩ := h.ok j x dd hx hdd
      exact ⟨y1, y2, set1 rfl y3, set1 rfl y4⟩
    · obtain ⟨y1, y2, y3, y4⟩ := h.ok j y dd hy hdd
      exact ⟨y1, y2, set1 rfl y3, set1 rfl y4⟩
  · rcases get_set hy with ⟨rfl, rfl⟩ | ⟨hji, hy'⟩
    · rcases get_set hz with ⟨rfl, rfl⟩ | ⟨hki, hz'⟩
      · exact h.ap _ _ x x hx hx
      · exact h.ap _ k x z hx hz'
    · rcases get_set hz with ⟨rfl, rfl⟩ | ⟨hki, hz'⟩
      · exact h.ap j _ y x hy' hx
      · exact h.ap j k y z hy' hz'

theorem get_snoc {α : Type} {l : List α} {k : Nat} {a y : α} (h : (l ++ [a])[k]? = some y) : (k = l.length ∧ y = a) ∨ (k < l.length ∧ l[k]? = some y) := by
  rcases Nat.lt_or_ge k l.length with h1 | h1
  · rw [List.getElem?_append_left h1] at h
    exact Or.inr ⟨h1, h⟩
  · rw [List.getElem?_append_right h1] at h
    have h2 : k - l.length = 0 := by
      rcases Nat.eq_zero_or_pos (k - l.length) with e | e
      · exact e
      · rw [List.getElem?_eq_none (by simp; omega)] at h; cases h
    rw [h2] at h
    simp at h
    exact Or.inl ⟨by omega, h.symm⟩

/-- a new group, no parts yet -/
theorem GW.new {w w1 : World} {B gc : Nat} {ga : Option Addr} {l : List GR} {D : List (List Int × List Int)} (h : GW w B ga gc l D) (k : Key) {a' : Option Addr} {c' : Nat}
    (own : w1.ownsRow B 76 9 (.slice a' (l.length + 1) c') (l.length + 1) (flat l ++ GR.cells ⟨k, 0, none, 0, 0, none, 0, 0⟩)) (gr : w.grownBy w1 (Value.slice ga l.length gc).ownBlock) :
    GW w1 B a' c' (l ++ [⟨k, 0, none, 0, 0, none, 0, 0⟩]) (D ++ [([], [])]) ∧ Fr isG B w w1 := by
  have kp : ∀ {n c : Nat} {a : Option Addr} {xs : List Value}, w.ownsRow B 3 1 (.slice a n c) n xs → w1.ownsRow B 3 1 (.slice a n c) n xs := fun {n c a xs} o => own_grown o gr fun r hr e => by
    rcases own_blk o with e1 | ⟨r', cr, e1, _, h1⟩
    · rw [e1] at hr; cases hr
    · rw [e1] at hr
      cases hr
      rcases own_blk h.row with e2 | ⟨r2, c2, e2, _, h2⟩
      · rw [e2] at e; simp [Value.ownBlock] at e
      · rw [e2] at e; simp [Value.ownBlock] at e; subst e; rw [h1] at h2; simp at h2
  refine ⟨⟨?_, by simp [h.len], fun i x d hx hd => ?_, fun i j x y hx hy => ?_⟩, Fr.of_grown gr fun r hr => ?_⟩
  · show w1.ownsRow B 76 9 (.slice a' (l ++ [_]).length c') (l ++ [_]).length (flat (l ++ [_]))
    rw [flat_append, flat_one, List.length_append]
    exact own
  · rcases get_snoc hx with ⟨rfl, rfl⟩ | ⟨h1, hx⟩
    · rcases get_snoc hd with ⟨_, rfl⟩ | ⟨h2, _⟩
      · exact ⟨rfl, rfl, World.ownsRow_nil _ _ _ _, World.ownsRow_nil _ _ _ _⟩
      · rw [h.len] at h2; omega
    · rcases get_snoc hd with ⟨h2, _⟩ | ⟨_, hd⟩
      · rw [← h.len] at h2; omega
      · obtain ⟨y1, y2, y3, y4⟩ := h.ok i x d hx hd
        exact ⟨y1, y2, kp y3, kp y4⟩
  · rcases get_snoc hx with ⟨rfl, rfl⟩ | ⟨h1, hx⟩
    · exact ⟨Or.inl rfl, fun _ => ⟨Or.inl rfl, Or.inl rfl⟩⟩
    · rcases get_snoc hy with ⟨rfl, rfl⟩ | ⟨h2, hy⟩
      · refine ⟨?_, fun _ => ⟨?_, ?_⟩⟩
        · cases hpa : x.pa <;> simp
        · cases hpa : x.pa <;> simp
        · cases hpa : x.ia <;> simp
      · exact h.ap i j x y hx hy
  · rcases own_blk h.row with e2 | ⟨r2, c2, e2, hB2, h2⟩
    · rw [e2] at hr; simp [Value.ownBlock] at hr
    · rw [e2] at hr; simp [Value.ownBlock] at hr; subst hr
      exact ⟨hB2, fun o e => by rw [h2] at e; cases e; exact ⟨_, _, Or.inl rfl⟩⟩

theorem get_erase {α : Type} {l : List α} {i k : Nat} {y : α} (h : (l.eraseIdx i)[k]? = some y) : l[if k < i then k else k + 1]? = some y := by
  rw [List.getElem?_eraseIdx] at h
  split at h
  · rename_i h1; rw [if_pos h1]; exact h
  · rename_i h1; rw [if_neg h1]; exact h

/-- a group taken out -/
theorem GW.erase {w w1 : World} {B gc : Nat} {ga : Option Addr} {l : List GR} {D : List (List Int × List Int)} (h : GW w B ga gc l D) (i : Nat) {a' : Option Addr} {c' B' : Nat} (hB : B ≤ B') (row : GRow w1 B' a' c' (l.eraseIdx i)) (hb : Below w.heap.size w w1) : GW w1 B a' c' (l.eraseIdx i) (D.eraseIdx i) := by
  have h1 := h.below hb
  refine ⟨?_, by rw [List.length_eraseIdx, List.length_eraseIdx, h.len], fun j x d hx hd => h1.ok _ x d (get_erase hx) (get_erase hd), fun j k x y hx hy => ?_⟩
  · refine ⟨row.1, ?_⟩
    rcases row.2 with e | ⟨g, cap, cur, e, hB', r⟩
    · exact Or.inl e
    · exact Or.inr ⟨g, cap, cur, e, Nat.le_trans hB hB', r⟩
  · have := h1.ap _ _ x y (get_erase hx) (get_erase hy)
    refine ⟨this.1, fun hjk => this.2 fun e => hjk ?_⟩
    split at e <;> split at e <;> omega

end Go.Proofs.Qxb6616208a
