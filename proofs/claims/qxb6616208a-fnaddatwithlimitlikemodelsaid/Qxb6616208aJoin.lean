/-
  The joiner's state (weak list); inOrder (54) of a complete message; forget (42).
-/
import Derived.Test.Qxb6616208aSort
import Derived.Test.Qxb6616208aMap
import Derived.Test.Qxb6616208aLink
import Derived.Test.Qxb6616208aZgw
import Derived.Test.Qxb6616208aHas
namespace Go.Proofs.Qxb6616208a
open Go.RowKit
set_option linter.unusedVariables false
set_option linter.unusedSimpArgs false

/-- blocks of the joiner -/
def isJ (o : Obj) : Prop := (∃ c fr, o = .cells c 60 fr ∨ o = .cells c 71 fr ∨ o = .cells c 32 fr) ∨ ∃ es c, o = .map es c

/-- a message held: its key, its block, its row of parts, the parts' places in the script, its number -/
structure JG where
  key : Key
  m : Nat
  q : Nat
  cap : Nat
  ix : List Nat
  sq : Int

def JG.sl (g : JG) : Value := .slice (some ⟨g.q, 0, none⟩) g.ix.length g.cap
def ptrs (pb : Nat → Nat) (ix : List Nat) : List Value := ix.map fun a => .pointer (some ⟨pb a, 0, none⟩)
def JG.ent (g : JG) : Key × Nat := (g.key, g.m)

/-- one message held -/
structure JOk (w : World) (B : Nat) (M : Nat → Prop) (pb : Nat → Nat) (g : JG) : Prop where
  inM : M g.m
  row : ∃ o n, w.heap[g.m]? = some (mrow g.sl g.key.ref g.sq o n)
  own : w.ownsRow B 32 1 g.sl g.ix.length (ptrs pb g.ix)
  key : g.key.Ok

structure JI (w : World) (B j : Nat) (lim : Int) (M : Nat → Prop) (pb : Nat → Nat) (seq : Int) (pend : Option Nat) (G : List JG) : Prop where
  L : LInv w j M
  jr : ∃ h o n, w.heap[j]? = some (jrow pend seq lim h o n)
  jB : B ≤ j
  mB : ∀ m, M m → B ≤ m
  map : (pend = none ∧ G = []) ∨ ∃ mb E, pend = some mb ∧ B ≤ mb ∧ MapIs w mb E ∧ E.Perm (G.map JG.ent)
  ok : ∀ g ∈ G, JOk w B M pb g
  ap : ∀ (i i' : Nat) (g g' : JG), i ≠ i' → G[i]? = some g → G[i']? = some g' → g.m ≠ g'.m ∧ g.q ≠ g'.q ∧ g.key ≠ g'.key

/-- whatever leaves the joiner's blocks alone -/
theorem JI.keep {w w' : World} {B j : Nat} {lim : Int} {M : Nat → Prop} {pb : Nat → Nat} {seq : Int} {pend : Option Nat} {G : List JG} (h : JI w B j lim M pb seq pend G) (hk : ∀ (k : Nat) (o : Obj), w.heap[k]? = some o → isJ o → w'.heap[k]? = some o) : JI w' B j lim M pb seq pend G := by
  refine ⟨⟨?_, fun m hm => ?_⟩, ?_, h.jB, h.mB, ?_, fun g hg => ?_, h.ap⟩
  · obtain ⟨p, s, l, hh, o, n, e, h1, h2⟩ := h.L.jr
    exact ⟨p, s, l, hh, o, n, hk _ _ e (Or.inl ⟨_, _, Or.inl rfl⟩), h1, h2⟩
  · obtain ⟨sl, r, q, o, n, e, h1, h2⟩ := h.L.mr m hm
    exact ⟨sl, r, q, o, n, hk _ _ e (Or.inl ⟨_, _, Or.inr (Or.inl rfl)⟩), h1, h2⟩
  · obtain ⟨hh, o, n, e⟩ := h.jr
    exact ⟨hh, o, n, hk _ _ e (Or.inl ⟨_, _, Or.inl rfl⟩)⟩
  · rcases h.map with h1 | ⟨mb, E, e1, e2, ⟨es, c, e3, e4⟩, e5⟩
    · exact Or.inl h1
    · exact Or.inr ⟨mb, E, e1, e2, ⟨es, c, hk _ _ e3 (Or.inr ⟨_, _, rfl⟩), e4⟩, e5⟩
  · obtain ⟨h1, ⟨o, n, h2⟩, h3, h4⟩ := h.ok g hg
    exact ⟨h1, ⟨o, n, hk _ _ h2 (Or.inl ⟨_, _, Or.inr (Or.inl rfl)⟩)⟩, own_keep h3 fun k c _ e => (hk _ _ e (Or.inl ⟨_, _, Or.inr (Or.inr rfl)⟩)).trans e.symm, h4⟩

theorem JI.below {w w' : World} {B j : Nat} {lim : Int} {M : Nat → Prop} {pb : Nat → Nat} {seq : Int} {pend : Option Nat} {G : List JG} (h : JI w B j lim M pb seq pend G) (hb : Below w.heap.size w w') : JI w' B j lim M pb seq pend G :=
  h.keep fun k o e _ => (hb.block k (Array.getElem?_eq_some_iff.1 e).1).trans e

/-- the list's pointers turned -/
theorem JI.re {w w' : World} {B j : Nat} {lim : Int} {M : Nat → Prop} {pb : Nat → Nat} {seq : Int} {pend : Option Nat} {G : List JG} (h : JI w B j lim M pb seq pend G) (hr : Relinked w w' j M) : JI w' B j lim M pb seq pend G := by
  have hkeep : ∀ (k : Nat) (o : Obj), w.heap[k]? = some o → (∀ c fr, o ≠ .cells c 60 fr) → (∀ c fr, o ≠ .cells c 71 fr) → w'.heap[k]? = some o := fun k o e h1 h2 => by
    refine (hr.block k ?_ ?_).trans e
    · rintro rfl
      obtain ⟨hh, o', n, e'⟩ := h.jr
      rw [e] at e'
      cases e'
      exact h1 _ _ rfl
    · intro hm
      obtain ⟨sl, r, q, o', n, e', _, _⟩ := h.L.mr k hm
      rw [e] at e'
      cases e'
      exact h2 _ _ rfl
  refine ⟨h.L.re hr, ?_, h.jB, h.mB, ?_, fun g hg => ?_, h.ap⟩
  · obtain ⟨p, s, l, hh, o, n, e, h1, h2⟩ := h.L.jr
    obtain ⟨hh', o', n', e'⟩ := h.jr
    rw [e] at e'
    simp only [jrow, Option.some.injEq, Obj.cells.injEq] at e'
    obtain ⟨o2, n2, e2, _, _⟩ := hr.jr p s l hh o n e h1 h2
    have e3 := e'.1
    simp at e3
    obtain ⟨rfl, rfl, rfl, rfl, rfl, rfl⟩ := e3
    exact ⟨_, o2, n2, e2⟩
  · rcases h.map with h1 | ⟨mb, E, e1, e2, ⟨es, c, e3, e4⟩, e5⟩
    · exact Or.inl h1
    · exact Or.inr ⟨mb, E, e1, e2, ⟨es, c, hkeep _ _ e3 (by simp) (by simp), e4⟩, e5⟩
  · obtain ⟨h1, ⟨o, n, h2⟩, h3, h4⟩ := h.ok g hg
    refine ⟨h1, ?_, own_keep h3 fun k c _ e => (hkeep _ _ e (by simp) (by simp)).trans e.symm, h4⟩
    obtain ⟨sl, r, q, o', n', e', p1, p2⟩ := h.L.mr g.m h1
    rw [h2] at e'
    have e2 := e'
    simp only [mrow, Option.some.injEq, Obj.cells.injEq] at e2
    have e3 := e2.1
    simp at e3
    obtain ⟨rfl, rfl, rfl, rfl, rfl⟩ := e3
    obtain ⟨o2, n2, e4, _, _⟩ := hr.mr g.m h1 g.sl g.key.ref g.sq o n h2 p1 p2
    exact ⟨o2, n2, e4⟩

theorem Relinked.fr {w w' : World} {B j : Nat} {M : Nat → Prop} (hr : Relinked w w' j M) (hL : LInv w j M) (hj : B ≤ j) (hm : ∀ m, M m → B ≤ m) : Fr isJ B w w' :=
  ⟨hr.os, hr.tape, hr.output, Nat.le_of_eq hr.size.symm, fun k o e => by
    by_cases h1 : k = j
    · subst h1
      obtain ⟨p, s, l, hh, o', n, e', _⟩ := hL.jr
      rw [e] at e'
      cases e'
      exact Or.inr ⟨hj, Or.inl ⟨_, _, Or.inl rfl⟩⟩
    · by_cases h2 : M k
      · obtain ⟨sl, r, q, o', n, e', _, _⟩ := hL.mr k h2
        rw [e] at e'
        cases e'
        exact Or.inr ⟨hm k h2, Or.inl ⟨_, _, Or.inr (Or.inl rfl)⟩⟩
      · exact Or.inl ((hr.block k h1 h2).trans e)⟩

theorem mrow_inj {sl sl' : Value} {r r' q q' : Int} {o o' n n' : Option Addr} (h : mrow sl r q o n = mrow sl' r' q' o' n') : sl = sl' ∧ r = r' ∧ q = q' ∧ o = o' ∧ n = n' := by
  simp only [mrow, Obj.cells.injEq] at h
  simpa using h.1
theorem jrow_inj {p p' : Option Nat} {s s' l l' h h' : Int} {o o' n n' : Option Addr} (e : jrow p s l h o n = jrow p' s' l' h' o' n') : p = p' ∧ s = s' ∧ l = l' ∧ h = h' ∧ o = o' ∧ n = n' := by
  simp only [jrow, Obj.cells.injEq] at e
  simpa using e.1

section
variable {w w' : World} {B j : Nat} {lim : Int} {M : Nat → Prop} {pb : Nat → Nat} {seq : Int} {pend : Option Nat} {G : List JG}

/-- what a walk reads of the joiner -/
theorem JI.j_cells (h : JI w B j lim M pb seq pend G) : ∃ hd o n, w.heap[j]? = some (jrow pend seq lim hd o n) ∧ PtrIn M o ∧ PtrIn M n ∧ w.cell? ⟨j, 0, none⟩ = some (.map pend) ∧ w.cell? ⟨j, 1, none⟩ = some (.int .i64 seq) ∧ w.cell? ⟨j, 2, none⟩ = some (.int .i64 lim) ∧ w.cell? ⟨j, 3, none⟩ = some (.int .i64 hd) ∧ ∀ k, w.frozen? ⟨j, k, none⟩ = false := by
  obtain ⟨p, s, l, hh, o, n, e, h1, h2⟩ := h.L.jr
  obtain ⟨hh', o', n', e'⟩ := h.jr
  rw [e] at e'
  obtain ⟨rfl, rfl, rfl, rfl, rfl, rfl⟩ := jrow_inj (Option.some.inj e')
  exact ⟨_, _, _, e, h1, h2, cell_of_row _ _ _ _ _ _ e, cell_of_row _ _ _ _ _ _ e, cell_of_row _ _ _ _ _ _ e, cell_of_row _ _ _ _ _ _ e, fun k => by simp [World.frozen?, e, jrow]⟩

theorem JI.jlt (h : JI w B j lim M pb seq pend G) : j < w.heap.size := by
  obtain ⟨hh', o', n', e'⟩ := h.jr
  exact (Array.getElem?_eq_some_iff.1 e').1

/-- a turn of the joiner's own block, and of nothing else -/
theorem JI.setj (h : JI w B j lim M pb seq pend G) (hg : w.grownBy w' (some j)) {lim' seq' h' : Int} {pend' : Option Nat} {o n : Option Addr} (e : w'.heap[j]? = some (jrow pend' seq' lim' h' o n)) (ho : PtrIn M o) (hn : PtrIn M n)
    (hmap : (pend' = none ∧ G = []) ∨ ∃ mb E, pend' = some mb ∧ B ≤ mb ∧ MapIs w' mb E ∧ E.Perm (G.map JG.ent)) : JI w' B j lim' M pb seq' pend' G := by
  have hk : ∀ (k : Nat) (ob : Obj), w.heap[k]? = some ob → (∀ c fr, ob ≠ .cells c 60 fr) → w'.heap[k]? = some ob := fun k ob e1 h1 => by
    refine (hg.block k (Array.getElem?_eq_some_iff.1 e1).1 fun e2 => ?_).trans e1
    cases e2
    obtain ⟨hh', o', n', e'⟩ := h.jr
    rw [e1] at e'
    cases e'
    exact h1 _ _ rfl
  refine ⟨⟨⟨_, _, _, _, _, _, e, ho, hn⟩, fun m hm => ?_⟩, ⟨_, _, _, e⟩, h.jB, h.mB, hmap, fun g hgm => ?_, h.ap⟩
  · obtain ⟨sl, r, q, o, n, e, h1, h2⟩ := h.L.mr m hm
    exact ⟨sl, r, q, o, n, hk _ _ e (by simp [mrow]), h1, h2⟩
  · obtain ⟨h1, ⟨o, n, h2⟩, h3, h4⟩ := h.ok g hgm
    exact ⟨h1, ⟨o, n, hk _ _ h2 (by simp [mrow])⟩, own_keep h3 fun k c _ e => (hk _ _ e (by simp)).trans e.symm, h4⟩

theorem MapIs.keep {mb : Nat} {E : List (Key × Nat)} (h : MapIs w mb E) (hk : ∀ (k : Nat) (es : Array MapEntry) (c : Nat), w.heap[k]? = some (.map es c) → w'.heap[k]? = some (.map es c)) : MapIs w' mb E := by
  obtain ⟨es, c, e3, e4⟩ := h
  exact ⟨es, c, hk _ _ _ e3, e4⟩

theorem setCell_grown (w : World) (b o : Nat) (v : Value) : w.grownBy (w.setCell ⟨b, o, none⟩ v) (some b) :=
  ⟨rfl, rfl, rfl, by simp [World.setCell], fun k _ hk => Below.heap_setCell _ _ _ _ (fun e => hk (by rw [e]))⟩

/-- held turned -/
theorem JI.held (h : JI w B j lim M pb seq pend G) (z : Int) : JI (w.setCell ⟨j, 3, none⟩ (.int .i64 z)) B j lim M pb seq pend G := by
  obtain ⟨hd, o, n, e, p1, p2, _⟩ := h.j_cells
  refine h.setj (setCell_grown _ _ _ _) (h' := z) ((heap_set_same e _).trans rfl) p1 p2 ?_
  rcases h.map with h1 | ⟨mb, E, e1, e2, e3, e5⟩
  · exact Or.inl h1
  · refine Or.inr ⟨mb, E, e1, e2, e3.keep fun k es c e4 => (Below.heap_setCell _ _ _ _ fun e6 => ?_).trans e4, e5⟩
    simp only [] at e6
    subst e6
    rw [e] at e4
    simp [jrow] at e4

/-- seq turned -/
theorem JI.setseq (h : JI w B j lim M pb seq pend G) (z : Int) : JI (w.setCell ⟨j, 1, none⟩ (.int .i64 z)) B j lim M pb z pend G := by
  obtain ⟨hd, o, n, e, p1, p2, _⟩ := h.j_cells
  refine h.setj (setCell_grown _ _ _ _) (h' := hd) ((heap_set_same e _).trans rfl) p1 p2 ?_
  rcases h.map with h1 | ⟨mb, E, e1, e2, e3, e5⟩
  · exact Or.inl h1
  · refine Or.inr ⟨mb, E, e1, e2, e3.keep fun k es c e4 => (Below.heap_setCell _ _ _ _ fun e6 => ?_).trans e4, e5⟩
    simp only [] at e6
    subst e6
    rw [e] at e4
    simp [jrow] at e4

/-- pending = make(map) -/
theorem JI.made (h : JI w B j lim M pb seq none G) {mb : Nat} (hB : B ≤ mb) (hm : MapIs w mb []) : JI (w.setCell ⟨j, 0, none⟩ (.map (some mb))) B j lim M pb seq (some mb) G := by
  obtain ⟨hd, o, n, e, p1, p2, _⟩ := h.j_cells
  refine h.setj (setCell_grown _ _ _ _) (h' := hd) ((heap_set_same e _).trans rfl) p1 p2 ?_
  have hG : G = [] := by
    rcases h.map with h1 | ⟨mb, E, e1, e2, e3, e5⟩
    · exact h1.2
    · cases e1
  subst hG
  refine Or.inr ⟨mb, [], rfl, hB, hm.keep fun k es c e4 => (Below.heap_setCell _ _ _ _ fun e6 => ?_).trans e4, List.Perm.refl _⟩
  simp only [] at e6
  subst e6
  rw [e] at e4
  simp [jrow] at e4

theorem JI.fr_set (h : JI w B j lim M pb seq pend G) (o : Nat) (v : Value) : Fr isJ B w (w.setCell ⟨j, o, none⟩ v) := by
  obtain ⟨hd, o, n, e, p1, p2, _⟩ := h.j_cells
  exact Fr.of_set h.jB e fun c => Or.inl ⟨_, _, Or.inl rfl⟩

/-- the map's block -/
theorem JI.mapblk (h : JI w B j lim M pb seq pend G) {g : JG} (hg : g ∈ G) : ∃ mb E, pend = some mb ∧ B ≤ mb ∧ MapIs w mb E ∧ E.Perm (G.map JG.ent) := by
  rcases h.map with h1 | h1
  · rw [h1.2] at hg; cases hg
  · exact h1

theorem ents_ok (h : JI w B j lim M pb seq pend G) {E : List (Key × Nat)} (hp : E.Perm (G.map JG.ent)) : ∀ x ∈ E, x.1.Ok := by
  intro x hx
  obtain ⟨g, hg, rfl⟩ := List.mem_map.1 (hp.mem_iff.1 hx)
  exact (h.ok g hg).key

theorem ent_mem {E : List (Key × Nat)} (hp : E.Perm (G.map JG.ent)) {g : JG} (hg : g ∈ G) : (g.key, g.m) ∈ E := hp.mem_iff.2 (List.mem_map_of_mem hg)

theorem ent_uniq (h : JI w B j lim M pb seq pend G) {E : List (Key × Nat)} (hp : E.Perm (G.map JG.ent)) {g : JG} (hg : g ∈ G) : ∀ m', (g.key, m') ∈ E → m' = g.m := by
  intro m' hm'
  obtain ⟨g', hg', e⟩ := List.mem_map.1 (hp.mem_iff.1 hm')
  simp only [JG.ent, Prod.mk.injEq] at e
  obtain ⟨i, hi⟩ := List.mem_iff_getElem?.1 hg
  obtain ⟨i', hi'⟩ := List.mem_iff_getElem?.1 hg'
  by_cases e2 : i = i'
  · subst e2
    rw [hi] at hi'
    cases hi'
    exact e.2.symm
  · exact absurd e.1.symm (h.ap i i' g g' e2 hi hi').2.2

/-- a row of parts turned: not one that is held -/
theorem JI.grown_q (h : JI w B j lim M pb seq pend G) {q : Nat} {c : Array Value} (hg : w.grownBy w' (some q)) (hq : w.heap[q]? = some (.cells c 32 (0, 0))) (hne : ∀ g ∈ G, g.q ≠ q) : JI w' B j lim M pb seq pend G := by
  have hk : ∀ (k : Nat) (ob : Obj), w.heap[k]? = some ob → k ≠ q → w'.heap[k]? = some ob := fun k ob e1 h1 => (hg.block k (Array.getElem?_eq_some_iff.1 e1).1 fun e2 => h1 (by simpa using e2)).trans e1
  have hk2 : ∀ (k : Nat) (ob : Obj), w.heap[k]? = some ob → (∀ c fr, ob ≠ .cells c 32 fr) → w'.heap[k]? = some ob := fun k ob e1 h1 => hk k ob e1 fun e => by
    subst e
    rw [hq] at e1
    cases e1
    exact h1 _ _ rfl
  refine ⟨⟨?_, fun m hm => ?_⟩, ?_, h.jB, h.mB, ?_, fun g hgm => ?_, h.ap⟩
  · obtain ⟨p, s, l, hh, o, n, e, h1, h2⟩ := h.L.jr
    exact ⟨p, s, l, hh, o, n, hk2 _ _ e (by simp [jrow]), h1, h2⟩
  · obtain ⟨sl, r, q, o, n, e, h1, h2⟩ := h.L.mr m hm
    exact ⟨sl, r, q, o, n, hk2 _ _ e (by simp [mrow]), h1, h2⟩
  · obtain ⟨hh, o, n, e⟩ := h.jr
    exact ⟨hh, o, n, hk2 _ _ e (by simp [jrow])⟩
  · rcases h.map with h1 | ⟨mb, E, e1, e2, e3, e5⟩
    · exact Or.inl h1
    · exact Or.inr ⟨mb, E, e1, e2, e3.keep fun k es c e4 => hk2 _ _ e4 (by simp), e5⟩
  · obtain ⟨h1, ⟨o, n, h2⟩, h3, h4⟩ := h.ok g hgm
    refine ⟨h1, ⟨o, n, hk2 _ _ h2 (by simp [mrow])⟩, own_keep h3 fun k c e0 e => (hk _ _ e fun e1 => hne g hgm ?_).trans e.symm, h4⟩
    simp [JG.sl, Value.ownBlock] at e0
    omega

theorem erase_perm {α : Type} {l : List α} {i : Nat} {a : α} (h : l[i]? = some a) : (a :: l.eraseIdx i).Perm l := by
  induction l generalizing i with
  | nil => simp at h
  | cons b l ih =>
    cases i with
    | zero => simp at h; subst h; simp
    | succ i =>
      simp only [List.eraseIdx_cons_succ]
      exact (List.Perm.swap _ _ _).trans ((ih (by simpa using h)).cons b)

theorem mem_erase_idx {α : Type} {l : List α} {i : Nat} {x : α} (h : x ∈ l.eraseIdx i) : x ∈ l := (List.eraseIdx_sublist _ _).subset h

/-- a message taken out of the map -/
theorem JI.erase (h : JI w B j lim M pb seq pend G) {i mb e : Nat} {g : JG} (hi : G[i]? = some g) {E : List (Key × Nat)} (hpend : pend = some mb) (hB : B ≤ mb) (hp : E.Perm (G.map JG.ent)) (he : E[e]? = some (g.key, g.m)) (hm0 : ∃ es c, w.heap[mb]? = some (.map es c)) (hg : w.grownBy w' (some mb)) (hm : MapIs w' mb (E.eraseIdx e)) : JI w' B j lim M pb seq pend (G.eraseIdx i) := by
  obtain ⟨es0, c0, hm0⟩ := hm0
  have hk2 : ∀ (k : Nat) (ob : Obj), w.heap[k]? = some ob → (∀ es c, ob ≠ .map es c) → w'.heap[k]? = some ob := fun k ob e1 h1 => (hg.block k (Array.getElem?_eq_some_iff.1 e1).1 fun e2 => by
    cases e2
    rw [hm0] at e1
    cases e1
    exact h1 _ _ rfl).trans e1
  refine ⟨⟨?_, fun m hm => ?_⟩, ?_, h.jB, h.mB, ?_, fun g' hgm => ?_, ?_⟩
  · obtain ⟨p, s, l, hh, o, n, e, h1, h2⟩ := h.L.jr
    exact ⟨p, s, l, hh, o, n, hk2 _ _ e (by simp [jrow]), h1, h2⟩
  · obtain ⟨sl, r, q, o, n, e, h1, h2⟩ := h.L.mr m hm
    exact ⟨sl, r, q, o, n, hk2 _ _ e (by simp [mrow]), h1, h2⟩
  · obtain ⟨hh, o, n, e⟩ := h.jr
    exact ⟨hh, o, n, hk2 _ _ e (by simp [jrow])⟩
  · refine Or.inr ⟨mb, E.eraseIdx e, hpend, hB, hm, ?_⟩
    rw [ChangeMaps.map_eraseIdx]
    have hi2 : (G.map JG.ent)[i]? = some (g.key, g.m) := by rw [List.getElem?_map, hi]; rfl
    exact (List.perm_cons _).1 ((erase_perm he).trans (hp.trans (erase_perm hi2).symm))
  · obtain ⟨h1, ⟨o, n, h2⟩, h3, h4⟩ := h.ok g' (mem_erase_idx hgm)
    exact ⟨h1, ⟨o, n, hk2 _ _ h2 (by simp [mrow])⟩, own_keep h3 fun k c e0 e => (hk2 _ _ e (by simp)).trans e.symm, h4⟩
  · intro a b x y hab hx hy
    refine h.ap _ _ x y (fun e => hab ?_) (get_erase hx) (get_erase hy)
    split at e <;> split at e <;> omega
end

end Go.Proofs.Qxb6616208a
