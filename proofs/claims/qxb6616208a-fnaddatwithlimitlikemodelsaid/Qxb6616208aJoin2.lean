/-
  The joiner's state: a part added, a message opened. No walk.
-/
import Derived.Test.Qxb6616208aJoin
namespace Go.Proofs.Qxb6616208a
open Go.RowKit
set_option linter.unusedVariables false
set_option linter.unusedSimpArgs false

section
variable {w w' : World} {B j : Nat} {lim : Int} {M : Nat → Prop} {pb : Nat → Nat} {seq : Int} {pend : Option Nat} {G : List JG}

theorem set_self {α : Type} {l : List α} {i : Nat} {a : α} (h : l[i]? = some a) : l.set i a = l := by
  apply List.ext_getElem?
  intro k
  rw [List.getElem?_set]
  by_cases e : i = k
  · subst e
    simp [(List.getElem?_eq_some_iff.1 h).1, h]
    exact (List.getElem?_eq_some_iff.1 h).2.symm
  · rw [if_neg e]

theorem JOk.blk {g : JG} (h : JOk w B M pb g) : B ≤ g.q ∧ ∃ c, w.heap[g.q]? = some (.cells c 32 (0, 0)) := by
  rcases own_blk h.own with e | ⟨q, c, e, h1, h2⟩
  · cases e
  · cases e
    exact ⟨h1, c, h2⟩

/-- m.Parts = append(m.Parts, p) -/
theorem JI.add {w1 : World} (h : JI w B j lim M pb seq pend G) {i : Nat} {g : JG} (hi : G[i]? = some g) {s q' c' : Nat}
    (own : w1.ownsRow B 32 1 (.slice (some ⟨q', 0, none⟩) (g.ix.length + 1) c') (g.ix.length + 1) (ptrs pb g.ix ++ [.pointer (some ⟨pb s, 0, none⟩)])) (gr : w.grownBy w1 (some g.q)) (hat : q' = g.q ∨ q' = w.heap.size) :
    JI (w1.setCell ⟨g.m, 0, none⟩ (.slice (some ⟨q', 0, none⟩) (g.ix.length + 1) c')) B j lim M pb seq pend (G.set i { g with q := q', cap := c', ix := g.ix ++ [s] }) ∧ Fr isJ B w (w1.setCell ⟨g.m, 0, none⟩ (.slice (some ⟨q', 0, none⟩) (g.ix.length + 1) c')) ∧ (∃ o n, w1.heap[g.m]? = some (mrow g.sl g.key.ref g.sq o n)) := by
  have hgG := List.mem_of_getElem? hi
  obtain ⟨gM, ⟨o, n, gr0⟩, go, gk⟩ := h.ok g hgG
  obtain ⟨hBq, cq, hq⟩ := (h.ok g hgG).blk
  have hmq : g.m ≠ g.q := fun e => by rw [e, hq] at gr0; simp [mrow] at gr0
  have hk1 : ∀ (k : Nat) (ob : Obj), w.heap[k]? = some ob → k ≠ g.q → w1.heap[k]? = some ob := fun k ob e1 h1 => (gr.block k (Array.getElem?_eq_some_iff.1 e1).1 fun e2 => h1 (by simpa using e2)).trans e1
  have gr1 := hk1 _ _ gr0 hmq
  have hk : ∀ (k : Nat) (ob : Obj), w.heap[k]? = some ob → k ≠ g.q → k ≠ g.m → (w1.setCell ⟨g.m, 0, none⟩ (.slice (some ⟨q', 0, none⟩) (g.ix.length + 1) c')).heap[k]? = some ob := fun k ob e1 h1 h2 => (Below.heap_setCell _ _ _ _ (by exact h2)).trans (hk1 k ob e1 h1)
  have hk2 : ∀ (k : Nat) (ob : Obj), w.heap[k]? = some ob → (∀ c fr, ob ≠ .cells c 32 fr) → (∀ c fr, ob ≠ .cells c 71 fr) → (w1.setCell ⟨g.m, 0, none⟩ (.slice (some ⟨q', 0, none⟩) (g.ix.length + 1) c')).heap[k]? = some ob := fun k ob e1 h1 h2 => hk k ob e1 (fun e => by subst e; rw [hq] at e1; cases e1; exact h1 _ _ rfl) (fun e => by subst e; rw [gr0] at e1; cases e1; exact h2 _ _ rfl)
  have grn : (w1.setCell ⟨g.m, 0, none⟩ (.slice (some ⟨q', 0, none⟩) (g.ix.length + 1) c')).heap[g.m]? = some (mrow (.slice (some ⟨q', 0, none⟩) (g.ix.length + 1) c') g.key.ref g.sq o n) := (heap_set_same gr1 _).trans rfl
  have others : ∀ (i' : Nat) (g' : JG), i ≠ i' → G[i']? = some g' → g'.m ≠ g.m ∧ g'.q ≠ g.q ∧ g'.key ≠ g.key := fun i' g' hne hg' => by
    obtain ⟨a, b, c⟩ := h.ap i i' g g' hne hi hg'
    exact ⟨fun e => a e.symm, fun e => b e.symm, fun e => c e.symm⟩
  refine ⟨⟨⟨?_, fun m hm => ?_⟩, ?_, h.jB, h.mB, ?_, fun g' hg' => ?_, ?_⟩, ?_, ⟨o, n, gr1⟩⟩
  · obtain ⟨p, s, l, hh, o, n, e, h1, h2⟩ := h.L.jr
    exact ⟨p, s, l, hh, o, n, hk2 _ _ e (by simp [jrow]) (by simp [jrow]), h1, h2⟩
  · obtain ⟨sl, r, q, o', n', e, h1, h2⟩ := h.L.mr m hm
    by_cases em : m = g.m
    · subst em
      rw [gr0] at e
      obtain ⟨rfl, rfl, rfl, rfl, rfl⟩ := mrow_inj (Option.some.inj e)
      exact ⟨_, _, _, _, _, grn, h1, h2⟩
    · exact ⟨sl, r, q, o', n', hk _ _ e (fun e1 => by subst e1; rw [hq] at e; simp [mrow] at e) em, h1, h2⟩
  · obtain ⟨hh, o, n, e⟩ := h.jr
    exact ⟨hh, o, n, hk2 _ _ e (by simp [jrow]) (by simp [jrow])⟩
  · rcases h.map with h1 | ⟨mb, E, e1, e2, e3, e5⟩
    · rw [h1.2] at hi; simp at hi
    · refine Or.inr ⟨mb, E, e1, e2, e3.keep fun k es c e4 => hk2 _ _ e4 (by simp) (by simp), ?_⟩
      have : (G.set i { g with q := q', cap := c', ix := g.ix ++ [s] }).map JG.ent = G.map JG.ent := by
        rw [List.map_set]
        exact set_self (by rw [List.getElem?_map, hi]; rfl)
      rw [this]
      exact e5
  · obtain ⟨k, hk'⟩ := List.mem_iff_getElem?.1 hg'
    rcases get_set hk' with ⟨rfl, rfl⟩ | ⟨hne, hg2⟩
    · refine ⟨gM, ⟨o, n, ?_⟩, ?_, gk⟩
      · have : (JG.sl { g with q := q', cap := c', ix := g.ix ++ [s] }) = .slice (some ⟨q', 0, none⟩) (g.ix.length + 1) c' := by simp [JG.sl]
        rw [this]
        exact grn
      · have e1 : (JG.sl { g with q := q', cap := c', ix := g.ix ++ [s] }) = .slice (some ⟨q', 0, none⟩) (g.ix.length + 1) c' := by simp [JG.sl]
        have e2 : ptrs pb (g.ix ++ [s]) = ptrs pb g.ix ++ [.pointer (some ⟨pb s, 0, none⟩)] := by simp [ptrs]
        have e3 : (g.ix ++ [s]).length = g.ix.length + 1 := by simp
        rw [e1]
        show World.ownsRow _ B 32 1 _ (g.ix ++ [s]).length (ptrs pb (g.ix ++ [s]))
        rw [e2, e3]
        refine own_keep own fun k c _ e => Below.heap_setCell _ _ _ _ fun e4 => ?_
        simp only [] at e4
        subst e4
        rw [gr1] at e
        simp [mrow] at e
    · obtain ⟨a1, a2, a3⟩ := others k g' (fun e => hne e.symm) hg2
      obtain ⟨h1, ⟨o', n', h2⟩, h3, h4⟩ := h.ok g' (List.mem_of_getElem? hg2)
      refine ⟨h1, ⟨o', n', hk _ _ h2 (fun e => by rw [e, hq] at h2; simp [mrow] at h2) a1⟩, own_keep h3 fun k c e0 e => (hk _ _ e ?_ ?_).trans e.symm, h4⟩
      · simp [JG.sl, Value.ownBlock] at e0
        omega
      · intro e1
        subst e1
        rw [gr0] at e
        simp [mrow] at e
  · intro a b x y hab hx hy
    rcases get_set hx with ⟨rfl, rfl⟩ | ⟨hne, hx'⟩
    · rcases get_set hy with ⟨rfl, rfl⟩ | ⟨hne2, hy'⟩
      · exact absurd rfl hab
      · obtain ⟨a1, a2, a3⟩ := others b y hab hy'
        refine ⟨fun e => a1 e.symm, fun e => ?_, fun e => a3 e.symm⟩
        simp only [] at e
        rcases hat with e1 | e1
        · exact a2 (by rw [← e, e1])
        · obtain ⟨_, cy, hy2⟩ := (h.ok y (List.mem_of_getElem? hy')).blk
          have := (Array.getElem?_eq_some_iff.1 hy2).1
          omega
    · rcases get_set hy with ⟨rfl, rfl⟩ | ⟨hne2, hy'⟩
      · obtain ⟨a1, a2, a3⟩ := others a x (fun e => hne e.symm) hx'
        refine ⟨a1, fun e => ?_, a3⟩
        simp only [] at e
        rcases hat with e1 | e1
        · exact a2 (by rw [e, e1])
        · obtain ⟨_, cx, hx2⟩ := (h.ok x (List.mem_of_getElem? hx')).blk
          have := (Array.getElem?_eq_some_iff.1 hx2).1
          omega
      · exact h.ap a b x y hab hx' hy'
  · refine Fr.trans (Fr.of_grown gr fun k hk => by cases hk; exact ⟨hBq, fun ob ho => by rw [hq] at ho; cases ho; exact Or.inl ⟨_, _, Or.inr (Or.inr rfl)⟩⟩) (Fr.of_set (h.mB _ gM) gr1 fun c => Or.inl ⟨_, _, Or.inr (Or.inl rfl)⟩)

/-- pending[k] = m: a message opened -/
theorem JI.put {mb m q cap : Nat} {sq : Int} {k : Key} (h : JI w B j lim M pb seq (some mb) G) {E : List (Key × Nat)} (hm0 : ∃ es c, w.heap[mb]? = some (.map es c)) (hBm : B ≤ mb) (hp : E.Perm (G.map JG.ent)) (hg : w.grownBy w' (some mb)) (hm : MapIs w' mb (E ++ [(k, m)])) (hk : k.Ok) (hnew : ∀ g ∈ G, g.key ≠ k)
    (hrow : w.heap[m]? = some (mrow (.slice (some ⟨q, 0, none⟩) 0 cap) k.ref sq none none)) (hBx : B ≤ m) (hnM : ¬ M m) (hqs : ∀ g ∈ G, g.q ≠ q) (own : w.ownsRow B 32 1 (.slice (some ⟨q, 0, none⟩) 0 cap) 0 []) :
    JI w' B j lim (fun x => M x ∨ x = m) pb seq (some mb) (G ++ [⟨k, m, q, cap, [], sq⟩]) ∧ Fr isJ B w w' := by
  obtain ⟨es0, c0, hm0⟩ := hm0
  have hk2 : ∀ (k : Nat) (ob : Obj), w.heap[k]? = some ob → (∀ es c, ob ≠ .map es c) → w'.heap[k]? = some ob := fun k ob e1 h1 => (hg.block k (Array.getElem?_eq_some_iff.1 e1).1 fun e2 => by
    cases e2
    rw [hm0] at e1
    cases e1
    exact h1 _ _ rfl).trans e1
  have pin : ∀ {p : Option Addr}, PtrIn M p → PtrIn (fun x => M x ∨ x = m) p := fun hp a e => by
    obtain ⟨m', h1, h2⟩ := hp a e
    exact ⟨m', Or.inl h1, h2⟩
  refine ⟨⟨⟨?_, fun x hx => ?_⟩, ?_, h.jB, fun x hx => ?_, ?_, fun g hgm => ?_, ?_⟩, Fr.of_grown hg fun x hx => by cases hx; exact ⟨hBm, fun ob ho => by rw [hm0] at ho; cases ho; exact Or.inr ⟨_, _, rfl⟩⟩⟩
  · obtain ⟨p, s, l, hh, o, n, e, h1, h2⟩ := h.L.jr
    exact ⟨p, s, l, hh, o, n, hk2 _ _ e (by simp [jrow]), pin h1, pin h2⟩
  · rcases hx with hx | rfl
    · obtain ⟨sl, r, q, o, n, e, h1, h2⟩ := h.L.mr x hx
      exact ⟨sl, r, q, o, n, hk2 _ _ e (by simp [mrow]), pin h1, pin h2⟩
    · exact ⟨_, _, _, _, _, hk2 _ _ hrow (by simp [mrow]), PtrIn.none _, PtrIn.none _⟩
  · obtain ⟨hh, o, n, e⟩ := h.jr
    exact ⟨hh, o, n, hk2 _ _ e (by simp [jrow])⟩
  · rcases hx with hx | rfl
    · exact h.mB x hx
    · exact hBx
  · refine Or.inr ⟨mb, _, rfl, hBm, hm, ?_⟩
    rw [List.map_append]
    exact hp.append_right _
  · rcases List.mem_append.1 hgm with hgm | hgm
    · obtain ⟨h1, ⟨o, n, h2⟩, h3, h4⟩ := h.ok g hgm
      exact ⟨Or.inl h1, ⟨o, n, hk2 _ _ h2 (by simp [mrow])⟩, own_keep h3 fun k c e0 e => (hk2 _ _ e (by simp)).trans e.symm, h4⟩
    · simp at hgm
      subst hgm
      exact ⟨Or.inr rfl, ⟨none, none, hk2 _ _ hrow (by simp [mrow])⟩, own_keep own fun k c e0 e => (hk2 _ _ e (by simp)).trans e.symm, hk⟩
  · intro a b x y hab hx hy
    rcases get_snoc hx with ⟨rfl, rfl⟩ | ⟨h1, hx'⟩
    · rcases get_snoc hy with ⟨rfl, rfl⟩ | ⟨h2, hy'⟩
      · exact absurd rfl hab
      · have hyG := List.mem_of_getElem? hy'
        exact ⟨fun e => hnM (by have := (h.ok y hyG).inM; simp only [] at e; rwa [← e] at this), fun e => hqs y hyG e.symm, fun e => hnew y hyG e.symm⟩
    · rcases get_snoc hy with ⟨rfl, rfl⟩ | ⟨h2, hy'⟩
      · have hxG := List.mem_of_getElem? hx'
        exact ⟨fun e => hnM (by have := (h.ok x hxG).inM; simp only [] at e; rwa [e] at this), fun e => hqs x hxG e, fun e => hnew x hxG e⟩
      · exact h.ap a b x y hab hx' hy'
end

end Go.Proofs.Qxb6616208a
