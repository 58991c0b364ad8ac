/-
  A message given up: what AddAt wants of it, and what it leaves. No walk.
-/
import Derived.Test.Qxb6616208aForgetX
import Derived.Test.Qxb6616208aAddM
import Derived.Test.Qxb6616208aAddC
import Derived.Test.Qxb6616208aStepB
namespace Go.Proofs.Qxb6616208a
open Go.RowKit
set_option linter.unusedVariables false
set_option linter.unusedSimpArgs false

/-- a message that can be given up -/
structure EOk (sc : Nat → Pd) (els : Nat → List El) (B : Nat) (w : World) (pb : Nat → Nat) (g : JG) : Prop where
  ne : g.ix ≠ []
  lt : (g.ix.length : Int) < g.key.tot
  small : g.key.tot < 256
  pd : ∀ a ∈ g.ix, (∀ W, Below B w W → PAt W (pb a) (sc a)) ∧ (∃ p, (sc a).key = some (g.key, p)) ∧ Good B w (pb a, els a) ∧ 1 ≤ pno (els a) ∧ pno (els a) ≤ g.key.tot

/-- what AddAt leaves where a part stays: nothing given up, or the oldest -/
def AddOut (w : World) (B j : Nat) (lim hd : Int) (O : List Nat) (M : Nat → Prop) (pb : Nat → Nat) (els : Nat → List El) (seq : Int) (pend : Option Nat) (G : List JG) (got : Option Addr) : Prop :=
  (hd ≤ lim ∧ got = none ∧ JX w B j lim hd O M pb seq pend G) ∨
  (¬ hd ≤ lim ∧ ∃ i2 g2 q2, G[i2]? = some g2 ∧ O[0]? = some g2.m ∧ got = some ⟨g2.m, 0, none⟩ ∧ JX w B j lim (hd - (g2.ix.length : Int)) (O.erase g2.m) M pb seq pend (G.eraseIdx i2) ∧ Given w pb els M g2 q2)

theorem first_held {G : List JG} {O : List Nat} {m : Nat} (h : ∀ x ∈ O, ∃ g ∈ G, g.m = x) (hm : ∃ g ∈ G, g.m = m) : ∃ (i : Nat) (g : JG), G[i]? = some g ∧ (O.erase m ++ [m])[0]? = some g.m := by
  obtain ⟨x, hx⟩ : ∃ x, (O.erase m ++ [m])[0]? = some x := ⟨_, List.getElem?_eq_getElem (by simp)⟩
  have hxm := List.mem_of_getElem? hx
  obtain ⟨g, hg, e⟩ : ∃ g ∈ G, g.m = x := by
    rcases List.mem_append.1 hxm with h1 | h1
    · exact h x (List.mem_of_mem_erase h1)
    · simp at h1; subst h1; exact hm
  obtain ⟨i, hi⟩ := List.mem_iff_getElem?.1 hg
  exact ⟨i, g, hi, by rw [e]; exact hx⟩

theorem held_set {G : List JG} {O : List Nat} {i : Nat} {g g' : JG} (h : ∀ x ∈ O, ∃ g ∈ G, g.m = x) (hi : G[i]? = some g) (he : g'.m = g.m) : ∀ x ∈ O, ∃ y ∈ G.set i g', y.m = x := by
  intro x hx
  obtain ⟨y, hy, e⟩ := h x hx
  obtain ⟨k, hk⟩ := List.mem_iff_getElem?.1 hy
  by_cases hki : i = k
  · subst hki
    rw [hi] at hk
    cases hk
    exact ⟨g', List.mem_of_getElem? (set_at hi), he.trans e⟩
  · refine ⟨y, List.mem_of_getElem? (i := k) ?_, e⟩
    rw [List.getElem?_set, if_neg hki]
    exact hk

theorem mem_set2 {α : Type} {l : List α} {i : Nat} {a x : α} (h : x ∈ l.set i a) : x = a ∨ x ∈ l := by
  obtain ⟨k, hk⟩ := List.mem_iff_getElem?.1 h
  rcases get_set hk with ⟨_, rfl⟩ | ⟨_, h2⟩
  · exact Or.inl rfl
  · exact Or.inr (List.mem_of_getElem? h2)

/-- the map is there -/
structure Open7x (w wx : World) (B j : Nat) (lim hd : Int) (O : List Nat) (M : Nat → Prop) (pb : Nat → Nat) (seq : Int) (G : List JG) (mb : Nat) (T K : Obj) (kb : Nat) : Prop where
  J : JX wx B j lim hd O M pb seq (some mb) G
  F : Fr isJ B w wx
  T : wx.heap[w.heap.size]? = some T
  K : wx.heap[kb]? = some K

/-- the oldest message, as the walk reads it -/
theorem old_cells {w wd : World} {B j : Nat} {lim hd : Int} {O : List Nat} {M : Nat → Prop} {pb : Nat → Nat} {seq : Int} {pend : Option Nat} {G : List JG} {sc : Nat → Pd} {els : Nat → List El} {g2 : JG} (h : JX wd B j lim hd O M pb seq pend G) (hb : Below B w wd) (hg2 : g2 ∈ G) (hO : O[0]? = some g2.m) (E : EOk sc els B w pb g2) :
    ∃ a2 p2, wd.cell? ⟨j, 4, none⟩ = some (.pointer (some ⟨g2.m, 0, none⟩)) ∧ wd.cell? ⟨g2.m, 0, none⟩ = some (.slice (some ⟨g2.q, 0, none⟩) g2.ix.length g2.cap) ∧ 0 < g2.ix.length ∧ wd.cell? ⟨g2.q, 0, none⟩ = some (.pointer (some ⟨pb a2, 0, none⟩)) ∧ PAt wd (pb a2) (sc a2) ∧ (sc a2).key = some (g2.key, p2) := by
  have hl : 0 < g2.ix.length := List.length_pos_iff.2 E.ne
  obtain ⟨a2, ha⟩ : ∃ a, g2.ix[0]? = some a := ⟨_, List.getElem?_eq_getElem hl⟩
  obtain ⟨h1, ⟨p2, h2⟩, _⟩ := E.pd a2 (List.mem_of_getElem? ha)
  refine ⟨a2, p2, ?_, ?_, hl, ?_, h1 wd hb, h2⟩
  · have := h.ex.dl.old
    rw [hO] at this
    exact this
  · obtain ⟨o, n, e⟩ := (h.ok g2 hg2).row
    exact cell_of_row _ _ _ _ _ _ e
  · obtain ⟨hBq, cur, hcur, hcells⟩ := ownrow_blk (h.ok g2 hg2).own
    exact (cell_of_row _ _ _ _ _ _ hcur).trans (hcells 0 _ (by simp [ptrs, ha]))

/-- forget, of the oldest -/
theorem old_forget {w W : World} {B j : Nat} {lim hd : Int} {O : List Nat} {M : Nat → Prop} {pb : Nat → Nat} {seq : Int} {mb : Nat} {G : List JG} {sc : Nat → Pd} {els : Nat → List El} {i2 : Nat} {g2 : JG} (h : JX W B j lim hd O M pb seq (some mb) G) (hF : Fr isJ B w W) (hBw : B ≤ w.heap.size) (hi2 : G[i2]? = some g2) (hO : O[0]? = some g2.m) (E : EOk sc els B w pb g2) (hhd : 0 ≤ hd ∧ hd < 1048576) (hlim : ¬ hd ≤ lim) :
    Calls Try.prog 42 #[.pointer (some ⟨j, 0, none⟩), .agg #[.int .i64 g2.key.typ, .int .u8 g2.key.ton, .int .u8 g2.key.npi, .string g2.key.num, .int .i64 g2.key.ref, .int .i64 g2.key.tot], .pointer (some ⟨g2.m, 0, none⟩)] W
      fun e w' => e = .returned (.pointer (some ⟨g2.m, 0, none⟩)) ∧ AddOut w' B j lim hd O M pb els seq (some mb) G (some ⟨g2.m, 0, none⟩) ∧ Fr isJ B w w' := by
  obtain ⟨tot, htot⟩ : ∃ tot : Nat, g2.key.tot = tot := ⟨g2.key.tot.toNat, by have := E.lt; omega⟩
  have hlt := E.lt
  have hsm := E.small
  have hBW : B ≤ W.heap.size := Nat.le_trans hBw hF.size
  refine (forgetP_x B j lim hd O M pb els seq mb G i2 g2.ix.length tot g2 W h hi2 rfl htot (by omega) (by omega) hhd hBW (fun a ha => ?_)).mono ?_
  · obtain ⟨_, _, h3, h4, h5⟩ := E.pd a ha
    exact ⟨h3.below (hF.below hBw), h4, by omega⟩
  · rintro e w' ⟨rfl, hJ, hF', _, _, q, _, hG⟩
    exact ⟨rfl, Or.inr ⟨hlim, i2, g2, q, hi2, hO, rfl, hJ, hG⟩, hF.trans hF'⟩

end Go.Proofs.Qxb6616208a
