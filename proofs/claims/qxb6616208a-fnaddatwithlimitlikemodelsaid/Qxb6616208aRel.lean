/-
  One step, as the joiner and as the law's model do it. No walk.
-/
import Derived.Test.Qxb6616208aModel
import Derived.Test.Qxb6616208aStepB
namespace Go.Proofs.Qxb6616208a
open Go.RowKit
set_option linter.unusedVariables false
set_option linter.unusedSimpArgs false

def pnOf (sc : Nat → Pd) (a : Nat) : Int := pno (sc a).els
def elsOf (sc : Nat → Pd) (a : Nat) : List El := (sc a).els

def JG.touch (g : JG) : Key × Int := (g.key, ((g.ix.getLast?.getD 0 : Nat) : Int))
def JG.con (sc : Nat → Pd) (g : JG) : List Int × List Int := cont (pnOf sc) g.ix

/-- the groups held, behind s steps -/
structure AI (sc : Nat → Pd) (G : List JG) (s : Nat) : Prop where
  ne : ∀ g ∈ G, g.ix ≠ []
  lt : ∀ g ∈ G, (g.ix.length : Int) < g.key.tot
  small : ∀ g ∈ G, g.key.tot < 256
  mem : ∀ g ∈ G, ∀ a ∈ g.ix, a < s ∧ 1 ≤ pnOf sc a ∧ pnOf sc a ≤ g.key.tot
  nd : ∀ g ∈ G, (g.ix.map (pnOf sc)).Nodup
  len : G.length ≤ s

inductive Rel (sc : Nat → Pd) (G : List JG) (s : Nat) : List JG → Res → Prop
  | alone : (sc s).key = none → Rel sc G s G .alone
  | dup (i : Nat) (g : JG) (k : Key) (p : Int) : (sc s).key = some (k, p) → G[i]? = some g → g.key = k → hasI (g.ix.map (pnOf sc)) p = true → Rel sc G s G .nil
  | add (i : Nat) (g : JG) (k : Key) (p : Int) (q c : Nat) : (sc s).key = some (k, p) → G[i]? = some g → g.key = k → hasI (g.ix.map (pnOf sc)) p = false → (g.ix.length : Int) + 1 ≠ k.tot → Rel sc G s (G.set i { g with q := q, cap := c, ix := g.ix ++ [s] }) .nil
  | full (i : Nat) (g : JG) (k : Key) (p : Int) : (sc s).key = some (k, p) → G[i]? = some g → g.key = k → hasI (g.ix.map (pnOf sc)) p = false → (g.ix.length : Int) + 1 = k.tot → Rel sc G s (G.eraseIdx i) (.msg k (g.ix ++ [s]))
  | new (k : Key) (p : Int) (g' : JG) : (sc s).key = some (k, p) → (∀ g ∈ G, g.key ≠ k) → (1 : Int) ≠ k.tot → g'.key = k → g'.ix = [s] → Rel sc G s (G ++ [g']) .nil
  | new1 (k : Key) (p : Int) : (sc s).key = some (k, p) → (∀ g ∈ G, g.key ≠ k) → (1 : Int) = k.tot → Rel sc G s G (.msg k [s])

theorem hasI_false {l : List Int} {p : Int} (h : hasI l p = false) : p ∉ l := by
  intro hp
  have : hasI l p = true := by
    simp only [hasI, List.any_eq_true, beq_iff_eq]
    exact ⟨p, hp, rfl⟩
  rw [h] at this
  cases this

theorem mem_set {α : Type} {l : List α} {i : Nat} {a x : α} (h : x ∈ l.set i a) : x = a ∨ x ∈ l := by
  obtain ⟨k, hk⟩ := List.mem_iff_getElem?.1 h
  rcases get_set hk with ⟨_, rfl⟩ | ⟨_, h2⟩
  · exact Or.inl rfl
  · exact Or.inr (List.mem_of_getElem? h2)

theorem nodup_snoc {pn : Nat → Int} {ix : List Nat} {s : Nat} (h : (ix.map pn).Nodup) (hn : pn s ∉ ix.map pn) : ((ix ++ [s]).map pn).Nodup := by
  rw [List.map_append]
  refine List.nodup_append.2 ⟨h, by simp, ?_⟩
  intro a ha b hb e
  simp at hb
  subst hb
  exact hn (e ▸ ha)

theorem AI.step {sc : Nat → Pd} {G G' : List JG} {s : Nat} {res : Res} (h : AI sc G s) (hok : (sc s).Ok) (hb : ∀ e ∈ (sc s).els, ∀ z ∈ e.2, 0 ≤ z ∧ z < 256) (R : Rel sc G s G' res) : AI sc G' (s + 1) := by
  have mono : ∀ g ∈ G, ∀ a ∈ g.ix, a < s + 1 ∧ 1 ≤ pnOf sc a ∧ pnOf sc a ≤ g.key.tot := fun g hg a ha => by
    have := h.mem g hg a ha
    exact ⟨by omega, this.2⟩
  cases R with
  | alone _ => exact ⟨h.ne, h.lt, h.small, mono, h.nd, by have := h.len; omega⟩
  | dup i g k p _ _ _ _ => exact ⟨h.ne, h.lt, h.small, mono, h.nd, by have := h.len; omega⟩
  | new1 k p _ _ _ => exact ⟨h.ne, h.lt, h.small, mono, h.nd, by have := h.len; omega⟩
  | full i g k p _ _ _ _ _ =>
    refine ⟨fun g hg => h.ne g (mem_erase_idx hg), fun g hg => h.lt g (mem_erase_idx hg), fun g hg => h.small g (mem_erase_idx hg), fun g hg => mono g (mem_erase_idx hg), fun g hg => h.nd g (mem_erase_idx hg), ?_⟩
    have := h.len
    have := List.length_eraseIdx_le G i
    omega
  | add i g k p q c hk hi hg hh hnt =>
    obtain ⟨ko, hp, p1, p2⟩ := key_ok hok hb hk
    have hgG := List.mem_of_getElem? hi
    have hps : pnOf sc s = p := hp.symm
    refine ⟨fun x hx => ?_, fun x hx => ?_, fun x hx => ?_, fun x hx a ha => ?_, fun x hx => ?_, ?_⟩
    · rcases mem_set hx with rfl | hx
      · simp
      · exact h.ne x hx
    · rcases mem_set hx with rfl | hx
      · have := h.lt g hgG
        rw [hg] at this
        simp only [List.length_append, List.length_singleton, hg]
        omega
      · exact h.lt x hx
    · rcases mem_set hx with rfl | hx
      · exact h.small g hgG
      · exact h.small x hx
    · rcases mem_set hx with rfl | hx
      · simp only [List.mem_append, List.mem_singleton] at ha
        rcases ha with ha | rfl
        · exact mono g hgG a ha
        · simp only [hg]
          rw [hps]
          exact ⟨by omega, p1, p2⟩
      · exact mono x hx a ha
    · rcases mem_set hx with rfl | hx
      · exact nodup_snoc (h.nd g hgG) (by rw [hps]; exact hasI_false hh)
      · exact h.nd x hx
    · rw [List.length_set]
      have := h.len
      omega
  | new k p g' hk hnew hnt hgk hix =>
    obtain ⟨ko, hp, p1, p2⟩ := key_ok hok hb hk
    have hps : pnOf sc s = p := hp.symm
    refine ⟨fun x hx => ?_, fun x hx => ?_, fun x hx => ?_, fun x hx a ha => ?_, fun x hx => ?_, ?_⟩
    · rcases List.mem_append.1 hx with hx | hx
      · exact h.ne x hx
      · simp at hx; subst hx; rw [hix]; simp
    · rcases List.mem_append.1 hx with hx | hx
      · exact h.lt x hx
      · simp at hx; subst hx; rw [hix, hgk]; have := ko.tot; simp; omega
    · rcases List.mem_append.1 hx with hx | hx
      · exact h.small x hx
      · simp at hx; subst hx; rw [hgk]; exact ko.tot.2
    · rcases List.mem_append.1 hx with hx | hx
      · exact mono x hx a ha
      · simp at hx; subst hx; rw [hix] at ha; simp at ha; subst ha; rw [hgk, hps]; exact ⟨by omega, p1, p2⟩
    · rcases List.mem_append.1 hx with hx | hx
      · exact h.nd x hx
      · simp at hx; subst hx; rw [hix]; simp
    · simp
      have := h.len
      omega

/-- a message handed out is whole -/
theorem Rel.whole {sc : Nat → Pd} {G G' : List JG} {s : Nat} {key : Key} {ix : List Nat} (h : AI sc G s) (hok : (sc s).Ok) (hb : ∀ e ∈ (sc s).els, ∀ z ∈ e.2, 0 ≤ z ∧ z < 256) (R : Rel sc G s G' (.msg key ix)) : Whole (pnOf sc) (s + 1) key ix := by
  cases R with
  | full i g k p hk hi hg hh hnt =>
    obtain ⟨ko, hp, p1, p2⟩ := key_ok hok hb hk
    have hgG := List.mem_of_getElem? hi
    have hps : pnOf sc s = p := hp.symm
    refine ⟨by simp; omega, ko.tot.2, nodup_snoc (h.nd g hgG) (by rw [hps]; exact hasI_false hh), fun a ha => ?_, fun a ha => ?_⟩
    · simp only [List.mem_append, List.mem_singleton] at ha
      rcases ha with ha | rfl
      · have := h.mem g hgG a ha; rw [hg] at this; exact this.2
      · rw [hps]; exact ⟨p1, p2⟩
    · simp only [List.mem_append, List.mem_singleton] at ha
      rcases ha with ha | rfl
      · have := (h.mem g hgG a ha).1; omega
      · omega
  | new1 k p hk hnew hnt =>
    obtain ⟨ko, hp, p1, p2⟩ := key_ok hok hb hk
    have hps : pnOf sc s = p := hp.symm
    refine ⟨by simp [hnt], ko.tot.2, by simp, fun a ha => ?_, fun a ha => ?_⟩
    · simp at ha; subst ha; rw [hps]; exact ⟨p1, p2⟩
    · simp at ha; subst ha; omega

end Go.Proofs.Qxb6616208a
