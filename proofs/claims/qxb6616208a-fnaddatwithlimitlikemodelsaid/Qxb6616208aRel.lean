/-
  One step, as the joiner and as the law's model do it. No walk.
-/
import Derived.Test.Qxb6616208aModel
import Derived.Test.Qxb6616208aStepB
namespace Go.Proofs.Qxb6616208a
open Go.RowKit
set_option linter.unusedVariables false
set_option linter.unusedSimpArgs false

def pnOf (sc : Nat → Pd) (a : Nat) : Int := pno (sc a).els
def elsOf (sc : Nat → Pd) (a : Nat) : List El := (sc a).els

def JG.touch (g : JG) : Key × Int := (g.key, ((g.ix.getLast?.getD 0 : Nat) : Int))
def JG.con (sc : Nat → Pd) (g : JG) : List Int × List Int := cont (pnOf sc) g.ix

/-- the groups held, behind s steps -/
structure AI (sc : Nat → Pd) (G : List JG) (s : Nat) : Prop where
  ne : ∀ g ∈ G, g.ix ≠ []
  lt : ∀ g ∈ G, (g.ix.length : Int) < g.key.tot
  small : ∀ g ∈ G, g.key.tot < 256
  mem : ∀ g ∈ G, ∀ a ∈ g.ix, a < s ∧ 1 ≤ pnOf sc a ∧ pnOf sc a ≤ g.key.tot
  nd : ∀ g ∈ G, (g.ix.map (pnOf sc)).Nodup
  len : G.length ≤ s

def Rel (sc : Nat → Pd) (G : List JG) (s : Nat) (G' : List JG) (res : Res) : Prop :=
  ((sc s).key = none ∧ G = G' ∧ Res.alone = res) ∨
  (∃ (i : Nat) (g : JG) (k : Key) (p : Int), (sc s).key = some (k, p) ∧ G[i]? = some g ∧ g.key = k ∧ hasI (g.ix.map (pnOf sc)) p = true ∧ G = G' ∧ Res.nil = res) ∨
  (∃ (i : Nat) (g : JG) (k : Key) (p : Int) (q c : Nat), (sc s).key = some (k, p) ∧ G[i]? = some g ∧ g.key = k ∧ hasI (g.ix.map (pnOf sc)) p = false ∧ (g.ix.length : Int) + 1 ≠ k.tot ∧ G.set i { g with q := q, cap := c, ix := g.ix ++ [s] } = G' ∧ Res.nil = res) ∨
  (∃ (i : Nat) (g : JG) (k : Key) (p : Int), (sc s).key = some (k, p) ∧ G[i]? = some g ∧ g.key = k ∧ hasI (g.ix.map (pnOf sc)) p = false ∧ (g.ix.length : Int) + 1 = k.tot ∧ G.eraseIdx i = G' ∧ Res.msg k (g.ix ++ [s]) = res) ∨
  (∃ (k : Key) (p : Int) (g' : JG), (sc s).key = some (k, p) ∧ (∀ g ∈ G, g.key ≠ k) ∧ (1 : Int) ≠ k.tot ∧ g'.key = k ∧ g'.ix = [s] ∧ G ++ [g'] = G' ∧ Res.nil = res) ∨
  (∃ (k : Key) (p : Int), (sc s).key = some (k, p) ∧ (∀ g ∈ G, g.key ≠ k) ∧ (1 : Int) = k.tot ∧ G = G' ∧ Res.msg k [s] = res)

section
variable {sc : Nat → Pd} {G : List JG} {s : Nat}
theorem Rel.alone (h : (sc s).key = none) : Rel sc G s G .alone := Or.inl ⟨h, rfl, rfl⟩
theorem Rel.dup (i : Nat) (g : JG) (k : Key) (p : Int) (hk : (sc s).key = some (k, p)) (hi : G[i]? = some g) (hg : g.key = k) (hh : hasI (g.ix.map (pnOf sc)) p = true) : Rel sc G s G .nil := Or.inr (Or.inl ⟨i, g, k, p, hk, hi, hg, hh, rfl, rfl⟩)
theorem Rel.add (i : Nat) (g : JG) (k : Key) (p : Int) (q c : Nat) (hk : (sc s).key = some (k, p)) (hi : G[i]? = some g) (hg : g.key = k) (hh : hasI (g.ix.map (pnOf sc)) p = false) (hnt : (g.ix.length : Int) + 1 ≠ k.tot) : Rel sc G s (G.set i { g with q := q, cap := c, ix := g.ix ++ [s] }) .nil := Or.inr (Or.inr (Or.inl ⟨i, g, k, p, q, c, hk, hi, hg, hh, hnt, rfl, rfl⟩))
theorem Rel.full (i : Nat) (g : JG) (k : Key) (p : Int) (hk : (sc s).key = some (k, p)) (hi : G[i]? = some g) (hg : g.key = k) (hh : hasI (g.ix.map (pnOf sc)) p = false) (hnt : (g.ix.length : Int) + 1 = k.tot) : Rel sc G s (G.eraseIdx i) (.msg k (g.ix ++ [s])) := Or.inr (Or.inr (Or.inr (Or.inl ⟨i, g, k, p, hk, hi, hg, hh, hnt, rfl, rfl⟩)))
theorem Rel.new (k : Key) (p : Int) (g' : JG) (hk : (sc s).key = some (k, p)) (hnew : ∀ g ∈ G, g.key ≠ k) (hnt : (1 : Int) ≠ k.tot) (hgk : g'.key = k) (hix : g'.ix = [s]) : Rel sc G s (G ++ [g']) .nil := Or.inr (Or.inr (Or.inr (Or.inr (Or.inl ⟨k, p, g', hk, hnew, hnt, hgk, hix, rfl, rfl⟩))))
theorem Rel.new1 (k : Key) (p : Int) (hk : (sc s).key = some (k, p)) (hnew : ∀ g ∈ G, g.key ≠ k) (hnt : (1 : Int) = k.tot) : Rel sc G s G (.msg k [s]) := Or.inr (Or.inr (Or.inr (Or.inr (Or.inr ⟨k, p, hk, hnew, hnt, rfl, rfl⟩))))
end

theorem hasI_false {l : List Int} {p : Int} (h : hasI l p = false) : p ∉ l := by
  intro hp
  have : hasI l p = true := by
    simp only [hasI, List.any_eq_true, beq_iff_eq]
    exact ⟨p, hp, rfl⟩
  rw [h] at this
  cases this

theorem mem_set {α : Type} {l : List α} {i : Nat} {a x : α} (h : x ∈ l.set i a) : x = a ∨ x ∈ l := by
  obtain ⟨k, hk⟩ := List.mem_iff_getElem?.1 h
  rcases get_set hk with ⟨_, rfl⟩ | ⟨_, h2⟩
  · exact Or.inl rfl
  · exact Or.inr (List.mem_of_getElem? h2)

theorem nodup_snoc {pn : Nat → Int} {ix : List Nat} {s : Nat} (h : (ix.map pn).Nodup) (hn : pn s ∉ ix.map pn) : ((ix ++ [s]).map pn).Nodup := by
  rw [List.map_append]
  refine List.nodup_append.2 ⟨h, by simp, ?_⟩
  intro a ha b hb e
  simp at hb
  subst hb
  exact hn (e ▸ ha)

theorem AI.step {sc : Nat → Pd} {G G' : List JG} {s : Nat} {res : Res} (h : AI sc G s) (hok : (sc s).Ok) (hb : ∀ e ∈ (sc s).els, ∀ z ∈ e.2, 0 ≤ z ∧ z < 256) (R : Rel sc G s G' res) : AI sc G' (s + 1) := by
  have mono : ∀ g ∈ G, ∀ a ∈ g.ix, a < s + 1 ∧ 1 ≤ pnOf sc a ∧ pnOf sc a ≤ g.key.tot := fun g hg a ha => by
    have := h.mem g hg a ha
    exact ⟨by omega, this.2⟩
  rcases R with ⟨hk, rfl, rfl⟩ | ⟨i, g, k, p, hk, hi, hg, hh, rfl, rfl⟩ | ⟨i, g, k, p, q, c, hk, hi, hg, hh, hnt, rfl, rfl⟩ | ⟨i, g, k, p, hk, hi, hg, hh, hnt, rfl, rfl⟩ | ⟨k, p, g', hk, hnew, hnt, hgk, hix, rfl, rfl⟩ | ⟨k, p, hk, hnew, hnt, rfl, rfl⟩
  · exact ⟨h.ne, h.lt, h.small, mono, h.nd, by have := h.len; omega⟩
  · exact ⟨h.ne, h.lt, h.small, mono, h.nd, by have := h.len; omega⟩
  · skip
    obtain ⟨ko, hp, p1, p2⟩ := key_ok hok hb hk
    have hgG := List.mem_of_getElem? hi
    have hps : pnOf sc s = p := hp.symm
    refine ⟨fun x hx => ?_, fun x hx => ?_, fun x hx => ?_, fun x hx a ha => ?_, fun x hx => ?_, ?_⟩
    · rcases mem_set hx with rfl | hx
      · simp
      · exact h.ne x hx
    · rcases mem_set hx with rfl | hx
      · have := h.lt g hgG
        rw [hg] at this
        simp only [List.length_append, List.length_singleton, hg]
        omega
      · exact h.lt x hx
    · rcases mem_set hx with rfl | hx
      · exact h.small g hgG
      · exact h.small x hx
    · rcases mem_set hx with rfl | hx
      · simp only [List.mem_append, List.mem_singleton] at ha
        rcases ha with ha | rfl
        · exact mono g hgG a ha
        · simp only [hg]
          rw [hps]
          exact ⟨by omega, p1, p2⟩
      · exact mono x hx a ha
    · rcases mem_set hx with rfl | hx
      · exact nodup_snoc (h.nd g hgG) (by rw [hps]; exact hasI_false hh)
      · exact h.nd x hx
    · rw [List.length_set]
      have := h.len
      omega
  · skip
    refine ⟨fun g hg => h.ne g (mem_erase_idx hg), fun g hg => h.lt g (mem_erase_idx hg), fun g hg => h.small g (mem_erase_idx hg), fun g hg => mono g (mem_erase_idx hg), fun g hg => h.nd g (mem_erase_idx hg), ?_⟩
    have := h.len
    have := List.length_eraseIdx_le G i
    omega
  · skip
    obtain ⟨ko, hp, p1, p2⟩ := key_ok hok hb hk
    have hps : pnOf sc s = p := hp.symm
    refine ⟨fun x hx => ?_, fun x hx => ?_, fun x hx => ?_, fun x hx a ha => ?_, fun x hx => ?_, ?_⟩
    · rcases List.mem_append.1 hx with hx | hx
      · exact h.ne x hx
      · simp at hx; subst hx; rw [hix]; simp
    · rcases List.mem_append.1 hx with hx | hx
      · exact h.lt x hx
      · simp at hx; subst hx; rw [hix, hgk]; have := ko.tot; simp; omega
    · rcases List.mem_append.1 hx with hx | hx
      · exact h.small x hx
      · simp at hx; subst hx; rw [hgk]; exact ko.tot.2
    · rcases List.mem_append.1 hx with hx | hx
      · exact mono x hx a ha
      · simp at hx; subst hx; rw [hix] at ha; simp at ha; subst ha; rw [hgk, hps]; exact ⟨by omega, p1, p2⟩
    · rcases List.mem_append.1 hx with hx | hx
      · exact h.nd x hx
      · simp at hx; subst hx; rw [hix]; simp
    · simp
      have := h.len
      omega
  · exact ⟨h.ne, h.lt, h.small, mono, h.nd, by have := h.len; omega⟩

/-- a message handed out is whole -/
theorem Rel.whole {sc : Nat → Pd} {G G' : List JG} {s : Nat} {key : Key} {ix : List Nat} (h : AI sc G s) (hok : (sc s).Ok) (hb : ∀ e ∈ (sc s).els, ∀ z ∈ e.2, 0 ≤ z ∧ z < 256) (R : Rel sc G s G' (.msg key ix)) : Whole (pnOf sc) (s + 1) key ix := by
  rcases R with ⟨_, _, e⟩ | ⟨_, _, _, _, _, _, _, _, _, e⟩ | ⟨_, _, _, _, _, _, _, _, _, _, _, _, e⟩ | ⟨i, g, k, p, hk, hi, hg, hh, hnt, _, e⟩ | ⟨_, _, _, _, _, _, _, _, _, e⟩ | ⟨k, p, hk, hnew, hnt, _, e⟩
  · cases e
  · cases e
  · cases e
  · obtain ⟨rfl, rfl⟩ : k = key ∧ g.ix ++ [s] = ix := by simpa [Res.msg] using e
    obtain ⟨ko, hp, p1, p2⟩ := key_ok hok hb hk
    have hgG := List.mem_of_getElem? hi
    have hps : pnOf sc s = p := hp.symm
    refine ⟨by simp; omega, ko.tot.2, nodup_snoc (h.nd g hgG) (by rw [hps]; exact hasI_false hh), fun a ha => ?_, fun a ha => ?_⟩
    · simp only [List.mem_append, List.mem_singleton] at ha
      rcases ha with ha | rfl
      · have := h.mem g hgG a ha; rw [hg] at this; exact this.2
      · rw [hps]; exact ⟨p1, p2⟩
    · simp only [List.mem_append, List.mem_singleton] at ha
      rcases ha with ha | rfl
      · have := (h.mem g hgG a ha).1; omega
      · omega
  · cases e
  · obtain ⟨rfl, rfl⟩ : k = key ∧ [s] = ix := by simpa [Res.msg] using e
    obtain ⟨ko, hp, p1, p2⟩ := key_ok hok hb hk
    have hps : pnOf sc s = p := hp.symm
    refine ⟨by simp [hnt], ko.tot.2, by simp, fun a ha => ?_, fun a ha => ?_⟩
    · simp at ha; subst ha; rw [hps]; exact ⟨p1, p2⟩
    · simp at ha; subst ha; omega

end Go.Proofs.Qxb6616208a
