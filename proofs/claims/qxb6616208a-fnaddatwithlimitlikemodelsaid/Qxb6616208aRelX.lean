/-
  One step at a limit, as the joiner and as the law's model do it. No walk.
-/
import Derived.Test.Qxb6616208aFeed2
import Derived.Test.Qxb6616208aEv
namespace Go.Proofs.Qxb6616208a
open Go.RowKit
set_option linter.unusedVariables false
set_option linter.unusedSimpArgs false

/-- what is handed out at a step -/
abbrev ResX : Type := Option (Option (Bool × Key × List Nat))
abbrev ResX.nil : ResX := none
abbrev ResX.alone : ResX := some none
abbrev ResX.msg (key : Key) (ix : List Nat) : ResX := some (some (true, key, ix))
abbrev ResX.part (key : Key) (ix : List Nat) : ResX := some (some (false, key, ix))

/-- the step of the last part -/
def JG.lt (g : JG) : Nat := g.ix.getLast?.getD 0

/-- a part added, or a message opened -/
def Mid (sc : Nat → Pd) (G : List JG) (O : List Nat) (s : Nat) (G1 : List JG) (O1 : List Nat) : Prop :=
  (∃ (i : Nat) (g : JG) (k : Key) (p : Int) (q c : Nat), (sc s).key = some (k, p) ∧ G[i]? = some g ∧ g.key = k ∧ hasI (g.ix.map (pnOf sc)) p = false ∧ (g.ix.length : Int) + 1 ≠ k.tot ∧ G.set i { g with q := q, cap := c, ix := g.ix ++ [s] } = G1 ∧ O.erase g.m ++ [g.m] = O1) ∨
  (∃ (k : Key) (p : Int) (g' : JG), (sc s).key = some (k, p) ∧ (∀ g ∈ G, g.key ≠ k) ∧ (1 : Int) ≠ k.tot ∧ g'.key = k ∧ g'.ix = [s] ∧ g'.m ∉ O ∧ G ++ [g'] = G1 ∧ O ++ [g'.m] = O1)

def RelX (sc : Nat → Pd) (lim : Int) (G : List JG) (O : List Nat) (hd : Int) (s : Nat) (G' : List JG) (O' : List Nat) (hd' : Int) (res : ResX) : Prop :=
  ((sc s).key = none ∧ G = G' ∧ O = O' ∧ hd = hd' ∧ ResX.alone = res) ∨
  (∃ (i : Nat) (g : JG) (k : Key) (p : Int), (sc s).key = some (k, p) ∧ G[i]? = some g ∧ g.key = k ∧ hasI (g.ix.map (pnOf sc)) p = true ∧ G = G' ∧ O = O' ∧ hd = hd' ∧ ResX.nil = res) ∨
  (∃ (i : Nat) (g : JG) (k : Key) (p : Int), (sc s).key = some (k, p) ∧ G[i]? = some g ∧ g.key = k ∧ hasI (g.ix.map (pnOf sc)) p = false ∧ (g.ix.length : Int) + 1 = k.tot ∧ G.eraseIdx i = G' ∧ O.erase g.m = O' ∧ hd + 1 - ((g.ix.length + 1 : Nat) : Int) = hd' ∧ ResX.msg k (g.ix ++ [s]) = res) ∨
  (∃ (k : Key) (p : Int), (sc s).key = some (k, p) ∧ (∀ g ∈ G, g.key ≠ k) ∧ (1 : Int) = k.tot ∧ G = G' ∧ O = O' ∧ hd = hd' ∧ ResX.msg k [s] = res) ∨
  (∃ (G1 : List JG) (O1 : List Nat), Mid sc G O s G1 O1 ∧ hd + 1 ≤ lim ∧ G1 = G' ∧ O1 = O' ∧ hd + 1 = hd' ∧ ResX.nil = res) ∨
  (∃ (G1 : List JG) (O1 : List Nat) (i2 : Nat) (g2 : JG), Mid sc G O s G1 O1 ∧ ¬ hd + 1 ≤ lim ∧ G1[i2]? = some g2 ∧ O1[0]? = some g2.m ∧ G1.eraseIdx i2 = G' ∧ O1.erase g2.m = O' ∧ hd + 1 - (g2.ix.length : Int) = hd' ∧ ResX.part g2.key g2.ix = res)

section
variable {sc : Nat → Pd} {lim : Int} {G : List JG} {O : List Nat} {hd : Int} {s : Nat}
theorem Mid.add (i : Nat) (g : JG) (k : Key) (p : Int) (q c : Nat) (hk : (sc s).key = some (k, p)) (hi : G[i]? = some g) (hg : g.key = k) (hh : hasI (g.ix.map (pnOf sc)) p = false) (hnt : (g.ix.length : Int) + 1 ≠ k.tot) : Mid sc G O s (G.set i { g with q := q, cap := c, ix := g.ix ++ [s] }) (O.erase g.m ++ [g.m]) := Or.inl ⟨i, g, k, p, q, c, hk, hi, hg, hh, hnt, rfl, rfl⟩
theorem Mid.new (k : Key) (p : Int) (g' : JG) (hk : (sc s).key = some (k, p)) (hnew : ∀ g ∈ G, g.key ≠ k) (hnt : (1 : Int) ≠ k.tot) (hgk : g'.key = k) (hix : g'.ix = [s]) (hmO : g'.m ∉ O) : Mid sc G O s (G ++ [g']) (O ++ [g'.m]) := Or.inr ⟨k, p, g', hk, hnew, hnt, hgk, hix, hmO, rfl, rfl⟩
theorem RelX.alone (h : (sc s).key = none) : RelX sc lim G O hd s G O hd .alone := Or.inl ⟨h, rfl, rfl, rfl, rfl⟩
theorem RelX.dup (i : Nat) (g : JG) (k : Key) (p : Int) (hk : (sc s).key = some (k, p)) (hi : G[i]? = some g) (hg : g.key = k) (hh : hasI (g.ix.map (pnOf sc)) p = true) : RelX sc lim G O hd s G O hd .nil := Or.inr (Or.inl ⟨i, g, k, p, hk, hi, hg, hh, rfl, rfl, rfl, rfl⟩)
theorem RelX.full (i : Nat) (g : JG) (k : Key) (p : Int) (hk : (sc s).key = some (k, p)) (hi : G[i]? = some g) (hg : g.key = k) (hh : hasI (g.ix.map (pnOf sc)) p = false) (hnt : (g.ix.length : Int) + 1 = k.tot) : RelX sc lim G O hd s (G.eraseIdx i) (O.erase g.m) (hd + 1 - ((g.ix.length + 1 : Nat) : Int)) (.msg k (g.ix ++ [s])) := Or.inr (Or.inr (Or.inl ⟨i, g, k, p, hk, hi, hg, hh, hnt, rfl, rfl, rfl, rfl⟩))
theorem RelX.new1 (k : Key) (p : Int) (hk : (sc s).key = some (k, p)) (hnew : ∀ g ∈ G, g.key ≠ k) (hnt : (1 : Int) = k.tot) : RelX sc lim G O hd s G O hd (.msg k [s]) := Or.inr (Or.inr (Or.inr (Or.inl ⟨k, p, hk, hnew, hnt, rfl, rfl, rfl, rfl⟩)))
theorem RelX.keep (G1 : List JG) (O1 : List Nat) (M : Mid sc G O s G1 O1) (hl : hd + 1 ≤ lim) : RelX sc lim G O hd s G1 O1 (hd + 1) .nil := Or.inr (Or.inr (Or.inr (Or.inr (Or.inl ⟨G1, O1, M, hl, rfl, rfl, rfl, rfl⟩))))
theorem RelX.evict (G1 : List JG) (O1 : List Nat) (i2 : Nat) (g2 : JG) (M : Mid sc G O s G1 O1) (hl : ¬ hd + 1 ≤ lim) (hi : G1[i2]? = some g2) (ho : O1[0]? = some g2.m) : RelX sc lim G O hd s (G1.eraseIdx i2) (O1.erase g2.m) (hd + 1 - (g2.ix.length : Int)) (.part g2.key g2.ix) := Or.inr (Or.inr (Or.inr (Or.inr (Or.inr ⟨G1, O1, i2, g2, M, hl, hi, ho, rfl, rfl, rfl, rfl⟩))))
end

def sumL (G : List JG) : Int := (G.map fun g => (g.ix.length : Int)).sum

/-- the groups, the list and the count, behind s steps -/
structure AX (sc : Nat → Pd) (G : List JG) (O : List Nat) (hd : Int) (s : Nat) : Prop where
  ai : AI sc G s
  key : ∀ g ∈ G, ∀ a ∈ g.ix, ∃ p, (sc a).key = some (g.key, p)
  oc : ∀ x, x ∈ O ↔ ∃ g ∈ G, g.m = x
  dm : ∀ (i i' : Nat) (g g' : JG), i ≠ i' → G[i]? = some g → G[i']? = some g' → g.m ≠ g'.m
  od : ∀ (i k x y : Nat) (g g' : JG), i < k → O[i]? = some x → O[k]? = some y → g ∈ G → g' ∈ G → g.m = x → g'.m = y → g.lt < g'.lt
  nd : O.Nodup
  sum : hd = sumL G

theorem AX.pos {sc : Nat → Pd} {G : List JG} {O : List Nat} {hd : Int} {s : Nat} (h : AX sc G O hd s) : 0 ≤ hd := by
  rw [h.sum]
  unfold sumL
  clear h
  induction G with
  | nil => simp
  | cons g G ih => simp only [List.map_cons, List.sum_cons]; omega

theorem sumL_set {G : List JG} {i : Nat} {g g' : JG} (h : G[i]? = some g) : sumL (G.set i g') = sumL G - g.ix.length + g'.ix.length := by
  unfold sumL
  induction G generalizing i with
  | nil => simp at h
  | cons b G ih =>
    cases i with
    | zero => simp at h; subst h; simp; omega
    | succ i =>
      simp only [List.getElem?_cons_succ] at h
      have := ih h
      simp only [List.set_cons_succ, List.map_cons, List.sum_cons, this]
      omega
theorem sumL_erase {G : List JG} {i : Nat} {g : JG} (h : G[i]? = some g) : sumL (G.eraseIdx i) = sumL G - g.ix.length := by
  unfold sumL
  induction G generalizing i with
  | nil => simp at h
  | cons b G ih =>
    cases i with
    | zero => simp at h; subst h; simp; omega
    | succ i =>
      simp only [List.getElem?_cons_succ] at h
      have := ih h
      simp only [List.eraseIdx_cons_succ, List.map_cons, List.sum_cons, this]
      omega
theorem sumL_snoc (G : List JG) (g : JG) : sumL (G ++ [g]) = sumL G + g.ix.length := by
  unfold sumL
  simp

theorem AI.lt_s {sc : Nat → Pd} {G : List JG} {s : Nat} (h : AI sc G s) {g : JG} (hg : g ∈ G) : g.lt < s := by
  unfold JG.lt
  cases hl : g.ix.getLast? with
  | none => exact absurd (List.getLast?_eq_none_iff.1 hl) (h.ne g hg)
  | some a => exact (h.mem g hg a (List.mem_of_getLast? hl)).1

theorem lt_snoc (g : JG) (q c s : Nat) : JG.lt { g with q := q, cap := c, ix := g.ix ++ [s] } = s := by simp [JG.lt]

theorem AI.erase {sc : Nat → Pd} {G : List JG} {s : Nat} (h : AI sc G s) (i : Nat) : AI sc (G.eraseIdx i) s := by
  refine ⟨fun g hg => h.ne g (mem_erase_idx hg), fun g hg => h.lt g (mem_erase_idx hg), fun g hg => h.small g (mem_erase_idx hg), fun g hg => h.mem g (mem_erase_idx hg), fun g hg => h.nd g (mem_erase_idx hg), ?_⟩
  have := h.len
  have := List.length_eraseIdx_le G i
  omega

theorem mem_erase_ne {G : List JG} {i : Nat} {g x : JG} (hi : G[i]? = some g) (hx : x ∈ G) (hne : x.m ≠ g.m) : x ∈ G.eraseIdx i := by
  obtain ⟨k, hk⟩ := List.mem_iff_getElem?.1 hx
  have hki : k ≠ i := fun e => by subst e; rw [hi] at hk; cases hk; exact hne rfl
  rcases Nat.lt_or_gt_of_ne hki with h | h
  · exact List.mem_of_getElem? (i := k) (by rw [List.getElem?_eraseIdx, if_pos h]; exact hk)
  · exact List.mem_of_getElem? (i := k - 1) (by rw [List.getElem?_eraseIdx, if_neg (by omega)]; rw [show k - 1 + 1 = k by omega]; exact hk)

/-- order kept by a part of the list -/
theorem od_sub {O O' : List Nat} (hs : O'.Sublist O) (hn : O.Nodup) {P : Nat → Nat → Prop} (h : ∀ (i k x y : Nat), i < k → O[i]? = some x → O[k]? = some y → P x y) : ∀ (i k x y : Nat), i < k → O'[i]? = some x → O'[k]? = some y → P x y := by
  have hp : O.Pairwise P := List.pairwise_iff_getElem.2 fun i k hi hk hik => h i k _ _ hik (List.getElem?_eq_getElem hi) (List.getElem?_eq_getElem hk)
  have hp' := hp.sublist hs
  intro i k x y hik hx hy
  obtain ⟨hi, rfl⟩ := List.getElem?_eq_some_iff.1 hx
  obtain ⟨hk, rfl⟩ := List.getElem?_eq_some_iff.1 hy
  exact List.pairwise_iff_getElem.1 hp' i k hi hk hik

/-- a message let go -/
theorem AX.erase {sc : Nat → Pd} {G : List JG} {O : List Nat} {hd : Int} {s i : Nat} {g : JG} (h : AX sc G O hd s) (hi : G[i]? = some g) : AX sc (G.eraseIdx i) (O.erase g.m) (hd - g.ix.length) s := by
  have hgG := List.mem_of_getElem? hi
  refine ⟨h.ai.erase i, fun x hx => h.key x (mem_erase_idx hx), fun x => ?_, fun a b x y hab hx hy => ?_, ?_, h.nd.sublist (List.erase_sublist), by rw [h.sum, sumL_erase hi]⟩
  · rw [List.Nodup.mem_erase_iff h.nd, h.oc]
    constructor
    · rintro ⟨hne, y, hy, rfl⟩
      exact ⟨y, mem_erase_ne hi hy hne, rfl⟩
    · rintro ⟨y, hy, rfl⟩
      refine ⟨fun e => ?_, y, mem_erase_idx hy, rfl⟩
      obtain ⟨k, hk⟩ := List.mem_iff_getElem?.1 hy
      exact h.dm _ i y g (by split <;> omega) (get_erase hk) hi e
  · refine h.dm _ _ x y (fun e => hab ?_) (get_erase hx) (get_erase hy)
    split at e <;> split at e <;> omega
  · intro a b x y u v hab hx hy hu hv
    exact od_sub (P := fun x y => ∀ u v : JG, u ∈ G → v ∈ G → u.m = x → v.m = y → u.lt < v.lt) (List.erase_sublist) h.nd (fun i k x y hik hx hy u v hu hv => h.od i k x y u v hik hx hy hu hv) a b x y hab hx hy u v (mem_erase_idx hu) (mem_erase_idx hv)

theorem AX.up {sc : Nat → Pd} {G : List JG} {O : List Nat} {hd : Int} {s : Nat} (h : AX sc G O hd s) (ai : AI sc G (s + 1)) : AX sc G O hd (s + 1) := ⟨ai, h.key, h.oc, h.dm, h.od, h.nd, h.sum⟩

/-- the list with the last one touched -/
theorem od_touch {O : List Nat} {m : Nat} (hn : O.Nodup) {P : Nat → Nat → Prop} (h : ∀ (i k x y : Nat), i < k → (O.erase m)[i]? = some x → (O.erase m)[k]? = some y → P x y) (hm : ∀ x ∈ O, x ≠ m → P x m) : ∀ (i k x y : Nat), i < k → (O.erase m ++ [m])[i]? = some x → (O.erase m ++ [m])[k]? = some y → P x y := by
  intro i k x y hik hx hy
  have hk := (List.getElem?_eq_some_iff.1 hy).1
  simp at hk
  rw [List.getElem?_append_left (by omega)] at hx
  have hxO := List.mem_of_getElem? hx
  obtain ⟨h1, h2⟩ := (List.Nodup.mem_erase_iff hn).1 hxO
  rcases Nat.lt_or_ge k (O.erase m).length with h | h'
  · rw [List.getElem?_append_left h] at hy
    exact ‹∀ (i k x y : Nat), i < k → (O.erase m)[i]? = some x → (O.erase m)[k]? = some y → P x y› i k x y hik hx hy
  · obtain rfl : k = (O.erase m).length := by omega
    simp at hy
    subst hy
    exact hm x h2 h1

theorem AX.mid {sc : Nat → Pd} {G G1 : List JG} {O O1 : List Nat} {hd : Int} {s : Nat} (h : AX sc G O hd s) (hok : (sc s).Ok) (hb : ∀ e ∈ (sc s).els, ∀ z ∈ e.2, 0 ≤ z ∧ z < 256) (R : Mid sc G O s G1 O1) : AX sc G1 O1 (hd + 1) (s + 1) := by
  rcases R with ⟨i, g, k, p, q, c, hk, hi, hg, hh, hnt, rfl, rfl⟩ | ⟨k, p, g', hk, hnew, hnt, hgk, hix, hmO, rfl, rfl⟩
  · skip
    have hgG := List.mem_of_getElem? hi
    have hmO : g.m ∈ O := (h.oc g.m).2 ⟨g, hgG, rfl⟩
    have hms : ∀ (k : Nat) (x : JG), (G.set i { g with q := q, cap := c, ix := g.ix ++ [s] })[k]? = some x → ∃ y, G[k]? = some y ∧ x.m = y.m ∧ ((k ≠ i ∧ x = y) ∨ (k = i ∧ y = g ∧ x = { g with q := q, cap := c, ix := g.ix ++ [s] })) := fun k x hx => by
      rcases get_set hx with ⟨e1, rfl⟩ | ⟨hne, hx'⟩
      · subst e1
        exact ⟨g, hi, rfl, Or.inr ⟨rfl, rfl, rfl⟩⟩
      · exact ⟨x, hx', rfl, Or.inl ⟨hne, rfl⟩⟩
    have key : ∀ x ∈ G.set i { g with q := q, cap := c, ix := g.ix ++ [s] }, x.m ≠ g.m → x ∈ G := fun x hx hne => by
      obtain ⟨k, hk⟩ := List.mem_iff_getElem?.1 hx
      obtain ⟨y, h1, h2, h3⟩ := hms k x hk
      rcases h3 with ⟨_, rfl⟩ | ⟨_, rfl, rfl⟩
      · exact List.mem_of_getElem? h1
      · exact absurd rfl hne
    have same : ∀ x ∈ G.set i { g with q := q, cap := c, ix := g.ix ++ [s] }, x.m = g.m → x.lt = s := fun x hx e => by
      obtain ⟨k, hk⟩ := List.mem_iff_getElem?.1 hx
      obtain ⟨y, h1, h2, h3⟩ := hms k x hk
      rcases h3 with ⟨hne, rfl⟩ | ⟨_, rfl, rfl⟩
      · exact absurd e (h.dm k i x g hne h1 hi)
      · exact lt_snoc _ _ _ _
    refine ⟨h.ai.step hok hb (.add i g k p q c hk hi hg hh hnt), fun x hx a ha => ?_, fun x => ?_, fun a b x y hab hx hy => ?_, ?_, ?_, ?_⟩
    · rcases mem_set hx with rfl | hx
      · simp only [List.mem_append, List.mem_singleton] at ha
        rcases ha with ha | rfl
        · exact h.key g hgG a ha
        · exact ⟨p, by rw [hk, hg]⟩
      · exact h.key x hx a ha
    · simp only [List.mem_append, List.mem_singleton]
      rw [List.Nodup.mem_erase_iff h.nd]
      constructor
      · rintro (⟨hne, hx⟩ | rfl)
        · exact held_set (g' := { g with q := q, cap := c, ix := g.ix ++ [s] }) (fun x hx => (h.oc x).1 hx) hi rfl x hx
        · exact ⟨_, List.mem_of_getElem? (set_at hi), rfl⟩
      · rintro ⟨y, hy, rfl⟩
        by_cases e : y.m = g.m
        · exact Or.inr e
        · exact Or.inl ⟨e, (h.oc _).2 ⟨y, key y hy e, rfl⟩⟩
    · obtain ⟨x', h1, h2, _⟩ := hms a x hx
      obtain ⟨y', h3, h4, _⟩ := hms b y hy
      rw [h2, h4]
      exact h.dm a b x' y' hab h1 h3
    · intro a b x y u v hab hx hy hu hv
      refine od_touch (P := fun x y => ∀ u v : JG, u ∈ G.set i { g with q := q, cap := c, ix := g.ix ++ [s] } → v ∈ G.set i { g with q := q, cap := c, ix := g.ix ++ [s] } → u.m = x → v.m = y → u.lt < v.lt) h.nd ?_ ?_ a b x y hab hx hy u v hu hv
      · intro a b x y hab hx hy u v hu hv e1 e2
        have hxm := (List.Nodup.mem_erase_iff h.nd).1 (List.mem_of_getElem? hx)
        have hym := (List.Nodup.mem_erase_iff h.nd).1 (List.mem_of_getElem? hy)
        exact od_sub (P := fun x y => ∀ u v : JG, u ∈ G → v ∈ G → u.m = x → v.m = y → u.lt < v.lt) (List.erase_sublist) h.nd (fun i k x y hik hx hy u v hu hv => h.od i k x y u v hik hx hy hu hv) a b x y hab hx hy u v (key u hu (by rw [e1]; exact hxm.1)) (key v hv (by rw [e2]; exact hym.1)) e1 e2
      · intro x hx hne u v hu hv e1 e2
        rw [same v hv e2]
        exact h.ai.lt_s (key u hu (by rw [e1]; exact hne))
    · refine List.nodup_append.2 ⟨h.nd.sublist (List.erase_sublist), by simp, ?_⟩
      intro a ha b hb e
      simp at hb
      subst hb
      subst e
      exact ((List.Nodup.mem_erase_iff h.nd).1 ha).1 rfl
    · rw [sumL_set hi, h.sum]
      simp
      omega
  · skip
    have hml : ∀ g ∈ G, g.m ≠ g'.m := fun g hg e => hmO (by rw [← e]; exact (h.oc _).2 ⟨g, hg, rfl⟩)
    have hlt : g'.lt = s := by simp [JG.lt, hix]
    refine ⟨h.ai.step hok hb (.new k p g' hk hnew hnt hgk hix), fun x hx a ha => ?_, fun x => ?_, fun a b x y hab hx hy => ?_, ?_, ?_, ?_⟩
    · rcases List.mem_append.1 hx with hx | hx
      · exact h.key x hx a ha
      · simp at hx; subst hx; rw [hix] at ha; simp at ha; subst ha; exact ⟨p, by rw [hk, hgk]⟩
    · simp only [List.mem_append, List.mem_singleton]
      constructor
      · rintro (hx | rfl)
        · obtain ⟨y, hy, e⟩ := (h.oc x).1 hx
          exact ⟨y, Or.inl hy, e⟩
        · exact ⟨g', Or.inr rfl, rfl⟩
      · rintro ⟨y, hy | rfl, rfl⟩
        · exact Or.inl ((h.oc _).2 ⟨y, hy, rfl⟩)
        · exact Or.inr rfl
    · rcases get_snoc hx with ⟨rfl, rfl⟩ | ⟨h1, hx'⟩
      · rcases get_snoc hy with ⟨rfl, rfl⟩ | ⟨h2, hy'⟩
        · exact absurd rfl hab
        · exact fun e => hml y (List.mem_of_getElem? hy') e.symm
      · rcases get_snoc hy with ⟨rfl, rfl⟩ | ⟨h2, hy'⟩
        · exact hml x (List.mem_of_getElem? hx')
        · exact h.dm a b x y hab hx' hy'
    · intro a b x y u v hab hx hy hu hv e1 e2
      have hxl : a < O.length := by have := (List.getElem?_eq_some_iff.1 hy).1; simp at this; omega
      rw [List.getElem?_append_left hxl] at hx
      have hxO := List.mem_of_getElem? hx
      have huG : u ∈ G := by
        rcases List.mem_append.1 hu with hu | hu
        · exact hu
        · simp at hu; subst hu; rw [← e1] at hxO; exact absurd hxO hmO
      rcases Nat.lt_or_ge b O.length with hb' | hb'
      · rw [List.getElem?_append_left hb'] at hy
        have hyO := List.mem_of_getElem? hy
        have hvG : v ∈ G := by
          rcases List.mem_append.1 hv with hv | hv
          · exact hv
          · simp at hv; subst hv; rw [← e2] at hyO; exact absurd hyO hmO
        exact h.od a b x y u v hab hx hy huG hvG e1 e2
      · have hbl : b = O.length := by have := (List.getElem?_eq_some_iff.1 hy).1; simp at this; omega
        subst hbl
        simp at hy
        subst hy
        have hvg : v = g' := by
          rcases List.mem_append.1 hv with hv | hv
          · exact absurd e2 (hml v hv)
          · simpa using hv
        subst hvg
        rw [hlt]
        exact h.ai.lt_s huG
    · refine List.nodup_append.2 ⟨h.nd, by simp, ?_⟩
      intro a ha b hb e
      simp at hb
      subst hb
      subst e
      exact hmO ha
    · rw [sumL_snoc, h.sum, hix]
      simp

/-- the oldest is the one touched longest ago -/
theorem AX.least {sc : Nat → Pd} {G : List JG} {O : List Nat} {hd : Int} {s i2 : Nat} {g2 : JG} (h : AX sc G O hd s) (hi : G[i2]? = some g2) (h0 : O[0]? = some g2.m) : ∀ (i : Nat) (x : Key × Int), (G.map JG.touch)[i]? = some x → i ≠ i2 → ((g2.lt : Nat) : Int) < x.2 := by
  intro i x hx hne
  rw [List.getElem?_map, Option.map_eq_some_iff] at hx
  obtain ⟨g, hg, rfl⟩ := hx
  have hgG := List.mem_of_getElem? hg
  obtain ⟨k, hk⟩ := List.mem_iff_getElem?.1 ((h.oc g.m).2 ⟨g, hgG, rfl⟩)
  have hk0 : 0 < k := by
    rcases Nat.eq_zero_or_pos k with e | e
    · subst e
      rw [h0] at hk
      exact absurd (Option.some.inj hk).symm (h.dm i i2 g g2 hne hg hi)
    · exact e
  have := h.od 0 k _ _ g2 g hk0 h0 hk (List.mem_of_getElem? hi) hgG rfl rfl
  show ((g2.lt : Nat) : Int) < ((g.lt : Nat) : Int)
  omega

theorem AX.step {sc : Nat → Pd} {lim : Int} {G G' : List JG} {O O' : List Nat} {hd hd' : Int} {s : Nat} {res : ResX} (h : AX sc G O hd s) (hle : hd ≤ lim) (hok : (sc s).Ok) (hb : ∀ e ∈ (sc s).els, ∀ z ∈ e.2, 0 ≤ z ∧ z < 256) (R : RelX sc lim G O hd s G' O' hd' res) : AX sc G' O' hd' (s + 1) ∧ hd' ≤ lim := by
  have mid : ∀ {G1 : List JG} {O1 : List Nat}, Mid sc G O s G1 O1 → AX sc G1 O1 (hd + 1) (s + 1) := fun {G1 O1} M => h.mid hok hb M
  rcases R with ⟨hk, rfl, rfl, rfl, rfl⟩ | ⟨i, g, k, p, hk, hi, hg, hh, rfl, rfl, rfl, rfl⟩ | ⟨i, g, k, p, hk, hi, hg, hh, hnt, rfl, rfl, rfl, rfl⟩ | ⟨k, p, hk, hnew, hnt, rfl, rfl, rfl, rfl⟩ | ⟨G1, O1, M, hl, rfl, rfl, rfl, rfl⟩ | ⟨G1, O1, i2, g2, M, hl, hi, h0, rfl, rfl, rfl, rfl⟩
  · exact ⟨h.up (h.ai.step hok hb (.alone hk)), hle⟩
  · exact ⟨h.up (h.ai.step hok hb (.dup i g k p hk hi hg hh)), hle⟩
  · skip
    have e : hd + 1 - ((g.ix.length + 1 : Nat) : Int) = hd - g.ix.length := by simp; omega
    rw [e]
    exact ⟨(h.erase hi).up (h.ai.step hok hb (.full i g k p hk hi hg hh hnt)), by omega⟩
  · exact ⟨h.up (h.ai.step hok hb (.new1 k p hk hnew hnt)), hle⟩
  · exact ⟨mid M, hl⟩
  · skip
    have hm := mid M
    refine ⟨hm.erase hi, ?_⟩
    have := List.length_pos_iff.2 (hm.ai.ne g2 (List.mem_of_getElem? hi))
    omega

end Go.Proofs.Qxb6616208a
