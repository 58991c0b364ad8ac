/-
  The messages handed out and the law's groups agree. No walk.
-/
import Derived.Test.Qxb6616208aTakeR
import Derived.Test.Qxb6616208aSame2
namespace Go.Proofs.Qxb6616208a
open Go.RowKit
set_option linter.unusedVariables false
set_option linter.unusedSimpArgs false

/-- a row of groups as it is read -/
def RowV (w : World) (ga : Option Addr) (l : List GR) : Prop := ∀ (i : Nat) (x : GR), l[i]? = some x → ∃ gq, ga = some ⟨gq, 0, none⟩ ∧ ∀ W, Below w.heap.size w W → W.rangeAt gq (i * 9) x.cells

/-- a group of the law and a group of the joiner -/
structure GV (w : World) (sc : Nat → Pd) (x : GR) (g : JG) : Prop where
  key : x.key = g.key
  n : x.n = g.ix.length
  m : x.m = g.ix.length
  pa : ∀ W, Below w.heap.size w W → IRow W x.pa (g.ix.map (pnOf sc))
  ia : ∀ W, Below w.heap.size w W → IRow W x.ia (g.ix.map fun (a : Nat) => (a : Int))

theorem GRow.view {w : World} {B : Nat} {ga : Option Addr} {gc : Nat} {l : List GR} (h : GRow w B ga gc l) : RowV w ga l := fun i x hx => by
  obtain ⟨gq, e, hl, _, hr⟩ := h.at hx
  exact ⟨gq, e, fun W hW j v hv => (hW.cell (by exact hl)).trans (hr j v hv)⟩

theorem gv_of {w : World} {B : Nat} {ga : Option Addr} {gc : Nat} {sc : Nat → Pd} {G : List JG} {l : List GR} (h : GW w B ga gc l (G.map (JG.con sc))) (hk : l.map GR.kt = G.map JG.touch) {i : Nat} {x : GR} {g : JG} (hx : l[i]? = some x) (hg : G[i]? = some g) : GV w sc x g := by
  obtain ⟨h1, h2, h3, h4⟩ := h.ok i x (g.con sc) hx (by rw [List.getElem?_map, hg]; rfl)
  have e : (l.map GR.kt)[i]? = (G.map JG.touch)[i]? := by rw [hk]
  rw [List.getElem?_map, List.getElem?_map, hx, hg] at e
  have hbl : ∀ {W : World} {v : Value} {n : Nat} {xs : List Value}, Below w.heap.size w W → w.ownsRow B 3 1 v n xs → W.ownsRow B 3 1 v n xs := fun hW ho => own_keep ho fun k c _ e1 => hW.block k (Array.getElem?_eq_some_iff.1 e1).1
  refine ⟨congrArg Prod.fst (Option.some.inj e), by rw [h1]; simp [JG.con, cont], by rw [h2]; simp [JG.con, cont], fun W hW => own_irow (hbl hW h3), fun W hW => own_irow (hbl hW h4)⟩

/-- the two slots of a number -/
theorem slot_two (sc : Nat → Pd) (pb : Nat → Nat) (ix : List Nat) (k : Nat) : (∃ a ∈ ix, slotF (ix.map fun a => (pnOf sc a, (a : Int))) k = a ∧ slotP (partsL pb (elsOf sc) ix) k = some (pb a)) ∨ (slotF (ix.map fun a => (pnOf sc a, (a : Int))) k = -1 ∧ slotP (partsL pb (elsOf sc) ix) k = none) := by
  unfold slotF slotP partsL
  suffices H : ∀ (l : List Nat) (c1 : Int) (c2 : Option Nat), (∀ a ∈ l, a ∈ ix) → ((∃ a ∈ ix, c1 = a ∧ c2 = some (pb a)) ∨ (c1 = -1 ∧ c2 = none)) →
      ((∃ a ∈ ix, (l.map fun a => (pnOf sc a, (a : Int))).foldl (fun acc x => if x.1 = (k : Int) + 1 then x.2 else acc) c1 = a ∧ (l.map fun a => (pb a, elsOf sc a)).foldl (fun acc x => if pno x.2 = (k : Int) + 1 then some x.1 else acc) c2 = some (pb a)) ∨
        ((l.map fun a => (pnOf sc a, (a : Int))).foldl (fun acc x => if x.1 = (k : Int) + 1 then x.2 else acc) c1 = -1 ∧ (l.map fun a => (pb a, elsOf sc a)).foldl (fun acc x => if pno x.2 = (k : Int) + 1 then some x.1 else acc) c2 = none)) from H ix (-1) none (fun _ h => h) (Or.inr ⟨rfl, rfl⟩)
  intro l
  induction l with
  | nil => intro c1 c2 _ h; exact h
  | cons b l ih =>
    intro c1 c2 hl h
    simp only [List.map_cons, List.foldl_cons]
    refine ih _ _ (fun a ha => hl a (List.mem_cons_of_mem _ ha)) ?_
    by_cases e : pnOf sc b = (k : Int) + 1
    · have e' : pno (elsOf sc b) = (k : Int) + 1 := e
      rw [if_pos e, if_pos e']
      exact Or.inl ⟨b, hl b List.mem_cons_self, rfl, rfl⟩
    · have e' : ¬ pno (elsOf sc b) = (k : Int) + 1 := e
      rw [if_neg e, if_neg e']
      exact h

theorem svs_of {w : World} {sc : Nat → Pd} {pb : Nat → Nat} {M : Nat → Prop} {ma ga : Option Addr} {pg np : Nat} {l : List GR} {F : List JG} (hR : RowV w ga l) (hl : l.length = F.length) (hv : ∀ (i : Nat) (x : GR) (g : JG), l[i]? = some x → F[i]? = some g → GV w sc x g) (hO : Out w pb (elsOf sc) M ma F)
    (hA : ∀ g ∈ F, (g.ix.length : Int) < g.key.tot ∧ g.key.tot < 256 ∧ ∀ a ∈ g.ix, a < np ∧ 1 ≤ pnOf sc a ∧ pnOf sc a ≤ g.key.tot) (hp : ∀ W, Below w.heap.size w W → ∀ a, a < np → W.cell? ⟨pg, a, none⟩ = some (.pointer (some ⟨pb a, 0, none⟩))) : SVs w ma ga pg np F.length := by
  intro i hi
  have hg := List.getElem?_eq_getElem (l := F) hi
  have hx := List.getElem?_eq_getElem (l := l) (i := i) (by omega)
  generalize F[i] = g at hg
  generalize l[i] = x at hx
  obtain ⟨mq, q, rfl, ⟨c, hc1, hc2⟩, hG⟩ := hO.at_ i g hg
  obtain ⟨gq, rfl, hrr⟩ := hR i x hx
  obtain ⟨tot, o, n, e1, e2, hN⟩ := hG.row
  have V := hv i x g hx hg
  obtain ⟨a1, a2, a3⟩ := hA g (List.mem_of_getElem? hg)
  have m1 : (g.ix.map fun a => (pnOf sc a, (a : Int))).map (·.1) = g.ix.map (pnOf sc) := by rw [List.map_map]; rfl
  have m2 : (g.ix.map fun a => (pnOf sc a, (a : Int))).map (·.2) = g.ix.map fun (a : Nat) => (a : Int) := by rw [List.map_map]; rfl
  refine ⟨mq, gq, x, g.m, q, tot, tot, g.ix.map fun a => (pnOf sc a, (a : Int)), rfl, rfl, ⟨fun W hW => ⟨?_, hrr W hW, ?_, ?_, ?_, ?_⟩, by rw [V.n]; simp, by rw [V.m]; simp, by rw [V.key]; exact e1.symm, by omega, by simp; omega, fun y hy => ?_, fun W hW k hk => ?_⟩⟩
  · exact (cell_of_row _ _ _ _ _ _ ((hW.block _ (Array.getElem?_eq_some_iff.1 hc1).1).trans hc1)).trans hc2
  · exact cell_of_row _ _ _ _ _ _ ((hW.block _ (Array.getElem?_eq_some_iff.1 e2).1).trans e2)
  · rw [V.key]
    exact cell_of_row _ _ _ _ _ _ ((hW.block _ (Array.getElem?_eq_some_iff.1 e2).1).trans e2)
  · rw [m1]; exact V.pa W hW
  · rw [m2]; exact V.ia W hW
  · obtain ⟨a, ha, rfl⟩ := List.mem_map.1 hy
    have := (a3 a ha).2
    simp only []
    omega
  · have hNc := ((hN.block (hW.block _ hN.lt)).cell hk)
    rcases slot_two sc pb g.ix k with ⟨a, ha, s1, s2⟩ | ⟨s1, s2⟩
    · refine Or.inl ⟨a, pb a, (a3 a ha).1, s1, ?_, hp W hW a (a3 a ha).1⟩
      rw [hNc, s2]
      rfl
    · refine Or.inr ⟨s1, ?_⟩
      rw [hNc, s2]
      rfl

end Go.Proofs.Qxb6616208a
