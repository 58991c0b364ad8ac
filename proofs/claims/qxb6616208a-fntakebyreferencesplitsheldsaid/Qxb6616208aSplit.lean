/-
  The law's groups split by a reference: the two rows. No walk.
-/
import Derived.Test.Qxb6616208aFed
namespace Go.Proofs.Qxb6616208a
open Go.RowKit
set_option linter.unusedVariables false
set_option linter.unusedSimpArgs false

/-- two rows being built out of the groups -/
structure W8 (w3 wr : World) (lg : List GR) (p : GR → Bool) (i : Nat) (wa ra : Option Addr) (wc rc : Nat) : Prop where
  b : Below w3.heap.size w3 wr
  want : GRow wr w3.heap.size wa wc ((lg.take i).filter p)
  rest : GRow wr w3.heap.size ra rc ((lg.take i).filter fun x => !p x)
  ap : wa = none ∨ wa ≠ ra

theorem gr_blk {w : World} {B : Nat} {ga : Option Addr} {gc : Nat} {l : List GR} (h : GRow w B ga gc l) : ga = none ∨ ∃ g c, ga = some ⟨g, 0, none⟩ ∧ w.heap[g]? = some (.cells c 76 (0, 0)) := by
  rcases h.2 with ⟨e, _⟩ | ⟨g, cap, cur, e, _, hg, _⟩
  · simp only [Value.slice.injEq] at e
    exact Or.inl e.1
  · simp only [Value.slice.injEq] at e
    exact Or.inr ⟨g, cur, e.1, hg⟩

theorem slice_none_none (n c : Nat) : (Value.slice none n c).ownBlock = none := rfl

/-- one row grown: the other stays -/
theorem grown_other {w w' : World} {B : Nat} {wa ra wa' : Option Addr} {n n' c c' rc : Nat} {l : List GR} (h : GRow w B ra rc l) (hw : wa = none ∨ ∃ g c, wa = some ⟨g, 0, none⟩ ∧ w.heap[g]? = some (.cells c 76 (0, 0))) (hw' : wa' = none ∨ ∃ g c, wa' = some ⟨g, 0, none⟩ ∧ w'.heap[g]? = some (.cells c 76 (0, 0))) (ap : wa = none ∨ wa ≠ ra) (hg : w.grownBy w' (Value.slice wa n c).ownBlock) (hat : (Value.slice wa' n' c').ownBlock = (Value.slice wa n c).ownBlock ∨ (Value.slice wa' n' c').ownBlock = some w.heap.size) :
    GRow w' B ra rc l ∧ (wa' = none ∨ wa' ≠ ra) := by
  have hr := gr_blk h
  constructor
  · refine own_keep h fun k c0 e0 e1 => hg.block k (Array.getElem?_eq_some_iff.1 e1).1 fun e2 => ?_
    rcases hw with rfl | ⟨g, cw, rfl, hgw⟩
    · rw [slice_none_none] at e2; cases e2
    · rcases hr with rfl | ⟨g2, c2, rfl, hg2⟩
      · rw [slice_none_none] at e0; cases e0
      · simp only [Value.ownBlock, Option.some.injEq] at e0 e2
        rcases ap with ap | ap
        · cases ap
        · exact ap (by rw [← e2, ← e0])
  · rcases hw' with rfl | ⟨g', cw', rfl, hgw'⟩
    · exact Or.inl rfl
    · refine Or.inr fun e => ?_
      subst e
      rcases hr with h0 | ⟨g2, c2, e2, hg2⟩
      · cases h0
      · cases e2
        rcases hat with h1 | h1
        · rcases hw with rfl | ⟨g, cw, rfl, hgw⟩
          · rw [slice_none_none] at h1; cases h1
          · simp only [Value.ownBlock, Option.some.injEq] at h1
            rcases ap with ap | ap
            · cases ap
            · exact ap (by rw [h1])
        · simp only [Value.ownBlock, Option.some.injEq] at h1
          have := (Array.getElem?_eq_some_iff.1 hg2).1
          omega

theorem filter_snoc {lg : List GR} {i : Nat} {x : GR} (hx : lg[i]? = some x) (p : GR → Bool) : (lg.take (i + 1)).filter p = (lg.take i).filter p ++ (if p x then [x] else []) := by
  obtain ⟨hk, e⟩ := List.getElem?_eq_some_iff.1 hx
  rw [List.take_succ_eq_append_getElem hk, e, List.filter_append]
  congr 1
  by_cases h : p x = true
  · simp [h]
  · simp [h]

theorem below_grown_row {w3 w w' : World} {wa : Option Addr} {n c : Nat} {xs : List Value} (h : Below w3.heap.size w3 w) (ho : w.ownsRow w3.heap.size 76 9 (.slice wa n c) n xs) (hg : w.grownBy w' (Value.slice wa n c).ownBlock) : Below w3.heap.size w3 w' :=
  h.grown hg h.size fun k hk => (ho.lt k hk).1

theorem W8.addW {w3 wr w' : World} {lg : List GR} {p : GR → Bool} {i : Nat} {wa ra wa' : Option Addr} {wc rc wc' : Nat} {x : GR} (h : W8 w3 wr lg p i wa ra wc rc) (hx : lg[i]? = some x) (hp : p x = true) (hown : w'.ownsRow w3.heap.size 76 9 (.slice wa' (((lg.take i).filter p).length + 1) wc') (((lg.take i).filter p).length + 1) (flat ((lg.take i).filter p) ++ x.cells)) (hg : wr.grownBy w' (Value.slice wa ((lg.take i).filter p).length wc).ownBlock) (hat : (Value.slice wa' (((lg.take i).filter p).length + 1) wc').ownBlock = (Value.slice wa ((lg.take i).filter p).length wc).ownBlock ∨ (Value.slice wa' (((lg.take i).filter p).length + 1) wc').ownBlock = some wr.heap.size) :
    W8 w3 w' lg p (i + 1) wa' ra wc' rc := by
  have e1 := filter_snoc hx p
  have e2 := filter_snoc hx fun x => !p x
  rw [if_pos hp] at e1
  simp only [hp, Bool.not_true, Bool.false_eq_true, if_false, List.append_nil] at e2
  have hW : GRow w' w3.heap.size wa' wc' ((lg.take (i + 1)).filter p) := by
    rw [e1]
    unfold GRow
    rw [flat_append, flat_one, List.length_append]
    exact hown
  obtain ⟨k1, k2⟩ := grown_other h.rest (gr_blk h.want) (gr_blk hW) h.ap hg hat
  exact ⟨below_grown_row h.b h.want hg, hW, by rw [e2]; exact k1, k2⟩

theorem W8.addR {w3 wr w' : World} {lg : List GR} {p : GR → Bool} {i : Nat} {wa ra ra' : Option Addr} {wc rc rc' : Nat} {x : GR} (h : W8 w3 wr lg p i wa ra wc rc) (hx : lg[i]? = some x) (hp : p x = false) (hown : w'.ownsRow w3.heap.size 76 9 (.slice ra' (((lg.take i).filter fun x => !p x).length + 1) rc') (((lg.take i).filter fun x => !p x).length + 1) (flat ((lg.take i).filter fun x => !p x) ++ x.cells)) (hg : wr.grownBy w' (Value.slice ra ((lg.take i).filter fun x => !p x).length rc).ownBlock) (hat : (Value.slice ra' (((lg.take i).filter fun x => !p x).length + 1) rc').ownBlock = (Value.slice ra ((lg.take i).filter fun x => !p x).length rc).ownBlock ∨ (Value.slice ra' (((lg.take i).filter fun x => !p x).length + 1) rc').ownBlock = some wr.heap.size) :
    W8 w3 w' lg p (i + 1) wa ra' wc rc' := by
  have e1 := filter_snoc hx p
  have e2 := filter_snoc hx fun x => !p x
  simp only [hp, Bool.false_eq_true, if_false, List.append_nil] at e1
  simp only [hp, Bool.not_false, if_true] at e2
  have hW : GRow w' w3.heap.size ra' rc' ((lg.take (i + 1)).filter fun x => !p x) := by
    rw [e2]
    unfold GRow
    rw [flat_append, flat_one, List.length_append]
    exact hown
  have hap : ra = none ∨ ra ≠ wa := by
    rcases h.ap with h1 | h1
    · rcases gr_blk h.rest with h2 | ⟨g, c, h2, _⟩
      · exact Or.inl h2
      · exact Or.inr (by rw [h1, h2]; simp)
    · exact Or.inr fun e => h1 e.symm
  obtain ⟨k1, k2⟩ := grown_other h.want (gr_blk h.rest) (gr_blk hW) hap hg hat
  refine ⟨below_grown_row h.b h.rest hg, by rw [e1]; exact k1, hW, ?_⟩
  rcases k2 with h1 | h1
  · rcases gr_blk k1 with h2 | ⟨g, c, h2, _⟩
    · exact Or.inl h2
    · exact Or.inr (by rw [h1, h2]; simp)
  · exact Or.inr fun e => h1 e.symm

theorem W8.alloc {w3 wr : World} {lg : List GR} {p : GR → Bool} {i : Nat} {wa ra : Option Addr} {wc rc : Nat} (h : W8 w3 wr lg p i wa ra wc rc) (o : Obj) : W8 w3 (wr.alloc o) lg p i wa ra wc rc :=
  ⟨h.b.alloc h.b.size _, World.ownsRow.alloc h.want _, World.ownsRow.alloc h.rest _, h.ap⟩

theorem filter_pair {α β : Type} (P : α → β → Prop) (p : α → Bool) (q : β → Bool) (hpq : ∀ a b, P a b → p a = q b) : ∀ (l : List α) (m : List β), l.length = m.length → (∀ (i : Nat) (a : α) (b : β), l[i]? = some a → m[i]? = some b → P a b) → (l.filter p).length = (m.filter q).length ∧ ∀ (i : Nat) (a : α) (b : β), (l.filter p)[i]? = some a → (m.filter q)[i]? = some b → P a b
  | [], [], _, _ => ⟨rfl, fun i a b h => by simp at h⟩
  | [], _ :: _, h, _ => by simp at h
  | _ :: _, [], h, _ => by simp at h
  | x :: l, y :: m, hl, hP => by
    have hxy : P x y := hP 0 x y rfl rfl
    obtain ⟨h1, h2⟩ := filter_pair P p q hpq l m (by simpa using hl) (fun i a b ha hb => hP (i + 1) a b (by simpa using ha) (by simpa using hb))
    cases hp : p x with
    | true =>
      have hq : q y = true := (hpq x y hxy).symm.trans hp
      rw [List.filter_cons_of_pos hp, List.filter_cons_of_pos hq]
      refine ⟨by simp [h1], fun i a b ha hb => ?_⟩
      cases i with
      | zero =>
        simp at ha hb
        subst ha hb
        exact hxy
      | succ i => exact h2 i a b (by simpa using ha) (by simpa using hb)
    | false =>
      have hq : q y = false := (hpq x y hxy).symm.trans hp
      rw [List.filter_cons_of_neg (by simp [hp]), List.filter_cons_of_neg (by simp [hq])]
      exact ⟨h1, h2⟩

theorem SO.filter {G : List JG} {seq : Int} (h : SO G seq) (p : JG → Bool) : SO (G.filter p) seq :=
  ⟨h.1.sublist (List.filter_sublist.map _), fun z hz => h.2 z ((List.filter_sublist.map _).subset hz)⟩

theorem GRow.fr {w w' : World} {B C : Nat} {ga : Option Addr} {gc : Nat} {l : List GR} (h : GRow w B ga gc l) (hf : Fr isJ C w w') : GRow w' B ga gc l :=
  own_keep h fun k c _ e => (hf.keep e (by rintro (⟨c, fr, h | h | h⟩ | ⟨es, c, h⟩) <;> simp at h)).trans e.symm
theorem GRow.below {w w' : World} {B : Nat} {ga : Option Addr} {gc : Nat} {l : List GR} (h : GRow w B ga gc l) (hb : Below w.heap.size w w') : GRow w' B ga gc l :=
  own_keep h fun k c _ e => hb.block k (Array.getElem?_eq_some_iff.1 e).1

section
variable {w0 w w' : World} {sa : Option Addr} {n pg : Nat} {l : List Pd} {sc : Nat → Pd} {pb : Nat → Nat} {G : List JG} {ga wa ma : Option Addr} {gc wc : Nat} {lg : List GR} {M : Nat → Prop}

/-- the messages of one side agree with its row -/
theorem side (hB : FBase w0 sa n pg l sc pb) (hb : Below w0.heap.size w0 w) (hA : AI sc G n) (hW : GW w w0.heap.size ga gc lg (G.map (JG.con sc))) (hk : lg.map GR.kt = G.map JG.touch) (q : Key → Bool) {B : Nat} (hR : GRow w B wa wc (lg.filter fun x => q x.key)) (hO : Out w pb (elsOf sc) M ma (G.filter fun g => q g.key)) :
    (lg.filter fun x => q x.key).length = (G.filter fun g => q g.key).length ∧ SVs w ma wa pg n (G.filter fun g => q g.key).length := by
  have hl : lg.length = G.length := by have := congrArg List.length hk; simpa using this
  obtain ⟨h1, h2⟩ := filter_pair (GV w sc) (fun x => q x.key) (fun g => q g.key) (fun a b h => by rw [h.key]) lg G hl (fun i x g hx hg => gv_of hW hk hx hg)
  exact ⟨h1, svs_of hR.view h1 h2 hO (ai_bounds hA fun g hg => (List.mem_filter.1 hg).1) (fun W hW a ha => hB.ptr (hb.trans (hW.mono hb.size)) ha)⟩
end

end Go.Proofs.Qxb6616208a
