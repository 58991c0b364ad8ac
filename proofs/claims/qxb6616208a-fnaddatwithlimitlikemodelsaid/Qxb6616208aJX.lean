/-
  The joiner's state with the list and the count exact; unlink, link.
-/
import Derived.Test.Qxb6616208aLinkX
import Derived.Test.Qxb6616208aForgetP
namespace Go.Proofs.Qxb6616208a
open Go.RowKit
set_option linter.unusedVariables false
set_option linter.unusedSimpArgs false

/-- the list, oldest first, and the count of parts held -/
structure EX (w : World) (j : Nat) (M : Nat → Prop) (O : List Nat) (hd : Int) : Prop where
  hr : w.cell? ⟨j, 3, none⟩ = some (.int .i64 hd)
  dl : DL w j O
  om : ∀ m ∈ O, M m
  nl : ∀ m, M m → m ∉ O → w.cell? ⟨m, 6, none⟩ = some (.pointer none) ∧ w.cell? ⟨m, 7, none⟩ = some (.pointer none)

theorem EX.cells {w w' : World} {j : Nat} {M : Nat → Prop} {O : List Nat} {hd : Int} (h : EX w j M O hd) (h3 : w'.cell? ⟨j, 3, none⟩ = w.cell? ⟨j, 3, none⟩) (h4 : w'.cell? ⟨j, 4, none⟩ = w.cell? ⟨j, 4, none⟩) (h5 : w'.cell? ⟨j, 5, none⟩ = w.cell? ⟨j, 5, none⟩) (h6 : ∀ m, M m → w'.cell? ⟨m, 6, none⟩ = w.cell? ⟨m, 6, none⟩) (h7 : ∀ m, M m → w'.cell? ⟨m, 7, none⟩ = w.cell? ⟨m, 7, none⟩) : EX w' j M O hd :=
  ⟨h3.trans h.hr, ⟨h4.trans h.dl.old, h5.trans h.dl.new, fun i m hm => (h6 m (h.om m (List.mem_of_getElem? hm))).trans (h.dl.prv i m hm), fun i m hm => (h7 m (h.om m (List.mem_of_getElem? hm))).trans (h.dl.nxt i m hm), h.dl.nd⟩, h.om,
    fun m hm hn => ⟨(h6 m hm).trans (h.nl m hm hn).1, (h7 m hm).trans (h.nl m hm hn).2⟩⟩

theorem EX.blocks {w w' : World} {j : Nat} {M : Nat → Prop} {O : List Nat} {hd : Int} (h : EX w j M O hd) (hj : w'.heap[j]? = w.heap[j]?) (hm : ∀ m, M m → w'.heap[m]? = w.heap[m]?) : EX w' j M O hd :=
  h.cells (World.cell?_of_block (by exact hj)) (World.cell?_of_block (by exact hj)) (World.cell?_of_block (by exact hj)) (fun m h => World.cell?_of_block (by exact hm m h)) (fun m h => World.cell?_of_block (by exact hm m h))

structure JX (w : World) (B j : Nat) (lim hd : Int) (O : List Nat) (M : Nat → Prop) (pb : Nat → Nat) (seq : Int) (pend : Option Nat) (G : List JG) : Prop extends JI w B j lim M pb seq pend G where
  ex : EX w j M O hd

section
variable {w w' : World} {B j : Nat} {lim hd : Int} {O : List Nat} {M : Nat → Prop} {pb : Nat → Nat} {seq : Int} {pend : Option Nat} {G : List JG}

theorem JI.jblk (h : JI w B j lim M pb seq pend G) : ∃ c, w.heap[j]? = some (.cells c 60) := by
  obtain ⟨hh, o, n, e⟩ := h.jr
  exact ⟨_, e⟩
theorem JI.mblk (h : JI w B j lim M pb seq pend G) {m : Nat} (hm : M m) : ∃ c, w.heap[m]? = some (.cells c 71) := by
  obtain ⟨sl, r, q, o, n, e, h1, h2⟩ := h.L.mr m hm
  exact ⟨_, e⟩

theorem JX.keep (h : JX w B j lim hd O M pb seq pend G) (hk : ∀ (k : Nat) (o : Obj), w.heap[k]? = some o → isJ o → w'.heap[k]? = some o) : JX w' B j lim hd O M pb seq pend G := by
  refine ⟨h.toJI.keep hk, h.ex.blocks ?_ fun m hm => ?_⟩
  · obtain ⟨c, e⟩ := h.toJI.jblk
    exact (hk _ _ e (Or.inl ⟨_, _, Or.inl rfl⟩)).trans e.symm
  · obtain ⟨c, e⟩ := h.toJI.mblk hm
    exact (hk _ _ e (Or.inl ⟨_, _, Or.inr (Or.inl rfl)⟩)).trans e.symm

theorem JX.below (h : JX w B j lim hd O M pb seq pend G) (hb : Below w.heap.size w w') : JX w' B j lim hd O M pb seq pend G :=
  h.keep fun k o e _ => (hb.block k (Array.getElem?_eq_some_iff.1 e).1).trans e

theorem JX.hd_eq (h : JX w B j lim hd O M pb seq pend G) {z : Int} (e : w.cell? ⟨j, 3, none⟩ = some (.int .i64 z)) : z = hd := by
  have := h.ex.hr
  rw [e] at this
  simpa using this

theorem JX.held (h : JX w B j lim hd O M pb seq pend G) (z : Int) : JX (w.setCell ⟨j, 3, none⟩ (.int .i64 z)) B j lim z O M pb seq pend G := by
  have ho : ∀ b o, ¬ (b = j ∧ o = 3) → (w.setCell ⟨j, 3, none⟩ (.int .i64 z)).cell? ⟨b, o, none⟩ = w.cell? ⟨b, o, none⟩ := fun b o hne => World.cell?_setCell_other _ _ _ _ fun e => hne (by cases e; exact ⟨rfl, rfl⟩)
  refine ⟨h.toJI.held z, ⟨World.cell?_setCell_same _ _ _ h.ex.hr, ⟨(ho _ _ (by omega)).trans h.ex.dl.old, (ho _ _ (by omega)).trans h.ex.dl.new, fun i m hm => (ho _ _ (by omega)).trans (h.ex.dl.prv i m hm), fun i m hm => (ho _ _ (by omega)).trans (h.ex.dl.nxt i m hm), h.ex.dl.nd⟩, h.ex.om, fun m hm hn => ⟨(ho _ _ (by omega)).trans (h.ex.nl m hm hn).1, (ho _ _ (by omega)).trans (h.ex.nl m hm hn).2⟩⟩⟩

theorem EX.setj (h : EX w j M O hd) {k : Nat} (hk : k < 3) (v : Value) : EX (w.setCell ⟨j, k, none⟩ v) j M O hd := by
  have ho : ∀ b o, o ≠ k → (w.setCell ⟨j, k, none⟩ v).cell? ⟨b, o, none⟩ = w.cell? ⟨b, o, none⟩ := fun b o hne => World.cell?_setCell_other _ _ _ _ fun e => hne (by cases e; rfl)
  exact h.cells (ho _ _ (by omega)) (ho _ _ (by omega)) (ho _ _ (by omega)) (fun m _ => ho _ _ (by omega)) (fun m _ => ho _ _ (by omega))

theorem JX.setseq (h : JX w B j lim hd O M pb seq pend G) (z : Int) : JX (w.setCell ⟨j, 1, none⟩ (.int .i64 z)) B j lim hd O M pb z pend G := ⟨h.toJI.setseq z, h.ex.setj (by omega) _⟩

theorem JX.made (h : JX w B j lim hd O M pb seq none G) {mb : Nat} (hB : B ≤ mb) (hm : MapIs w mb []) : JX (w.setCell ⟨j, 0, none⟩ (.map (some mb))) B j lim hd O M pb seq (some mb) G := ⟨h.toJI.made hB hm, h.ex.setj (by omega) _⟩

theorem EX.grown (h : JI w B j lim M pb seq pend G) (x : EX w j M O hd) {k : Nat} {ob : Obj} (hg : w.grownBy w' (some k)) (hk : w.heap[k]? = some ob) (h1 : ∀ c, ob ≠ .cells c 60) (h2 : ∀ c, ob ≠ .cells c 71) : EX w' j M O hd := by
  refine x.blocks ?_ fun m hm => ?_
  · obtain ⟨c, e⟩ := h.jblk
    refine hg.block _ (Array.getElem?_eq_some_iff.1 e).1 fun e2 => ?_
    cases e2
    rw [hk] at e
    exact h1 c (Option.some.inj e)
  · obtain ⟨c, e⟩ := h.mblk hm
    refine hg.block _ (Array.getElem?_eq_some_iff.1 e).1 fun e2 => ?_
    cases e2
    rw [hk] at e
    exact h2 c (Option.some.inj e)

theorem JX.grown_q (h : JX w B j lim hd O M pb seq pend G) {q : Nat} {c : Array Value} (hg : w.grownBy w' (some q)) (hq : w.heap[q]? = some (.cells c 32 (0, 0))) (hne : ∀ g ∈ G, g.q ≠ q) : JX w' B j lim hd O M pb seq pend G :=
  ⟨h.toJI.grown_q hg hq hne, EX.grown h.toJI h.ex hg hq (by simp) (by simp)⟩

theorem JX.erase (h : JX w B j lim hd O M pb seq pend G) {i mb e : Nat} {g : JG} (hi : G[i]? = some g) {E : List (Key × Nat)} (hpend : pend = some mb) (hB : B ≤ mb) (hp : E.Perm (G.map JG.ent)) (he : E[e]? = some (g.key, g.m)) (hm0 : ∃ es c, w.heap[mb]? = some (.map es c)) (hg : w.grownBy w' (some mb)) (hm : MapIs w' mb (E.eraseIdx e)) : JX w' B j lim hd O M pb seq pend (G.eraseIdx i) := by
  refine ⟨h.toJI.erase hi hpend hB hp he hm0 hg hm, ?_⟩
  obtain ⟨es, c, hmb⟩ := hm0
  exact EX.grown h.toJI h.ex hg hmb (by simp) (by simp)

theorem EX.setm0 (h : EX w j M O hd) (m : Nat) (v : Value) (hne : m ≠ j) : EX (w.setCell ⟨m, 0, none⟩ v) j M O hd := by
  have ho : ∀ b o, o ≠ 0 → (w.setCell ⟨m, 0, none⟩ v).cell? ⟨b, o, none⟩ = w.cell? ⟨b, o, none⟩ := fun b o hne => World.cell?_setCell_other _ _ _ _ fun e => hne (by cases e; rfl)
  exact h.cells (ho _ _ (by omega)) (ho _ _ (by omega)) (ho _ _ (by omega)) (fun m _ => ho _ _ (by omega)) (fun m _ => ho _ _ (by omega))

theorem JX.setm0 (h : JX w B j lim hd O M pb seq pend G) {m : Nat} (hm : M m) (hne : ∀ g ∈ G, g.m ≠ m) (v : Value) : JX (w.setCell ⟨m, 0, none⟩ v) B j lim hd O M pb seq pend G :=
  ⟨h.toJI.setm0 hm hne v, h.ex.setm0 m v (h.L.ne hm)⟩

theorem JX.add {w1 : World} (h : JX w B j lim hd O M pb seq pend G) {i : Nat} {g : JG} (hi : G[i]? = some g) {s q' c' : Nat}
    (own : w1.ownsRow B 32 1 (.slice (some ⟨q', 0, none⟩) (g.ix.length + 1) c') (g.ix.length + 1) (ptrs pb g.ix ++ [.pointer (some ⟨pb s, 0, none⟩)])) (gr : w.grownBy w1 (some g.q)) (hat : q' = g.q ∨ q' = w.heap.size) :
    JX (w1.setCell ⟨g.m, 0, none⟩ (.slice (some ⟨q', 0, none⟩) (g.ix.length + 1) c')) B j lim hd O M pb seq pend (G.set i { g with q := q', cap := c', ix := g.ix ++ [s] }) ∧ Fr isJ B w (w1.setCell ⟨g.m, 0, none⟩ (.slice (some ⟨q', 0, none⟩) (g.ix.length + 1) c')) ∧ (∃ o n, w1.heap[g.m]? = some (mrow g.sl g.key.ref g.sq o n)) := by
  obtain ⟨h1, h2, h3⟩ := h.toJI.add hi own gr hat
  have hgG := List.mem_of_getElem? hi
  obtain ⟨hBq, cq, hq⟩ := (h.ok g hgG).blk
  exact ⟨⟨h1, (EX.grown h.toJI h.ex gr hq (by simp) (by simp)).setm0 _ _ (h.L.ne (h.ok g hgG).inM)⟩, h2, h3⟩

theorem JX.put {mb m q cap : Nat} {sq : Int} {k : Key} (h : JX w B j lim hd O M pb seq (some mb) G) {E : List (Key × Nat)} (hm0 : ∃ es c, w.heap[mb]? = some (.map es c)) (hBm : B ≤ mb) (hp : E.Perm (G.map JG.ent)) (hg : w.grownBy w' (some mb)) (hm : MapIs w' mb (E ++ [(k, m)])) (hk : k.Ok) (hnew : ∀ g ∈ G, g.key ≠ k)
    (hrow : w.heap[m]? = some (mrow (.slice (some ⟨q, 0, none⟩) 0 cap) k.ref sq none none)) (hBx : B ≤ m) (hnM : ¬ M m) (hqs : ∀ g ∈ G, g.q ≠ q) (own : w.ownsRow B 32 1 (.slice (some ⟨q, 0, none⟩) 0 cap) 0 []) :
    JX w' B j lim hd O (fun x => M x ∨ x = m) pb seq (some mb) (G ++ [⟨k, m, q, cap, [], sq⟩]) ∧ Fr isJ B w w' := by
  obtain ⟨h1, h2⟩ := h.toJI.put hm0 hBm hp hg hm hk hnew hrow hBx hnM hqs own
  obtain ⟨es, c, hmb⟩ := hm0
  have hE := EX.grown h.toJI h.ex hg hmb (by simp) (by simp)
  have hr' : w'.heap[m]? = some (mrow (.slice (some ⟨q, 0, none⟩) 0 cap) k.ref sq none none) := (hg.block _ (Array.getElem?_eq_some_iff.1 hrow).1 fun e2 => by
    cases e2
    rw [hmb] at hrow
    simp [mrow] at hrow).trans hrow
  refine ⟨⟨h1, ⟨hE.hr, hE.dl, fun x hx => Or.inl (hE.om x hx), fun x hx hn => ?_⟩⟩, h2⟩
  rcases hx with hx | rfl
  · exact hE.nl x hx hn
  · exact ⟨cell_of_row _ _ _ _ _ _ hr', cell_of_row _ _ _ _ _ _ hr'⟩

theorem JX.re {O' : List Nat} {hd' : Int} (h : JX w B j lim hd O M pb seq pend G) (R : Relinked w w' j M) (e : EX w' j M O' hd') : JX w' B j lim hd' O' M pb seq pend G := ⟨h.toJI.re R, e⟩
end

theorem ptrO_none : ptrO none = .pointer none := rfl
theorem ptrO_some (a : Nat) : ptrO (some a) = .pointer (some ⟨a, 0, none⟩) := rfl

theorem erase_idx {O : List Nat} (hn : O.Nodup) {i m : Nat} (hi : O[i]? = some m) : O.erase m = O.eraseIdx i := by
  have h1 : O.idxOf m = i := by
    have hm := List.mem_of_getElem? hi
    have hl := List.idxOf_lt_length_iff.2 hm
    have h2 : O[O.idxOf m]? = some m := by rw [List.getElem?_eq_getElem hl]; simp
    exact nd_inj hn h2 hi
  rw [List.erase_eq_eraseIdx_of_idxOf h1]

theorem EX.unlinked {w w' : World} {j i m : Nat} {M : Nat → Prop} {O : List Nat} {hd : Int} (h : EX w j M O hd) (hi : O[i]? = some m)
    (e3 : w'.cell? ⟨j, 3, none⟩ = w.cell? ⟨j, 3, none⟩)
    (e4 : w'.cell? ⟨j, 4, none⟩ = if prev O i = none then some (ptrO O[i + 1]?) else w.cell? ⟨j, 4, none⟩)
    (e5 : w'.cell? ⟨j, 5, none⟩ = if O[i + 1]? = none then some (ptrO (prev O i)) else w.cell? ⟨j, 5, none⟩)
    (e6 : ∀ x, M x → x ≠ m → w'.cell? ⟨x, 6, none⟩ = if O[i + 1]? = some x then some (ptrO (prev O i)) else w.cell? ⟨x, 6, none⟩)
    (e7 : ∀ x, M x → x ≠ m → w'.cell? ⟨x, 7, none⟩ = if prev O i = some x then some (ptrO O[i + 1]?) else w.cell? ⟨x, 7, none⟩)
    (m6 : w'.cell? ⟨m, 6, none⟩ = some (.pointer none)) (m7 : w'.cell? ⟨m, 7, none⟩ = some (.pointer none)) : EX w' j M (O.erase m) hd := by
  rw [erase_idx h.dl.nd hi]
  refine ⟨e3.trans h.hr, h.dl.unlink hi e4 e5 (fun x hx hne => e6 x (h.om x hx) hne) (fun x hx hne => e7 x (h.om x hx) hne), fun x hx => h.om x (mem_erase_idx hx), fun x hx hn => ?_⟩
  by_cases e : x = m
  · subst e; exact ⟨m6, m7⟩
  · have hn' : x ∉ O := fun hO => hn (by
      rw [← erase_idx h.dl.nd hi]
      exact (List.mem_erase_of_ne e).2 hO)
    rw [e6 x hx e, e7 x hx e, if_neg (fun e1 => hn' (List.mem_of_getElem? e1)), if_neg (fun e1 => by
      unfold prev at e1
      split at e1
      · cases e1
      · exact hn' (List.mem_of_getElem? e1))]
    exact h.nl x hx hn'

theorem EX.unlinked0 {w w' : World} {j m : Nat} {M : Nat → Prop} {O : List Nat} {hd : Int} (h : EX w j M O hd) (hm : m ∉ O) (hE : Eff w w' [(m, 7, .pointer none), (m, 6, .pointer none)]) (hMm : M m) : EX w' j M (O.erase m) hd := by
  rw [List.erase_of_not_mem hm]
  have h67 := h.nl m hMm hm
  refine h.cells ?_ ?_ ?_ (fun x hx => ?_) (fun x hx => ?_)
  · rw [hE.cells]; simp [eff]
  · rw [hE.cells]; simp [eff]
  · rw [hE.cells]; simp [eff]
  · rw [hE.cells]
    by_cases e : x = m
    · subst e; simp [eff, h67.1]
    · simp [eff, e]
  · rw [hE.cells]
    by_cases e : x = m
    · subst e; simp [eff, h67.2]
    · simp [eff, e]

theorem unlink_x (j m : Nat) (M : Nat → Prop) (O : List Nat) (hd : Int) (w : World) (hL : Hid (LInv w j M)) (hm : Hid (M m)) (hX : Hid (EX w j M O hd)) :
    Calls Try.prog 43 #[.pointer (some ⟨j, 0, none⟩), .pointer (some ⟨m, 0, none⟩)] w fun e w' => e = .returned (.tuple #[]) ∧ Relinked w w' j M ∧ EX w' j M (O.erase m) hd := by
  have X := hX.out
  obtain ⟨oj, nj, j4, j5, poj, pnj, fj4, fj5⟩ := hL.out.j_cells
  obtain ⟨om, nm, m6, m7, pom, pnm, fm6, fm7⟩ := hL.out.m_cells hm.out
  by_cases hmO : m ∈ O
  · obtain ⟨i, hi⟩ := List.mem_iff_getElem?.1 hmO
    have hil := (List.getElem?_eq_some_iff.1 hi).1
    have q6 := X.dl.prv i m hi
    have q7 := X.dl.nxt i m hi
    rw [m6] at q6
    rw [m7] at q7
    have hjM : ∀ x, M x → x ≠ j := fun x hx => hL.out.ne hx
    by_cases h0 : i = 0
    · subst h0
      have hp : prev O 0 = none := rfl
      have q4 := X.dl.old
      rw [j4, hi] at q4
      rw [hp] at q6
      simp only [ptrO, Option.map_some, Option.map_none, Option.some.injEq, Value.pointer.injEq] at q4 q6
      subst q4 q6
      by_cases h1 : 1 < O.length
      · have hb := List.getElem?_eq_getElem h1
        obtain ⟨b, hbe⟩ : ∃ b, O[1]? = some b := ⟨_, hb⟩
        have hMb := X.om b (List.mem_of_getElem? hbe)
        have hne : b ≠ m := fun e => by subst e; have := nd_inj X.dl.nd hbe hi; omega
        rw [Nat.zero_add, hbe] at q7
        simp only [ptrO, Option.map_some, Option.some.injEq, Value.pointer.injEq] at q7
        subst q7
        refine (unlinkx_A2D2 j m M w hL hm.out b hMb hne nj j4 j5 poj pnj fj4 fj5 m6 m7 pom pnm fm6 fm7).mono ?_
        rintro e w' ⟨rfl, R, hE⟩
        refine ⟨rfl, R, X.unlinked hi ?_ ?_ ?_ (fun x hx hxm => ?_) (fun x hx hxm => ?_) ?_ ?_⟩
        · rw [hE.cells]; simp [eff]
        · rw [hE.cells, hp, Nat.zero_add, hbe]; simp [eff, ptrO]
        · rw [hE.cells, Nat.zero_add, hbe]; simp [eff]
        · rw [hE.cells, hp, Nat.zero_add, hbe]
          by_cases e : x = b
          · subst e; simp [eff, hxm, ptrO]
          · simp [eff, hxm, e, fun h => e (Eq.symm h)]
            intro h; exact absurd h.symm e
        · rw [hE.cells, hp]; simp [eff, hxm]
        · rw [hE.cells]; simp [eff]
        · rw [hE.cells]; simp [eff]
      · have hb : O[1]? = none := List.getElem?_eq_none (by omega)
        rw [Nat.zero_add, hb] at q7
        have q5 := X.dl.new
        have hl1 : O.length = 1 := by omega
        rw [j5, hl1] at q5
        have hpl : prev O 1 = some m := by simpa [prev] using hi
        rw [hpl] at q5
        simp only [ptrO, Option.map_some, Option.map_none, Option.some.injEq, Value.pointer.injEq] at q7 q5
        subst q7 q5
        refine (unlinkx_A2C2 j m M w hL hm.out j4 j5 poj pnj fj4 fj5 m6 m7 pom pnm fm6 fm7).mono ?_
        rintro e w' ⟨rfl, R, hE⟩
        refine ⟨rfl, R, X.unlinked hi ?_ ?_ ?_ (fun x hx hxm => ?_) (fun x hx hxm => ?_) ?_ ?_⟩
        · rw [hE.cells]; simp [eff]
        · rw [hE.cells, hp, Nat.zero_add, hb]; simp [eff, ptrO]
        · rw [hE.cells, Nat.zero_add, hb]; simp [eff, ptrO, hp]
        · rw [hE.cells, Nat.zero_add, hb]; simp [eff, hxm]
        · rw [hE.cells, hp]; simp [eff, hxm]
        · rw [hE.cells]; simp [eff]
        · rw [hE.cells]; simp [eff]
    · obtain ⟨a, hae⟩ : ∃ a, O[i - 1]? = some a := ⟨_, List.getElem?_eq_getElem (by omega)⟩
      have hp : prev O i = some a := by unfold prev; rw [if_neg h0, hae]
      have hMa := X.om a (List.mem_of_getElem? hae)
      have hnea : a ≠ m := fun e => by subst e; have := nd_inj X.dl.nd hae hi; omega
      rw [hp] at q6
      simp only [ptrO, Option.map_some, Option.some.injEq, Value.pointer.injEq] at q6
      subst q6
      by_cases h1 : i + 1 < O.length
      · obtain ⟨b, hbe⟩ : ∃ b, O[i + 1]? = some b := ⟨_, List.getElem?_eq_getElem h1⟩
        have hMb := X.om b (List.mem_of_getElem? hbe)
        have hneb : b ≠ m := fun e => by subst e; have := nd_inj X.dl.nd hbe hi; omega
        rw [hbe] at q7
        simp only [ptrO, Option.map_some, Option.some.injEq, Value.pointer.injEq] at q7
        subst q7
        refine (unlinkx_B2D2 j m M w hL hm.out a hMa hnea b hMb hneb oj nj j4 j5 poj pnj fj4 fj5 m6 m7 pom pnm fm6 fm7).mono ?_
        rintro e w' ⟨rfl, R, hE⟩
        refine ⟨rfl, R, X.unlinked hi ?_ ?_ ?_ (fun x hx hxm => ?_) (fun x hx hxm => ?_) ?_ ?_⟩
        · rw [hE.cells]; simp [eff]
        · rw [hE.cells, hp]; simp [eff]
        · rw [hE.cells, hbe]; simp [eff]
        · rw [hE.cells, hp, hbe]
          by_cases e : x = b
          · subst e; simp [eff, hxm, ptrO]
          · simp [eff, hxm, e]
            intro h; exact absurd h.symm e
        · rw [hE.cells, hp, hbe]
          by_cases e : x = a
          · subst e; simp [eff, hxm, ptrO]
          · simp [eff, hxm, e]
            intro h; exact absurd h.symm e
        · rw [hE.cells]; simp [eff]
        · rw [hE.cells]; simp [eff]
      · have hb : O[i + 1]? = none := List.getElem?_eq_none (by omega)
        rw [hb] at q7
        have q5 := X.dl.new
        have hl1 : O.length = i + 1 := by omega
        rw [j5, hl1] at q5
        have hpl : prev O (i + 1) = some m := by simpa [prev] using hi
        rw [hpl] at q5
        simp only [ptrO, Option.map_some, Option.map_none, Option.some.injEq, Value.pointer.injEq] at q7 q5
        subst q7 q5
        refine (unlinkx_B2C2 j m M w hL hm.out a hMa hnea oj j4 j5 poj pnj fj4 fj5 m6 m7 pom pnm fm6 fm7).mono ?_
        rintro e w' ⟨rfl, R, hE⟩
        refine ⟨rfl, R, X.unlinked hi ?_ ?_ ?_ (fun x hx hxm => ?_) (fun x hx hxm => ?_) ?_ ?_⟩
        · rw [hE.cells]; simp [eff]
        · rw [hE.cells, hp]; simp [eff]
        · rw [hE.cells, hb, hp]; simp [eff, ptrO]
        · rw [hE.cells, hb]; simp [eff, hxm]
        · rw [hE.cells, hp, hb]
          by_cases e : x = a
          · subst e; simp [eff, hxm, ptrO]
          · simp [eff, hxm, e]
            intro h; exact absurd h.symm e
        · rw [hE.cells]; simp [eff]
        · rw [hE.cells]; simp [eff]
  · have h67 := X.nl m hm.out hmO
    rw [m6, m7] at h67
    simp only [Option.some.injEq, Value.pointer.injEq] at h67
    obtain ⟨rfl, rfl⟩ := h67
    by_cases hO : O = []
    · have q4 := X.dl.old
      have q5 := X.dl.new
      rw [j4, hO] at q4
      rw [j5, hO] at q5
      simp only [prev, ptrO, List.length_nil, List.getElem?_nil, if_true, Option.map_none, Option.some.injEq, Value.pointer.injEq] at q4 q5
      subst q4 q5
      refine (unlinkx_A1C1 j m M w hL hm.out j4 j5 poj pnj fj4 fj5 m6 m7 pom pnm fm6 fm7).mono ?_
      rintro e w' ⟨rfl, R, hE⟩
      exact ⟨rfl, R, X.unlinked0 hmO hE hm.out⟩
    · have hl := List.length_pos_iff.2 hO
      obtain ⟨a, hae⟩ : ∃ a, O[0]? = some a := ⟨_, List.getElem?_eq_getElem hl⟩
      obtain ⟨b, hbe⟩ : ∃ b, O[O.length - 1]? = some b := ⟨_, List.getElem?_eq_getElem (by omega)⟩
      have hp : prev O O.length = some b := by unfold prev; rw [if_neg (by omega), hbe]
      have ha := List.mem_of_getElem? hae
      have hb := List.mem_of_getElem? hbe
      have q4 := X.dl.old
      have q5 := X.dl.new
      rw [j4, hae] at q4
      rw [j5, hp] at q5
      simp only [ptrO, Option.map_some, Option.some.injEq, Value.pointer.injEq] at q4 q5
      subst q4 q5
      refine (unlinkx_A3C3 j m M w hL hm.out a (X.om a ha) (fun e => hmO (e ▸ ha)) b (X.om b hb) (fun e => hmO (e ▸ hb)) j4 j5 poj pnj fj4 fj5 m6 m7 pom pnm fm6 fm7).mono ?_
      rintro e w' ⟨rfl, R, hE⟩
      exact ⟨rfl, R, X.unlinked0 hmO hE hm.out⟩

theorem link_x (j m : Nat) (M : Nat → Prop) (O : List Nat) (hd : Int) (w : World) (hL : Hid (LInv w j M)) (hm : Hid (M m)) (hX : Hid (EX w j M O hd)) (hmO : m ∉ O) :
    Calls Try.prog 44 #[.pointer (some ⟨j, 0, none⟩), .pointer (some ⟨m, 0, none⟩)] w fun e w' => e = .returned (.tuple #[]) ∧ Relinked w w' j M ∧ EX w' j M (O ++ [m]) hd := by
  have X := hX.out
  have h67 := X.nl m hm.out hmO
  have hmj : m ≠ j := hL.out.ne hm.out
  have q5 := X.dl.new
  have hin : ∀ x, M x → x ∉ O ++ [m] → x ≠ m ∧ x ∉ O := fun x hx hn => ⟨fun e => hn (by simp [e]), fun e => hn (by simp [e])⟩
  have hom : ∀ x ∈ O ++ [m], M x := fun x hx => by
    rcases List.mem_append.1 hx with h | h
    · exact X.om x h
    · simp at h; subst h; exact hm.out
  by_cases hO : O = []
  · have hp : prev O O.length = none := by subst hO; rfl
    rw [hp] at q5
    refine (linkx_none j m M w hL hm q5).mono ?_
    rintro e w' ⟨rfl, R, hE⟩
    refine ⟨rfl, R, ⟨?_, X.dl.link hmO ?_ ?_ (fun x hx => ?_) (fun x hx => ?_) ?_ ?_, hom, fun x hx hn => ?_⟩⟩
    · rw [hE.cells]; simp [eff, X.hr]
    · rw [hE.cells, if_pos hO]; simp [eff, ptrO]
    · rw [hE.cells]; simp [eff, ptrO]
    · subst hO; cases hx
    · subst hO; cases hx
    · rw [hE.cells, hp]; simp [eff, ptrO]
    · rw [hE.cells]; simp [eff, ptrO, h67.2]
    · obtain ⟨h1, h2⟩ := hin x hx hn
      rw [hE.cells, hE.cells]
      simp [eff, h1, X.nl x hx h2]
  · have hl := List.length_pos_iff.2 hO
    obtain ⟨a, hae⟩ : ∃ a, O[O.length - 1]? = some a := ⟨_, List.getElem?_eq_getElem (by omega)⟩
    have hp : prev O O.length = some a := by unfold prev; rw [if_neg (by omega), hae]
    have haO := List.mem_of_getElem? hae
    have ham : a ≠ m := fun e => hmO (e ▸ haO)
    have hma : m ≠ a := fun e => ham e.symm
    rw [hp] at q5
    refine (linkx_some j m a M w hL hm (X.om a haO) q5).mono ?_
    rintro e w' ⟨rfl, R, hE⟩
    refine ⟨rfl, R, ⟨?_, X.dl.link hmO ?_ ?_ (fun x hx => ?_) (fun x hx => ?_) ?_ ?_, hom, fun x hx hn => ?_⟩⟩
    · rw [hE.cells]; simp [eff, X.hr]
    · rw [hE.cells, if_neg hO]; simp [eff]
    · rw [hE.cells]; simp [eff, ptrO]
    · have hxm : x ≠ m := fun e => hmO (e ▸ hx)
      rw [hE.cells]; simp [eff, hxm]
    · have hxm : x ≠ m := fun e => hmO (e ▸ hx)
      rw [hE.cells, hp]
      by_cases e : x = a
      · subst e; simp [eff, hxm, ptrO]
      · simp [eff, hxm, e]
        intro h; exact absurd h.symm e
    · rw [hE.cells, hp]; simp [eff, ptrO]
    · rw [hE.cells]; simp [eff, ptrO, h67.2, hma]
    · obtain ⟨h1, h2⟩ := hin x hx hn
      have h3 : x ≠ a := fun e => h2 (e ▸ haO)
      rw [hE.cells, hE.cells]
      simp [eff, h1, h3, X.nl x hx h2]

end Go.Proofs.Qxb6616208a
