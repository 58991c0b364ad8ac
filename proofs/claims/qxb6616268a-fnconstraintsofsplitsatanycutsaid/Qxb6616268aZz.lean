/-
  ZZconstraintsOf (12); an answer as it lies in a variable.
-/
import Derived.Test.Qxb6616268aCons
namespace Go.Proofs.Qxb6616268a
open Go.RowKit
set_option linter.unusedVariables false
set_option linter.unusedSimpArgs false

theorem Said3.out (w w0 w' : World) {u : List ByteArray} {c k : List S3} {au ac ak : Option Addr} {pu pc pk : Nat} (cs : Array Value) (h0 : Below w.heap.size w w0) (hs : w0.heap.size = w.heap.size + 1) (A : Ans w' w0.heap.size u c k au ac ak pu pc pk) (hb : Below w0.heap.size w0 w') :
    Said3 w u c k (.returned (.agg #[.bool false, .slice au u.length pu, .slice ac c.length pc, .slice ak k.length pk])) (w'.setRow w.heap.size cs) := by
  have g := grown_row w' w.heap.size cs
  have u1 := A.u.kept g (ne_low A.u (by omega))
  have c1 := A.c.kept g (ne_low A.c (by omega))
  have k1 := A.k.kept g (ne_low A.k (by omega))
  exact ⟨au, ac, ak, pu, pc, pk, rfl, ⟨own_mono u1 (by omega), own_mono c1 (by omega), own_mono k1 (by omega)⟩, below_row (h0.trans (hb.mono (by omega))) (Nat.le_refl _) _⟩

set_option maxHeartbeats 1000000 in
set_option maxRecDepth 100000 in
theorem zz_any (g n cap : Nat) (l : List Dp) (col : ByteArray) (w : World) (hl : l.length = n) (hn : n ≤ 65536) (hB : Hid (Built w g l)) (hI : Hid (∀ d, d ∈ l → DIn w d ∧ d.Ok)) :
    Calls Try.prog 12 #[.slice (some ⟨g, 0, none⟩) n cap, .string col] w fun e w' => Said3 w (uL l) (cL col l) (kL l) e w' := by
  have h0 : Below w.heap.size w (w.alloc Z34) := (Below.refl _ _).alloc (Nat.le_refl _) _
  have hsz : (w.alloc Z34).heap.size = w.heap.size + 1 := by simp
  have C := cons_any g n cap l col (w.alloc Z34) hl hn (hB.out.below h0) (fun d hd => ⟨(hI.out d hd).1.below h0, (hI.out d hd).2⟩)
  have b0 := heap_alloc_new w Z34
  have HC0 : Hid (Calls Try.prog 26 #[.slice (some ⟨g, 0, none⟩) n cap, .string col] (w.alloc Z34) fun e w' => Said3 (w.alloc Z34) (uL l) (cL col l) (kL l) e w') := C
  clear C
  go_enter Try.func12, Try.ntmps12
  go_wp2_with fail
  refine HC0.out.mono ?_
  rintro e w' ⟨au, ac, ak, pu, pc, pk, rfl, A, hb⟩
  have B1 : w'.heap[w.heap.size]? = some Z34 := (hb.block _ (by simp)).trans b0
  have HB : Hid _ := B1
  have HA : Hid _ := A
  clear HC0 B1 A b0 hsz hB hI
  generalize hU : uL l = U at *
  generalize hC : cL col l = C at *
  generalize hK : kL l = KK at *
  have HU : Hid (uL l = U) := hU
  have HC : Hid (cL col l = C) := hC
  have HK : Hid (kL l = KK) := hK
  clear hU hC hK
  go_wp2_with (first
    | (show wpList _ _ _ (⟨_, Op.store 34 (.tmp 4) (.tmp 7), _, _, _, _⟩ :: _) _ _; refine wpList_store_row rfl 34 (.tmp 4) (.tmp 7) rfl w.heap.size #[.bool false, .slice au U.length pu, .slice ac C.length pc, .slice ak KK.length pk] rfl rfl 34 #[.bool false, .slice none 0 0, .slice none 0 0, .slice none 0 0] (by exact HB.out) Try.size34 rfl (four_one _ _ _ _ _ _ _ _ _) ?_))
  obtain ⟨fs4, H34⟩ := Try.under34
  refine bodyPost_ret (v := .agg #[.bool false, .slice au U.length pu, .slice ac C.length pc, .slice ak KK.length pk]) (results_cell_row Try.results12 _ _ w.heap.size 34 _ (0, 0) _ rfl (setRow_heap _ _ _ _ 34 (0, 0) HB.out) H34 rfl Try.size34) rfl ?_
  have hfin := Said3.out w (w.alloc Z34) w' #[.bool false, .slice au U.length pu, .slice ac C.length pc, .slice ak KK.length pk] h0 (by simp) HA.out hb
  show Said3 w (uL l) (cL col l) (kL l) _ _
  rw [HU.out, HC.out, HK.out]
  exact hfin

/-- an answer in a variable -/
structure A3 (w : World) (S : Nat) (u : List ByteArray) (c k : List S3) (au ac ak : Option Addr) (pu pc pk : Nat) : Prop where
  blk : w.heap[S]? = some (.cells #[.bool false, .slice au u.length pu, .slice ac c.length pc, .slice ak k.length pk] 34 (0, 0))
  u : ∀ i x, u[i]? = some x → ∃ g, au = some ⟨g, 0, none⟩ ∧ g < w.heap.size ∧ w.cell? ⟨g, i, none⟩ = some (.string x)
  c : ∀ i x, c[i]? = some x → ∃ g, ac = some ⟨g, 0, none⟩ ∧ g < w.heap.size ∧ T3 w g (i * 3) x
  k : ∀ i x, k[i]? = some x → ∃ g, ak = some ⟨g, 0, none⟩ ∧ g < w.heap.size ∧ T3 w g (i * 3) x

theorem T3.below {w w' : World} {g off : Nat} {x : S3} (h : T3 w g off x) (hg : g < w.heap.size) (hb : Below w.heap.size w w') : T3 w' g off x := by
  have e : ∀ o, w'.cell? ⟨g, o, none⟩ = w.cell? ⟨g, o, none⟩ := fun o => hb.cell (by exact hg)
  exact ⟨(e _).trans h.1, (e _).trans h.2.1, (e _).trans h.2.2⟩

section
variable {w w' : World} {S : Nat} {u : List ByteArray} {c k : List S3} {au ac ak : Option Addr} {pu pc pk : Nat}

theorem A3.lt (h : A3 w S u c k au ac ak pu pc pk) : S < w.heap.size := (Array.getElem?_eq_some_iff.1 h.blk).1

theorem A3.below (h : A3 w S u c k au ac ak pu pc pk) (hb : Below w.heap.size w w') : A3 w' S u c k au ac ak pu pc pk := by
  refine ⟨(hb.block _ h.lt).trans h.blk, ?_, ?_, ?_⟩
  · intro i x hx
    obtain ⟨g, e, h1, h2⟩ := h.u i x hx
    exact ⟨g, e, Nat.lt_of_lt_of_le h1 hb.size, (hb.cell (by exact h1)).trans h2⟩
  · intro i x hx
    obtain ⟨g, e, h1, h2⟩ := h.c i x hx
    exact ⟨g, e, Nat.lt_of_lt_of_le h1 hb.size, h2.below h1 hb⟩
  · intro i x hx
    obtain ⟨g, e, h1, h2⟩ := h.k i x hx
    exact ⟨g, e, Nat.lt_of_lt_of_le h1 hb.size, h2.below h1 hb⟩

theorem A3.f0 (h : A3 w S u c k au ac ak pu pc pk) : w.cell? ⟨S, 0, none⟩ = some (.bool false) := cell_of_row w _ 0 _ 34 (0, 0) h.blk
theorem A3.f1 (h : A3 w S u c k au ac ak pu pc pk) : w.cell? ⟨S, 1, none⟩ = some (.slice au u.length pu) := cell_of_row w _ 1 _ 34 (0, 0) h.blk
theorem A3.f2 (h : A3 w S u c k au ac ak pu pc pk) : w.cell? ⟨S, 2, none⟩ = some (.slice ac c.length pc) := cell_of_row w _ 2 _ 34 (0, 0) h.blk
theorem A3.f3 (h : A3 w S u c k au ac ak pu pc pk) : w.cell? ⟨S, 3, none⟩ = some (.slice ak k.length pk) := cell_of_row w _ 3 _ 34 (0, 0) h.blk
end

theorem row_cell {w : World} {B e z n : Nat} {a : Option Addr} {p : Nat} {xs : List Value} (h : w.ownsRow B e z (.slice a n p) n xs) {j : Nat} {v : Value} (hv : xs[j]? = some v) : ∃ g, a = some ⟨g, 0, none⟩ ∧ g < w.heap.size ∧ w.cell? ⟨g, j, none⟩ = some v := by
  have hj : j < xs.length := (List.getElem?_eq_some_iff.1 hv).1
  have h1 := h.1
  rcases h.2 with ⟨_, h2⟩ | ⟨g, cap, cur, hv', hg, hblk, h3, h4, h5, h6⟩
  · subst h2; omega
  · injection hv' with e1 e2 e3
    refine ⟨g, e1, (Array.getElem?_eq_some_iff.1 hblk).1, ?_⟩
    rw [cell_of_row w g j cur e (0, 0) hblk]
    rw [← h6, List.getElem?_take] at hv
    by_cases hjn : j < n * z
    · rw [if_pos hjn] at hv; simpa using hv
    · rw [if_neg hjn] at hv; cases hv

theorem row_T3 {w : World} {B e n : Nat} {a : Option Addr} {p : Nat} {c : List S3} (h : w.ownsRow B e 3 (.slice a n p) n (cs3 c)) {i : Nat} {x : S3} (hx : c[i]? = some x) : ∃ g, a = some ⟨g, 0, none⟩ ∧ g < w.heap.size ∧ T3 w g (i * 3) x := by
  obtain ⟨g, e0, h0, c0⟩ := row_cell h (j := i * 3 + 0) (v := .string x.1) (by rw [cs3_get c i 0 x hx (by omega)]; rfl)
  obtain ⟨g1, e1, _, c1⟩ := row_cell h (j := i * 3 + 1) (v := .string x.2.1) (by rw [cs3_get c i 1 x hx (by omega)]; rfl)
  obtain ⟨g2, e2, _, c2⟩ := row_cell h (j := i * 3 + 2) (v := .string x.2.2) (by rw [cs3_get c i 2 x hx (by omega)]; rfl)
  rw [e0] at e1 e2
  cases e1; cases e2
  exact ⟨g, e0, h0, c0, c1, c2⟩

theorem a3_of {B : Nat} {w' : World} {u : List ByteArray} {c k : List S3} {au ac ak : Option Addr} {pu pc pk : Nat} (A : Ans w' B u c k au ac ak pu pc pk) (cs : Array Value) (hcs : cs = #[.bool false, .slice au u.length pu, .slice ac c.length pc, .slice ak k.length pk]) :
    A3 ((w'.alloc Z34).setRow w'.heap.size cs) w'.heap.size u c k au ac ak pu pc pk ∧ Below w'.heap.size w' ((w'.alloc Z34).setRow w'.heap.size cs) := by
  subst hcs
  have hb : Below w'.heap.size w' ((w'.alloc Z34).setRow w'.heap.size #[.bool false, .slice au u.length pu, .slice ac c.length pc, .slice ak k.length pk]) := below_row ((Below.refl _ _).alloc (Nat.le_refl _) _) (Nat.le_refl _) _
  refine ⟨⟨setRow_heap _ _ _ _ 34 (0, 0) (heap_alloc_new w' _), ?_, ?_, ?_⟩, hb⟩
  · intro i x hx
    obtain ⟨g, e, h1, h2⟩ := row_cell A.u (j := i) (v := .string x) (by simp [cs1, hx])
    exact ⟨g, e, Nat.lt_of_lt_of_le h1 hb.size, (hb.cell (by exact h1)).trans h2⟩
  · intro i x hx
    obtain ⟨g, e, h1, h2⟩ := row_T3 A.c hx
    exact ⟨g, e, Nat.lt_of_lt_of_le h1 hb.size, h2.below h1 hb⟩
  · intro i x hx
    obtain ⟨g, e, h1, h2⟩ := row_T3 A.k hx
    exact ⟨g, e, Nat.lt_of_lt_of_le h1 hb.size, h2.below h1 hb⟩

/-! ### the counts -/
theorem excl (d : Dp) : (d.isUnique = false ∧ d.isCheck = false ∧ d.isLookup = false) ∨ (d.isUnique = true ∧ d.isCheck = false ∧ d.isLookup = false) ∨ (d.isUnique = false ∧ d.isCheck = true ∧ d.isLookup = false) ∨ (d.isUnique = false ∧ d.isCheck = false ∧ d.isLookup = true) := by
  by_cases h : 0 < d.rn
  · exact Or.inl (t_reads h)
  · cases h1 : (d.catalog.toList == sCon)
    · cases h2 : (d.catalog.toList == sCls)
      · exact Or.inl (t_other h h1 h2)
      · obtain ⟨a, b, c⟩ := t_cls h h1 h2
        cases hu : d.isUnique
        · exact Or.inl ⟨rfl, b, c⟩
        · exact Or.inr (Or.inl ⟨rfl, b, c⟩)
    · cases h2 : (d.kind.toList == [99])
      · cases h3 : (d.kind.toList == [102])
        · obtain ⟨a, b, c⟩ := t_con h h1 h2 h3
          cases hu : d.isUnique
          · exact Or.inl ⟨rfl, b, c⟩
          · exact Or.inr (Or.inl ⟨rfl, b, c⟩)
        · exact Or.inr (Or.inr (Or.inr (t_lookup h h1 h3)))
      · exact Or.inr (Or.inr (Or.inl (t_check h h1 h2)))

theorem n_u {l : List Dp} {k : Nat} {d : Dp} (h : l[k]? = some d) : (uL (l.take (k + 1))).length = (uL (l.take k)).length + (if d.isUnique = true then 1 else 0) := by
  rw [uL_step h, List.length_append]; cases d.isUnique <;> rfl
theorem n_c {l : List Dp} {k : Nat} {d : Dp} (col : ByteArray) (h : l[k]? = some d) : (cL col (l.take (k + 1))).length = (cL col (l.take k)).length + (if d.isCheck = true then 1 else 0) := by
  rw [cL_step col h, List.length_append]; cases d.isCheck <;> rfl
theorem n_k {l : List Dp} {k : Nat} {d : Dp} (h : l[k]? = some d) : (kL (l.take (k + 1))).length = (kL (l.take k)).length + (if d.isLookup = true then 1 else 0) := by
  rw [kL_step h, List.length_append]; cases d.isLookup <;> rfl

/-! ### parts of the slice -/
theorem Deps.take {w : World} {ao : Option Addr} {l : List Dp} (h : Deps w ao l) (m : Nat) : Deps w ao (l.take m) := by
  intro i d hd
  rw [List.getElem?_take] at hd
  by_cases hi : i < m
  · rw [if_pos hi] at hd; exact h i d hd
  · rw [if_neg hi] at hd; cases hd
theorem Deps.drop {w : World} {b off : Nat} {l : List Dp} (h : Deps w (some ⟨b, off, none⟩) l) (m : Nat) : Deps w (some ⟨b, off + m * 9, none⟩) (l.drop m) := by
  intro i d hd
  rw [List.getElem?_drop] at hd
  obtain ⟨b', off', e, h1, h2, h3⟩ := h (m + i) d hd
  cases e
  refine ⟨b, off + m * 9, rfl, h1, ?_, h3⟩
  rw [Nat.add_mul, ← Nat.add_assoc] at h2
  exact h2
theorem Deps.nil (w : World) (ao : Option Addr) : Deps w ao [] := fun i d hd => by simp at hd

end Go.Proofs.Qxb6616268a
