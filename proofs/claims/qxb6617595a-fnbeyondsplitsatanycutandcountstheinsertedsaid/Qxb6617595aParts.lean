/-
  Plain lemmas: pairs, cells, worlds; the sum law. No walk.
-/
import Derived.Test.Qxb6617595aBeyond
namespace Go.Proofs.Qxb6617595a
open Go.RowKit
set_option linter.unusedVariables false

/-- one Excess, its six cells -/
def exc (p : Int × Int) : List Value := [.string ⟨#[]⟩, .string ⟨#[]⟩, .string ⟨#[]⟩, .int .i64 p.1, .int .i64 p.2, .slice none 0 0]
def excs (xs : List (Int × Int)) : List Value := (xs.map exc).flatten
/-- the pairs at the places from i on, n of them -/
def prs (z0 z1 : List Int) (i : Nat) : Nat → List (Int × Int)
  | 0 => []
  | n + 1 => prs z0 z1 i n ++ [(z0.getD (i + n) 0, z1.getD (i + n) 0)]

theorem prs_length (z0 z1 : List Int) (i n : Nat) : (prs z0 z1 i n).length = n := by
  induction n with
  | zero => rfl
  | succ n ih => simp [prs, ih]

theorem excs_snoc (xs : List (Int × Int)) (p : Int × Int) : excs (xs ++ [p]) = excs xs ++ exc p := by simp [excs]

theorem excs_get (xs : List (Int × Int)) (k j : Nat) (hk : k < xs.length) (hj : j < 6) : (excs xs)[k * 6 + j]? = (exc (xs.getD k (0, 0)))[j]? := by
  induction xs generalizing k with
  | nil => simp at hk
  | cons p xs ih =>
    have e : excs (p :: xs) = exc p ++ excs xs := by simp [excs]
    rw [e]
    cases k with
    | zero => rw [List.getElem?_append_left (by simp [exc]; omega)]; simp
    | succ k =>
      rw [List.getElem?_append_right (by simp [exc]; omega)]
      have := ih k (by simpa using hk)
      simp only [List.getD_cons_succ]
      rw [← this]
      congr 1
      simp [exc]; omega

theorem exc_oneCell (p : Int × Int) : ∀ u ∈ exc p, u.oneCell' = true := by
  intro u hu
  simp [exc] at hu
  rcases hu with rfl | rfl | rfl | rfl | rfl <;> rfl

theorem cells_new (w : World) (cs : List Value) (e : TypeId) : ∀ j u, cs[j]? = some u → (w.alloc (.cells cs.toArray e)).cell? ((⟨w.heap.size, 0, none⟩ : Addr).add j) = some u := by
  intro j u hu
  rw [Addr.add_lit, cell_of_row _ w.heap.size (0 + j) cs.toArray e (0, 0) (heap_alloc_new w _)]
  simpa using hu

theorem own_exc {w : World} {base g n cap : Nat} {xs : List (Int × Int)} (own : w.ownsRow base 29 6 (.slice (some ⟨g, 0, none⟩) n cap) n (excs xs)) (hn : xs.length = n) :
    ∀ k, k < n → isExc w g k (xs.getD k (0, 0)) := by
  intro k hk
  have h : ∀ j, j < 6 → w.cell? ⟨g, k * 6 + j, none⟩ = (exc (xs.getD k (0, 0)))[j]? := fun j hj => by
    rw [own.cellAt (k * 6 + j) (by omega), excs_get xs k j (by omega) hj]
  exact ⟨h 0 (by omega), h 1 (by omega), h 2 (by omega), h 3 (by omega), h 4 (by omega), h 5 (by omega)⟩

theorem own_below {w w' : World} {B base e size : Nat} {g n cap : Nat} {xs : List Value} (own : w.ownsRow base e size (.slice (some ⟨g, 0, none⟩) n cap) n xs) (hb : Below B w w') (hg : g < B) :
    w'.ownsRow base e size (.slice (some ⟨g, 0, none⟩) n cap) n xs := by
  refine ⟨own.1, ?_⟩
  rcases own.2 with ⟨h, _⟩ | ⟨g', cap', cur, h, hbg, hh, r⟩
  · simp at h
  · simp only [Value.slice.injEq, Option.some.injEq, Addr.mk.injEq, and_true, true_and] at h
    obtain ⟨rfl, rfl⟩ := h
    exact .inr ⟨g, cap, cur, rfl, hbg, by rw [hb.block g hg]; exact hh, r⟩

/-- What one append's round does: the row grows by one element, the elder blocks stay. -/
theorem step_rel {w wr w' : World} {o : Obj} {g cap n : Nat} {l : List (Int × Int)} (p : Int × Int) (hl : l.length = n) (hb : Below w.heap.size w wr) (hg : w.heap.size ≤ g)
    (own : w'.ownsRow w.heap.size 29 6 (.slice (some ⟨g, 0, none⟩) (n + 1) cap) (n + 1) (excs l ++ exc p)) (gr : ((wr.alloc o).drew).grownBy w' (some g)) :
    w'.ownsRow w.heap.size 29 6 (.slice (some ⟨g, 0, none⟩) (n + 1) cap) (n + 1) (excs (l ++ [p])) ∧ Below w.heap.size w w' ∧
      (∀ g' n' c' (l' : List Value), wr.ownsRow w.heap.size 29 6 (.slice (some ⟨g', 0, none⟩) n' c') n' l' → g' ≠ g → w'.ownsRow w.heap.size 29 6 (.slice (some ⟨g', 0, none⟩) n' c') n' l') := by
  refine ⟨by rw [excs_snoc]; exact own, ?_, ?_⟩
  · have h1 : Below w.heap.size w (wr.alloc o).drew := (hb.alloc hb.size o).drew
    exact h1.grown gr h1.size (by simpa using hg)
  · intro g' n' c' l' h hne
    exact ((h.alloc o).drew).kept gr (by simp [Value.ownBlock, hne])

/-- the same where the append stands in a region that does not draw -/
theorem step_rel0 {w wr w' : World} {o : Obj} {g cap n : Nat} {l : List (Int × Int)} (p : Int × Int) (hl : l.length = n) (hb : Below w.heap.size w wr) (hg : w.heap.size ≤ g)
    (own : w'.ownsRow w.heap.size 29 6 (.slice (some ⟨g, 0, none⟩) (n + 1) cap) (n + 1) (excs l ++ exc p)) (gr : (wr.alloc o).grownBy w' (some g)) :
    w'.ownsRow w.heap.size 29 6 (.slice (some ⟨g, 0, none⟩) (n + 1) cap) (n + 1) (excs (l ++ [p])) ∧ Below w.heap.size w w' ∧
      (∀ g' n' c' (l' : List Value), wr.ownsRow w.heap.size 29 6 (.slice (some ⟨g', 0, none⟩) n' c') n' l' → g' ≠ g → w'.ownsRow w.heap.size 29 6 (.slice (some ⟨g', 0, none⟩) n' c') n' l') := by
  refine ⟨by rw [excs_snoc]; exact own, ?_, ?_⟩
  · have h1 : Below w.heap.size w (wr.alloc o) := hb.alloc hb.size o
    exact h1.grown gr h1.size (by simpa using hg)
  · intro g' n' c' l' h hne
    exact (h.alloc o).kept gr (by simp [Value.ownBlock, hne])

/-- three Reports laid one behind the other -/
def box3 (wr : World) (u vL vR vW : Value) : World := ((wr.alloc (.cells #[u, vL, .slice none 0 0, .slice none 0 0] 36)).alloc (.cells #[u, vR, .slice none 0 0, .slice none 0 0] 36)).alloc (.cells #[u, vW, .slice none 0 0, .slice none 0 0] 36)

theorem box3_facts (wr : World) (u vL vR vW : Value) : Below wr.heap.size wr (box3 wr u vL vR vW) ∧ (box3 wr u vL vR vW).heap.size = wr.heap.size + 3 ∧
    (box3 wr u vL vR vW).cell? ⟨wr.heap.size, 1, none⟩ = some vL ∧ (box3 wr u vL vR vW).cell? ⟨wr.heap.size + 1, 1, none⟩ = some vR ∧ (box3 wr u vL vR vW).cell? ⟨wr.heap.size + 1 + 1, 1, none⟩ = some vW := by
  refine ⟨(((Below.refl _ _).alloc (Nat.le_refl _) _).alloc (by simp) _).alloc (by simp; omega) _, by simp [box3], ?_, ?_, ?_⟩
  · simp [box3, go_sem]
  · simp [box3, go_sem]
  · simp [box3, go_sem]

theorem ret_bool {a : Bool} (h : a = true) : Ending.returned (.bool a) = .returned (.bool true) := by rw [h]

/-! the sums -/
def psum : List (Int × Int) → Int
  | [] => 0
  | p :: l => (p.1 - p.2) + psum l

theorem psum_append (a b : List (Int × Int)) : psum (a ++ b) = psum a + psum b := by
  induction a with
  | nil => simp [psum]
  | cons p a ih => simp [psum, ih]; omega

theorem sumTo_eq (xs : List (Int × Int)) (k : Nat) (hk : k ≤ xs.length) : sumTo xs k = wrap64 (psum (xs.take k)) := by
  induction k with
  | zero => simp [sumTo, psum, wrap64]
  | succ k ih =>
    rw [sumTo, ih (by omega), List.take_succ_eq_append_getElem (by omega), psum_append]
    have : xs.getD k (0, 0) = xs[k] := by simp [List.getD, show k < xs.length by omega]
    rw [this]
    simp only [psum]
    unfold wrap64
    omega

theorem sumTo_all (xs : List (Int × Int)) (n : Nat) (h : xs.length = n) : sumTo xs n = wrap64 (psum xs) := by
  rw [sumTo_eq xs n (by omega), List.take_of_length_le (by omega)]

theorem law (l r : List (Int × Int)) (c b : Int) (k m : Nat) (hl : l.length = k) (hr : r.length = m) :
    (sumTo ((l ++ [(c, b)]) ++ r) (k + 1 + m) == wrap64 (wrap64 (sumTo l k + sumTo r m) + wrap64 (c - b))) = true := by
  rw [sumTo_all _ _ (by simp [hl, hr]; omega), sumTo_all l k hl, sumTo_all r m hr, psum_append, psum_append]
  simp only [psum]
  unfold wrap64
  rw [beq_iff_eq]
  omega

end Go.Proofs.Qxb6617595a
