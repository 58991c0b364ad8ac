/-
  The joiner's list, exactly: link (44), unlink (43), what they leave.
-/
import Derived.Test.Qxb6616208aInOrd
namespace Go.Proofs.Qxb6616208a
open Go.RowKit
set_option linter.unusedVariables false
set_option linter.unusedSimpArgs false

/-- a row of stores, the last one first: what a cell reads behind them -/
def eff (w : World) : List (Nat × Nat × Value) → Nat → Nat → Option Value
  | [], b, o => w.cell? ⟨b, o, none⟩
  | (b', o', v) :: L, b, o => if b = b' ∧ o = o' then some v else eff w L b o

structure Eff (w w' : World) (L : List (Nat × Nat × Value)) : Prop where
  cells : ∀ b o, w'.cell? ⟨b, o, none⟩ = eff w L b o
  dom : ∀ b o, (w'.cell? ⟨b, o, none⟩).isSome = (w.cell? ⟨b, o, none⟩).isSome

theorem Eff.refl (w : World) : Eff w w [] := ⟨fun _ _ => rfl, fun _ _ => rfl⟩
theorem Eff.drew {w w' : World} {L : List (Nat × Nat × Value)} (h : Eff w w' L) : Eff w w'.drew L := ⟨fun b o => h.cells b o, fun b o => h.dom b o⟩
theorem Eff.set {w w' : World} {L : List (Nat × Nat × Value)} (h : Eff w w' L) {b o : Nat} {u : Value} (hu : w.cell? ⟨b, o, none⟩ = some u) (v : Value) : Eff w (w'.setCell ⟨b, o, none⟩ v) ((b, o, v) :: L) := by
  have hs : (w'.cell? ⟨b, o, none⟩).isSome = true := by rw [h.dom, hu]; rfl
  obtain ⟨u', hu'⟩ := Option.isSome_iff_exists.1 hs
  refine ⟨fun b' o' => ?_, fun b' o' => ?_⟩
  · unfold eff
    by_cases e : b' = b ∧ o' = o
    · obtain ⟨rfl, rfl⟩ := e
      rw [World.cell?_setCell_same _ _ _ hu', if_pos ⟨rfl, rfl⟩]
    · rw [if_neg e, World.cell?_setCell_other _ _ _ _ (fun e2 => e (by cases e2; exact ⟨rfl, rfl⟩))]
      exact h.cells b' o'
  · by_cases e : b' = b ∧ o' = o
    · obtain ⟨rfl, rfl⟩ := e
      rw [World.cell?_setCell_same _ _ _ hu', hu]
      rfl
    · rw [World.cell?_setCell_other _ _ _ _ (fun e2 => e (by cases e2; exact ⟨rfl, rfl⟩))]
      exact h.dom b' o'

/-- the one ahead -/
def prev (O : List Nat) (i : Nat) : Option Nat := if i = 0 then none else O[i - 1]?

structure DL (w : World) (j : Nat) (O : List Nat) : Prop where
  old : w.cell? ⟨j, 4, none⟩ = some (ptrO O[0]?)
  new : w.cell? ⟨j, 5, none⟩ = some (ptrO (prev O O.length))
  prv : ∀ (i m : Nat), O[i]? = some m → w.cell? ⟨m, 6, none⟩ = some (ptrO (prev O i))
  nxt : ∀ (i m : Nat), O[i]? = some m → w.cell? ⟨m, 7, none⟩ = some (ptrO O[i + 1]?)
  nd : O.Nodup

theorem nd_inj {O : List Nat} (h : O.Nodup) {i k m : Nat} (hi : O[i]? = some m) (hk : O[k]? = some m) : i = k := by
  obtain ⟨h1, e1⟩ := List.getElem?_eq_some_iff.1 hi
  obtain ⟨h2, e2⟩ := List.getElem?_eq_some_iff.1 hk
  rcases Nat.lt_trichotomy i k with h3 | h3 | h3
  · exact absurd (e1.trans e2.symm) (List.pairwise_iff_getElem.1 h i k h1 h2 h3)
  · exact h3
  · exact absurd (e2.trans e1.symm) (List.pairwise_iff_getElem.1 h k i h2 h1 h3)

theorem get_erase2 (O : List Nat) (i k : Nat) : (O.eraseIdx i)[k]? = if k < i then O[k]? else O[k + 1]? := by
  rw [List.getElem?_eraseIdx]

theorem prev_erase (O : List Nat) (i k : Nat) (hi : i < O.length) : prev (O.eraseIdx i) k = if k ≤ i then prev O k else prev O (k + 1) := by
  unfold prev
  by_cases h0 : k = 0
  · subst h0; simp
  · rw [if_neg h0, get_erase2]
    by_cases h1 : k ≤ i
    · rw [if_pos (show k - 1 < i by omega), if_pos h1, if_neg h0]
    · rw [if_neg (show ¬ k - 1 < i by omega), if_neg h1, if_neg (show ¬ k + 1 = 0 by omega)]
      congr 1
      omega

theorem DL.unlink {w w' : World} {j i m : Nat} {O : List Nat} (h : DL w j O) (hi : O[i]? = some m)
    (e4 : w'.cell? ⟨j, 4, none⟩ = if prev O i = none then some (ptrO O[i + 1]?) else w.cell? ⟨j, 4, none⟩)
    (e5 : w'.cell? ⟨j, 5, none⟩ = if O[i + 1]? = none then some (ptrO (prev O i)) else w.cell? ⟨j, 5, none⟩)
    (e6 : ∀ x ∈ O, x ≠ m → w'.cell? ⟨x, 6, none⟩ = if O[i + 1]? = some x then some (ptrO (prev O i)) else w.cell? ⟨x, 6, none⟩)
    (e7 : ∀ x ∈ O, x ≠ m → w'.cell? ⟨x, 7, none⟩ = if prev O i = some x then some (ptrO O[i + 1]?) else w.cell? ⟨x, 7, none⟩) : DL w' j (O.eraseIdx i) := by
  have hil := (List.getElem?_eq_some_iff.1 hi).1
  have hlen : (O.eraseIdx i).length = O.length - 1 := by rw [List.length_eraseIdx, if_pos hil]
  refine ⟨?_, ?_, fun k x hx => ?_, fun k x hx => ?_, h.nd.sublist (List.eraseIdx_sublist _ _)⟩
  · rw [e4, get_erase2]
    by_cases h0 : i = 0
    · subst h0; simp [prev]
    · have h1 : ¬ prev O i = none := by
        unfold prev
        rw [if_neg h0, List.getElem?_eq_getElem (by omega)]
        simp
      rw [if_pos (show 0 < i by omega), if_neg h1, h.old]
  · rw [e5, hlen, prev_erase O i _ hil]
    by_cases h1 : i + 1 = O.length
    · rw [if_pos (List.getElem?_eq_none (by omega)), if_pos (by omega)]
      congr 3
      omega
    · rw [if_neg (by rw [List.getElem?_eq_getElem (by omega)]; simp), if_neg (by omega), h.new]
      congr 3
      omega
  · rw [get_erase2] at hx
    rw [prev_erase O i k hil]
    by_cases hk : k < i
    · rw [if_pos hk] at hx
      rw [if_pos (by omega), e6 x (List.mem_of_getElem? hx) (fun e => by subst e; have := nd_inj h.nd hx hi; omega), if_neg (fun e => by have := nd_inj h.nd hx e; omega), h.prv k x hx]
    · rw [if_neg hk] at hx
      rw [e6 x (List.mem_of_getElem? hx) (fun e => by subst e; have := nd_inj h.nd hx hi; omega)]
      by_cases hki : k = i
      · subst hki
        rw [if_pos hx, if_pos (Nat.le_refl _)]
      · rw [if_neg (fun e => by have := nd_inj h.nd hx e; omega), if_neg (by omega), h.prv (k + 1) x hx]
  · rw [get_erase2] at hx
    rw [get_erase2]
    by_cases hk : k < i
    · rw [if_pos hk] at hx
      rw [e7 x (List.mem_of_getElem? hx) (fun e => by subst e; have := nd_inj h.nd hx hi; omega)]
      by_cases hki : k + 1 = i
      · subst hki
        rw [if_pos (by simpa [prev] using hx), if_neg (by omega)]
      · rw [if_neg, if_pos (by omega), h.nxt k x hx]
        unfold prev
        rw [if_neg (by omega)]
        intro e
        have := nd_inj h.nd hx e
        omega
    · rw [if_neg hk] at hx
      rw [e7 x (List.mem_of_getElem? hx) (fun e => by subst e; have := nd_inj h.nd hx hi; omega), if_neg, if_neg (by omega), h.nxt (k + 1) x hx]
      unfold prev
      by_cases h0 : i = 0
      · rw [if_pos h0]; simp
      · rw [if_neg h0]
        intro e
        have := nd_inj h.nd hx e
        omega

theorem DL.link {w w' : World} {j m : Nat} {O : List Nat} (h : DL w j O) (hm : m ∉ O)
    (e4 : w'.cell? ⟨j, 4, none⟩ = if O = [] then some (ptrO (some m)) else w.cell? ⟨j, 4, none⟩)
    (e5 : w'.cell? ⟨j, 5, none⟩ = some (ptrO (some m)))
    (e6 : ∀ x ∈ O, w'.cell? ⟨x, 6, none⟩ = w.cell? ⟨x, 6, none⟩)
    (e7 : ∀ x ∈ O, w'.cell? ⟨x, 7, none⟩ = if prev O O.length = some x then some (ptrO (some m)) else w.cell? ⟨x, 7, none⟩)
    (m6 : w'.cell? ⟨m, 6, none⟩ = some (ptrO (prev O O.length))) (m7 : w'.cell? ⟨m, 7, none⟩ = some (ptrO none)) : DL w' j (O ++ [m]) := by
  have gl : ∀ k, k < O.length → (O ++ [m])[k]? = O[k]? := fun k hk => List.getElem?_append_left hk
  have gm : (O ++ [m])[O.length]? = some m := by simp
  have gr : ∀ k, O.length < k → (O ++ [m])[k]? = none := fun k hk => List.getElem?_eq_none (by simp; omega)
  refine ⟨?_, ?_, fun k x hx => ?_, fun k x hx => ?_, ?_⟩
  · rw [e4]
    by_cases h0 : O = []
    · subst h0; simp
    · have hl : 0 < O.length := List.length_pos_iff.2 h0
      rw [if_neg h0, h.old, gl 0 hl]
  · rw [e5]
    simp [prev]
  · rcases Nat.lt_trichotomy k O.length with hk | hk | hk
    · rw [gl k hk] at hx
      rw [e6 x (List.mem_of_getElem? hx), h.prv k x hx]
      unfold prev
      by_cases h0 : k = 0
      · rw [if_pos h0, if_pos h0]
      · rw [if_neg h0, if_neg h0, gl _ (by omega)]
    · subst hk
      rw [gm] at hx
      cases hx
      rw [m6]
      unfold prev
      by_cases h0 : O.length = 0
      · rw [if_pos h0, if_pos h0]
      · rw [if_neg h0, if_neg h0, gl _ (by omega)]
    · rw [gr k hk] at hx; cases hx
  · rcases Nat.lt_trichotomy k O.length with hk | hk | hk
    · rw [gl k hk] at hx
      have hp : prev O O.length = O[O.length - 1]? := by unfold prev; rw [if_neg (by omega)]
      rw [e7 x (List.mem_of_getElem? hx), hp]
      by_cases h0 : k + 1 = O.length
      · have h1 : O[O.length - 1]? = some x := by rw [← h0]; exact hx
        rw [if_pos h1, h0, gm]
      · have h1 : ¬ O[O.length - 1]? = some x := fun e => by have := nd_inj h.nd hx e; omega
        rw [if_neg h1, h.nxt k x hx, gl _ (by omega)]
    · subst hk
      rw [gm] at hx
      cases hx
      rw [m7, gr _ (by omega)]
    · rw [gr k hk] at hx; cases hx
  · refine List.nodup_append.2 ⟨h.nd, by simp, ?_⟩
    intro a ha b hb e
    simp at hb
    subst hb
    exact hm (e ▸ ha)

set_option maxHeartbeats 1000000 in
theorem unlinkx_A1C1 (j m : Nat) (M : Nat → Prop) (w : World) (hL : Hid (LInv w j M)) (hm : M m) (j4 : w.cell? ⟨j, 4, none⟩ = some (.pointer (none))) (j5 : w.cell? ⟨j, 5, none⟩ = some (.pointer (none))) (poj : PtrIn M (none)) (pnj : PtrIn M (none)) (fj4 : w.frozen? ⟨j, 4, none⟩ = false) (fj5 : w.frozen? ⟨j, 5, none⟩ = false) (m6 : w.cell? ⟨m, 6, none⟩ = some (.pointer (none))) (m7 : w.cell? ⟨m, 7, none⟩ = some (.pointer (none))) (pom : PtrIn M (none)) (pnm : PtrIn M (none)) (fm6 : w.frozen? ⟨m, 6, none⟩ = false) (fm7 : w.frozen? ⟨m, 7, none⟩ = false) :
    Calls Try.prog 43 #[.pointer (some ⟨j, 0, none⟩), .pointer (some ⟨m, 0, none⟩)] w fun e w' => e = .returned (.tuple #[]) ∧ Relinked w w' j M ∧ Eff w w' [(m, 7, .pointer none), (m, 6, .pointer none)] := by
  have hS := eql58_same
  have hN := eql58_nil
  go_enter Try.func43, Try.ntmps43
  go_wp2
  go_end0
  refine ⟨rfl, ?_, ?_⟩
  · repeat' (first
      | with_reducible exact Relinked.refl _ _ _
      | with_reducible refine Relinked.drew ?_
      | with_reducible refine Relinked.s6 hL.out ?_ (by assumption) (by first | assumption | exact PtrIn.none _ | exact PtrIn.some (by assumption))
      | with_reducible refine Relinked.s7 hL.out ?_ (by assumption) (by first | assumption | exact PtrIn.none _ | exact PtrIn.some (by assumption))
      | with_reducible refine Relinked.s4 hL.out ?_ (by first | assumption | exact PtrIn.none _ | exact PtrIn.some (by assumption))
      | with_reducible refine Relinked.s5 hL.out ?_ (by first | assumption | exact PtrIn.none _ | exact PtrIn.some (by assumption)))
  · repeat' (first
      | with_reducible exact Eff.refl _
      | with_reducible refine Eff.drew ?_
      | with_reducible refine Eff.set ?_ (by assumption) _)

set_option maxHeartbeats 1000000 in
theorem unlinkx_A3C3 (j m : Nat) (M : Nat → Prop) (w : World) (hL : Hid (LInv w j M)) (hm : M m) (a : Nat) (ha : M a) (hne : a ≠ m) (b : Nat) (hb : M b) (hnb : b ≠ m) (j4 : w.cell? ⟨j, 4, none⟩ = some (.pointer (some ⟨a, 0, none⟩))) (j5 : w.cell? ⟨j, 5, none⟩ = some (.pointer (some ⟨b, 0, none⟩))) (poj : PtrIn M (some ⟨a, 0, none⟩)) (pnj : PtrIn M (some ⟨b, 0, none⟩)) (fj4 : w.frozen? ⟨j, 4, none⟩ = false) (fj5 : w.frozen? ⟨j, 5, none⟩ = false) (m6 : w.cell? ⟨m, 6, none⟩ = some (.pointer (none))) (m7 : w.cell? ⟨m, 7, none⟩ = some (.pointer (none))) (pom : PtrIn M (none)) (pnm : PtrIn M (none)) (fm6 : w.frozen? ⟨m, 6, none⟩ = false) (fm7 : w.frozen? ⟨m, 7, none⟩ = false) :
    Calls Try.prog 43 #[.pointer (some ⟨j, 0, none⟩), .pointer (some ⟨m, 0, none⟩)] w fun e w' => e = .returned (.tuple #[]) ∧ Relinked w w' j M ∧ Eff w w' [(m, 7, .pointer none), (m, 6, .pointer none)] := by
  have hS := eql58_same
  have hN := eql58_nil
  have hO := hL.out.eql_other ha hm hne
  have hO2 := (hL.out.re (w' := w) (Relinked.refl _ _ _)).eql_other hb hm hnb
  go_enter Try.func43, Try.ntmps43
  go_wp2
  go_end0
  refine ⟨rfl, ?_, ?_⟩
  · repeat' (first
      | with_reducible exact Relinked.refl _ _ _
      | with_reducible refine Relinked.drew ?_
      | with_reducible refine Relinked.s6 hL.out ?_ (by assumption) (by first | assumption | exact PtrIn.none _ | exact PtrIn.some (by assumption))
      | with_reducible refine Relinked.s7 hL.out ?_ (by assumption) (by first | assumption | exact PtrIn.none _ | exact PtrIn.some (by assumption))
      | with_reducible refine Relinked.s4 hL.out ?_ (by first | assumption | exact PtrIn.none _ | exact PtrIn.some (by assumption))
      | with_reducible refine Relinked.s5 hL.out ?_ (by first | assumption | exact PtrIn.none _ | exact PtrIn.some (by assumption)))
  · repeat' (first
      | with_reducible exact Eff.refl _
      | with_reducible refine Eff.drew ?_
      | with_reducible refine Eff.set ?_ (by assumption) _)

set_option maxHeartbeats 1000000 in
theorem unlinkx_A2C2 (j m : Nat) (M : Nat → Prop) (w : World) (hL : Hid (LInv w j M)) (hm : M m) (j4 : w.cell? ⟨j, 4, none⟩ = some (.pointer (some ⟨m, 0, none⟩))) (j5 : w.cell? ⟨j, 5, none⟩ = some (.pointer (some ⟨m, 0, none⟩))) (poj : PtrIn M (some ⟨m, 0, none⟩)) (pnj : PtrIn M (some ⟨m, 0, none⟩)) (fj4 : w.frozen? ⟨j, 4, none⟩ = false) (fj5 : w.frozen? ⟨j, 5, none⟩ = false) (m6 : w.cell? ⟨m, 6, none⟩ = some (.pointer (none))) (m7 : w.cell? ⟨m, 7, none⟩ = some (.pointer (none))) (pom : PtrIn M (none)) (pnm : PtrIn M (none)) (fm6 : w.frozen? ⟨m, 6, none⟩ = false) (fm7 : w.frozen? ⟨m, 7, none⟩ = false) :
    Calls Try.prog 43 #[.pointer (some ⟨j, 0, none⟩), .pointer (some ⟨m, 0, none⟩)] w fun e w' => e = .returned (.tuple #[]) ∧ Relinked w w' j M ∧ Eff w w' [(m, 7, .pointer none), (m, 6, .pointer none), (j, 5, .pointer none), (j, 4, .pointer none)] := by
  have hS := eql58_same
  have hN := eql58_nil
  go_enter Try.func43, Try.ntmps43
  go_wp2
  go_end0
  refine ⟨rfl, ?_, ?_⟩
  · repeat' (first
      | with_reducible exact Relinked.refl _ _ _
      | with_reducible refine Relinked.drew ?_
      | with_reducible refine Relinked.s6 hL.out ?_ (by assumption) (by first | assumption | exact PtrIn.none _ | exact PtrIn.some (by assumption))
      | with_reducible refine Relinked.s7 hL.out ?_ (by assumption) (by first | assumption | exact PtrIn.none _ | exact PtrIn.some (by assumption))
      | with_reducible refine Relinked.s4 hL.out ?_ (by first | assumption | exact PtrIn.none _ | exact PtrIn.some (by assumption))
      | with_reducible refine Relinked.s5 hL.out ?_ (by first | assumption | exact PtrIn.none _ | exact PtrIn.some (by assumption)))
  · repeat' (first
      | with_reducible exact Eff.refl _
      | with_reducible refine Eff.drew ?_
      | with_reducible refine Eff.set ?_ (by assumption) _)

set_option maxHeartbeats 1000000 in
theorem unlinkx_A2D2 (j m : Nat) (M : Nat → Prop) (w : World) (hL : Hid (LInv w j M)) (hm : M m) (b : Nat) (hb : M b) (hnb : ¬ b = m) (nj : Option Addr) (j4 : w.cell? ⟨j, 4, none⟩ = some (.pointer (some ⟨m, 0, none⟩))) (j5 : w.cell? ⟨j, 5, none⟩ = some (.pointer (nj))) (poj : PtrIn M (some ⟨m, 0, none⟩)) (pnj : PtrIn M (nj)) (fj4 : w.frozen? ⟨j, 4, none⟩ = false) (fj5 : w.frozen? ⟨j, 5, none⟩ = false) (m6 : w.cell? ⟨m, 6, none⟩ = some (.pointer (none))) (m7 : w.cell? ⟨m, 7, none⟩ = some (.pointer (some ⟨b, 0, none⟩))) (pom : PtrIn M (none)) (pnm : PtrIn M (some ⟨b, 0, none⟩)) (fm6 : w.frozen? ⟨m, 6, none⟩ = false) (fm7 : w.frozen? ⟨m, 7, none⟩ = false) :
    Calls Try.prog 43 #[.pointer (some ⟨j, 0, none⟩), .pointer (some ⟨m, 0, none⟩)] w fun e w' => e = .returned (.tuple #[]) ∧ Relinked w w' j M ∧ Eff w w' [(m, 7, .pointer none), (m, 6, .pointer none), (b, 6, .pointer none), (j, 4, .pointer (some ⟨b, 0, none⟩))] := by
  have hS := eql58_same
  have hN := eql58_nil
  obtain ⟨ob, nb, b6, b7, pob, pnb, fb6, fb7⟩ := hL.out.m_cells hb
  go_enter Try.func43, Try.ntmps43
  go_wp2
  go_region
  go_wp2
  go_end0
  refine ⟨rfl, ?_, ?_⟩
  · repeat' (first
      | with_reducible exact Relinked.refl _ _ _
      | with_reducible refine Relinked.drew ?_
      | with_reducible refine Relinked.s6 hL.out ?_ (by assumption) (by first | assumption | exact PtrIn.none _ | exact PtrIn.some (by assumption))
      | with_reducible refine Relinked.s7 hL.out ?_ (by assumption) (by first | assumption | exact PtrIn.none _ | exact PtrIn.some (by assumption))
      | with_reducible refine Relinked.s4 hL.out ?_ (by first | assumption | exact PtrIn.none _ | exact PtrIn.some (by assumption))
      | with_reducible refine Relinked.s5 hL.out ?_ (by first | assumption | exact PtrIn.none _ | exact PtrIn.some (by assumption)))
  · repeat' (first
      | with_reducible exact Eff.refl _
      | with_reducible refine Eff.drew ?_
      | with_reducible refine Eff.set ?_ (by assumption) _)

set_option maxHeartbeats 1000000 in
theorem unlinkx_B2C2 (j m : Nat) (M : Nat → Prop) (w : World) (hL : Hid (LInv w j M)) (hm : M m) (a : Nat) (ha : M a) (hne : ¬ a = m) (oj : Option Addr) (j4 : w.cell? ⟨j, 4, none⟩ = some (.pointer (oj))) (j5 : w.cell? ⟨j, 5, none⟩ = some (.pointer (some ⟨m, 0, none⟩))) (poj : PtrIn M (oj)) (pnj : PtrIn M (some ⟨m, 0, none⟩)) (fj4 : w.frozen? ⟨j, 4, none⟩ = false) (fj5 : w.frozen? ⟨j, 5, none⟩ = false) (m6 : w.cell? ⟨m, 6, none⟩ = some (.pointer (some ⟨a, 0, none⟩))) (m7 : w.cell? ⟨m, 7, none⟩ = some (.pointer (none))) (pom : PtrIn M (some ⟨a, 0, none⟩)) (pnm : PtrIn M (none)) (fm6 : w.frozen? ⟨m, 6, none⟩ = false) (fm7 : w.frozen? ⟨m, 7, none⟩ = false) :
    Calls Try.prog 43 #[.pointer (some ⟨j, 0, none⟩), .pointer (some ⟨m, 0, none⟩)] w fun e w' => e = .returned (.tuple #[]) ∧ Relinked w w' j M ∧ Eff w w' [(m, 7, .pointer none), (m, 6, .pointer none), (j, 5, .pointer (some ⟨a, 0, none⟩)), (a, 7, .pointer none)] := by
  have hS := eql58_same
  have hN := eql58_nil
  obtain ⟨oa, na, a6, a7, poa, pna, fa6, fa7⟩ := hL.out.m_cells ha
  go_enter Try.func43, Try.ntmps43
  go_wp2
  go_region
  go_wp2
  go_end0
  refine ⟨rfl, ?_, ?_⟩
  · repeat' (first
      | with_reducible exact Relinked.refl _ _ _
      | with_reducible refine Relinked.drew ?_
      | with_reducible refine Relinked.s6 hL.out ?_ (by assumption) (by first | assumption | exact PtrIn.none _ | exact PtrIn.some (by assumption))
      | with_reducible refine Relinked.s7 hL.out ?_ (by assumption) (by first | assumption | exact PtrIn.none _ | exact PtrIn.some (by assumption))
      | with_reducible refine Relinked.s4 hL.out ?_ (by first | assumption | exact PtrIn.none _ | exact PtrIn.some (by assumption))
      | with_reducible refine Relinked.s5 hL.out ?_ (by first | assumption | exact PtrIn.none _ | exact PtrIn.some (by assumption)))
  · repeat' (first
      | with_reducible exact Eff.refl _
      | with_reducible refine Eff.drew ?_
      | with_reducible refine Eff.set ?_ (by assumption) _)

set_option maxHeartbeats 1000000 in
theorem unlinkx_B2D2 (j m : Nat) (M : Nat → Prop) (w : World) (hL : Hid (LInv w j M)) (hm : M m) (a : Nat) (ha : M a) (hne : ¬ a = m) (b : Nat) (hb : M b) (hnb : ¬ b = m) (oj nj : Option Addr) (j4 : w.cell? ⟨j, 4, none⟩ = some (.pointer (oj))) (j5 : w.cell? ⟨j, 5, none⟩ = some (.pointer (nj))) (poj : PtrIn M (oj)) (pnj : PtrIn M (nj)) (fj4 : w.frozen? ⟨j, 4, none⟩ = false) (fj5 : w.frozen? ⟨j, 5, none⟩ = false) (m6 : w.cell? ⟨m, 6, none⟩ = some (.pointer (some ⟨a, 0, none⟩))) (m7 : w.cell? ⟨m, 7, none⟩ = some (.pointer (some ⟨b, 0, none⟩))) (pom : PtrIn M (some ⟨a, 0, none⟩)) (pnm : PtrIn M (some ⟨b, 0, none⟩)) (fm6 : w.frozen? ⟨m, 6, none⟩ = false) (fm7 : w.frozen? ⟨m, 7, none⟩ = false) :
    Calls Try.prog 43 #[.pointer (some ⟨j, 0, none⟩), .pointer (some ⟨m, 0, none⟩)] w fun e w' => e = .returned (.tuple #[]) ∧ Relinked w w' j M ∧ Eff w w' [(m, 7, .pointer none), (m, 6, .pointer none), (b, 6, .pointer (some ⟨a, 0, none⟩)), (a, 7, .pointer (some ⟨b, 0, none⟩))] := by
  have hS := eql58_same
  have hN := eql58_nil
  obtain ⟨oa, na, a6, a7, poa, pna, fa6, fa7⟩ := hL.out.m_cells ha
  obtain ⟨ob, nb, b6, b7, pob, pnb, fb6, fb7⟩ := hL.out.m_cells hb
  go_enter Try.func43, Try.ntmps43
  go_wp2
  go_region
  go_wp2
  go_region
  go_wp2
  go_end0
  refine ⟨rfl, ?_, ?_⟩
  · repeat' (first
      | with_reducible exact Relinked.refl _ _ _
      | with_reducible refine Relinked.drew ?_
      | with_reducible refine Relinked.s6 hL.out ?_ (by assumption) (by first | assumption | exact PtrIn.none _ | exact PtrIn.some (by assumption))
      | with_reducible refine Relinked.s7 hL.out ?_ (by assumption) (by first | assumption | exact PtrIn.none _ | exact PtrIn.some (by assumption))
      | with_reducible refine Relinked.s4 hL.out ?_ (by first | assumption | exact PtrIn.none _ | exact PtrIn.some (by assumption))
      | with_reducible refine Relinked.s5 hL.out ?_ (by first | assumption | exact PtrIn.none _ | exact PtrIn.some (by assumption)))
  · repeat' (first
      | with_reducible exact Eff.refl _
      | with_reducible refine Eff.drew ?_
      | with_reducible refine Eff.set ?_ (by assumption) _)

set_option maxHeartbeats 1000000 in
theorem linkx_none (j m : Nat) (M : Nat → Prop) (w : World) (hL : Hid (LInv w j M)) (hm : Hid (M m)) (j5 : w.cell? ⟨j, 5, none⟩ = some (.pointer none)) :
    Calls Try.prog 44 #[.pointer (some ⟨j, 0, none⟩), .pointer (some ⟨m, 0, none⟩)] w fun e w' => e = .returned (.tuple #[]) ∧ Relinked w w' j M ∧ Eff w w' [(j, 5, .pointer (some ⟨m, 0, none⟩)), (j, 4, .pointer (some ⟨m, 0, none⟩)), (m, 6, .pointer none)] := by
  obtain ⟨oj, nj, j4, j5', poj, pnj, fj4, fj5⟩ := hL.out.j_cells
  rw [j5] at j5'
  cases j5'
  obtain ⟨om, nm, m6, m7, pom, pnm, fm6, fm7⟩ := hL.out.m_cells hm.out
  have R1 := hL.out.set6 hm.out pnj
  have L1 := hL.out.re R1
  have R2 := L1.set4 (PtrIn.some hm.out)
  have L2 := L1.re R2
  have R3 := L2.set5 (PtrIn.some hm.out)
  have HR : Hid (Relinked w _ j M) := (R1.trans R2).trans R3
  have HE : Hid (Eff w _ _) := (((Eff.refl w).set m6 (.pointer none)).set j4 (.pointer (some ⟨m, 0, none⟩))).set j5 (.pointer (some ⟨m, 0, none⟩))
  clear R1 R2 R3 L1 L2
  go_enter Try.func44, Try.ntmps44
  go_wp2
  go_end0
  exact ⟨rfl, HR, HE⟩

set_option maxHeartbeats 1000000 in
theorem linkx_some (j m a : Nat) (M : Nat → Prop) (w : World) (hL : Hid (LInv w j M)) (hm : Hid (M m)) (ha : M a) (j5 : w.cell? ⟨j, 5, none⟩ = some (.pointer (some ⟨a, 0, none⟩))) :
    Calls Try.prog 44 #[.pointer (some ⟨j, 0, none⟩), .pointer (some ⟨m, 0, none⟩)] w fun e w' => e = .returned (.tuple #[]) ∧ Relinked w w' j M ∧ Eff w w' [(j, 5, .pointer (some ⟨m, 0, none⟩)), (a, 7, .pointer (some ⟨m, 0, none⟩)), (m, 6, .pointer (some ⟨a, 0, none⟩))] := by
  obtain ⟨oj, nj, j4, j5', poj, pnj, fj4, fj5⟩ := hL.out.j_cells
  rw [j5] at j5'
  cases j5'
  obtain ⟨om, nm, m6, m7, pom, pnm, fm6, fm7⟩ := hL.out.m_cells hm.out
  obtain ⟨oa, na, a6, a7, poa, pna, fa6, fa7⟩ := hL.out.m_cells ha
  have R1 := hL.out.set6 hm.out pnj
  have L1 := hL.out.re R1
  have R2 := L1.set7 ha (PtrIn.some hm.out)
  have L2 := L1.re R2
  have R3 := L2.set5 (PtrIn.some hm.out)
  have HR : Hid (Relinked w _ j M) := (R1.trans R2).trans R3
  have HE : Hid (Eff w _ _) := (((Eff.refl w).set m6 (.pointer (some ⟨a, 0, none⟩))).set a7 (.pointer (some ⟨m, 0, none⟩))).set j5 (.pointer (some ⟨m, 0, none⟩))
  clear R1 R2 R3 L1 L2
  go_enter Try.func44, Try.ntmps44
  go_wp2
  go_end0
  exact ⟨rfl, HR, HE⟩

end Go.Proofs.Qxb6616208a
