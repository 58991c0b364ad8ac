/-
  The joiner's list, weakly: every pointer of it leads to a message; link (44), unlink (43).
-/
import Derived.Test.Qxb6616208aPdu
import Derived.LaidEqlPtr
namespace Go.Proofs.Qxb6616208a
open Go.RowKit
set_option linter.unusedVariables false
set_option linter.unusedSimpArgs false

/-- the joiner's block -/
def jrow (pend : Option Nat) (seq lim held : Int) (old new : Option Addr) : Obj := .cells #[.map pend, .int .i64 seq, .int .i64 lim, .int .i64 held, .pointer old, .pointer new] 60
/-- a message's block -/
def mrow (sl : Value) (ref sq : Int) (o n : Option Addr) : Obj := .cells #[sl, .int .i64 ref, .int .i64 sq, .int .u64 0, .int .i64 0, .pointer none, .pointer o, .pointer n] 71

def PtrIn (M : Nat → Prop) (p : Option Addr) : Prop := ∀ a, p = some a → ∃ m, M m ∧ a = ⟨m, 0, none⟩
theorem PtrIn.none (M : Nat → Prop) : PtrIn M none := fun a h => by cases h
theorem PtrIn.some {M : Nat → Prop} {m : Nat} (h : M m) : PtrIn M (some ⟨m, 0, .none⟩) := fun a e => ⟨m, h, by cases e; rfl⟩

structure Relinked (w w' : World) (j : Nat) (M : Nat → Prop) : Prop where
  os : w'.os = w.os
  tape : w'.tape = w.tape
  output : w'.output = w.output
  size : w'.heap.size = w.heap.size
  block : ∀ k, k ≠ j → ¬ M k → w'.heap[k]? = w.heap[k]?
  jr : ∀ p s l h o n, w.heap[j]? = some (jrow p s l h o n) → PtrIn M o → PtrIn M n → ∃ o' n', w'.heap[j]? = some (jrow p s l h o' n') ∧ PtrIn M o' ∧ PtrIn M n'
  mr : ∀ m, M m → ∀ sl r q o n, w.heap[m]? = some (mrow sl r q o n) → PtrIn M o → PtrIn M n → ∃ o' n', w'.heap[m]? = some (mrow sl r q o' n') ∧ PtrIn M o' ∧ PtrIn M n'

theorem Relinked.refl (w : World) (j : Nat) (M : Nat → Prop) : Relinked w w j M :=
  ⟨rfl, rfl, rfl, rfl, fun _ _ _ => rfl, fun _ _ _ _ o n h h1 h2 => ⟨o, n, h, h1, h2⟩, fun _ _ _ _ _ o n h h1 h2 => ⟨o, n, h, h1, h2⟩⟩

theorem Relinked.trans {w w' w'' : World} {j : Nat} {M : Nat → Prop} (h : Relinked w w' j M) (g : Relinked w' w'' j M) : Relinked w w'' j M :=
  ⟨g.os.trans h.os, g.tape.trans h.tape, g.output.trans h.output, g.size.trans h.size, fun k h1 h2 => (g.block k h1 h2).trans (h.block k h1 h2),
    fun p s l hh o n e h1 h2 => by
      obtain ⟨o', n', e', h1', h2'⟩ := h.jr p s l hh o n e h1 h2
      exact g.jr p s l hh o' n' e' h1' h2',
    fun m hm sl r q o n e h1 h2 => by
      obtain ⟨o', n', e', h1', h2'⟩ := h.mr m hm sl r q o n e h1 h2
      exact g.mr m hm sl r q o' n' e' h1' h2'⟩

theorem Relinked.drew {w w' : World} {j : Nat} {M : Nat → Prop} (h : Relinked w w' j M) : Relinked w w'.drew j M := h.trans
  ⟨rfl, rfl, rfl, rfl, fun _ _ _ => rfl, fun _ _ _ _ o n h h1 h2 => ⟨o, n, h, h1, h2⟩, fun _ _ _ _ _ o n h h1 h2 => ⟨o, n, h, h1, h2⟩⟩

theorem heap_set_same {w : World} {b o : Nat} {c : Array Value} {t : TypeId} {fr : Nat × Nat} (h : w.heap[b]? = some (.cells c t fr)) (v : Value) :
    (w.setCell ⟨b, o, none⟩ v).heap[b]? = some (.cells (c.setIfInBounds o v) t fr) := by
  simp [World.setCell, Array.getElem?_modify, h]

/-- the list's blocks -/
structure LInv (w : World) (j : Nat) (M : Nat → Prop) : Prop where
  jr : ∃ p s l h o n, w.heap[j]? = some (jrow p s l h o n) ∧ PtrIn M o ∧ PtrIn M n
  mr : ∀ m, M m → ∃ sl r q o n, w.heap[m]? = some (mrow sl r q o n) ∧ PtrIn M o ∧ PtrIn M n

theorem LInv.re {w w' : World} {j : Nat} {M : Nat → Prop} (h : LInv w j M) (g : Relinked w w' j M) : LInv w' j M := by
  refine ⟨?_, fun m hm => ?_⟩
  · obtain ⟨p, s, l, hh, o, n, e, h1, h2⟩ := h.jr
    obtain ⟨o', n', e', h1', h2'⟩ := g.jr p s l hh o n e h1 h2
    exact ⟨p, s, l, hh, o', n', e', h1', h2'⟩
  · obtain ⟨sl, r, q, o, n, e, h1, h2⟩ := h.mr m hm
    obtain ⟨o', n', e', h1', h2'⟩ := g.mr m hm sl r q o n e h1 h2
    exact ⟨sl, r, q, o', n', e', h1', h2'⟩

theorem LInv.ne {w : World} {j : Nat} {M : Nat → Prop} (h : LInv w j M) {m : Nat} (hm : M m) : m ≠ j := by
  rintro rfl
  obtain ⟨p, s, l, hh, o, n, e, h1, h2⟩ := h.jr
  obtain ⟨sl, r, q, o, n, e', h1, h2⟩ := h.mr _ hm
  rw [e] at e'
  simp [jrow, mrow] at e'

/-- a message's pointer to the older one, set -/
theorem LInv.set6 {w : World} {j : Nat} {M : Nat → Prop} (h : LInv w j M) {m : Nat} (hm : M m) {p : Option Addr} (hp : PtrIn M p) : Relinked w (w.setCell ⟨m, 6, none⟩ (.pointer p)) j M := by
  have hne := h.ne hm
  refine ⟨rfl, rfl, rfl, by simp [World.setCell], fun k _ hk => Below.heap_setCell _ _ _ _ (fun e => hk (e ▸ hm)), fun a s l hh o n e h1 h2 => ⟨o, n, (Below.heap_setCell _ _ _ _ (fun e => hne e.symm)).trans e, h1, h2⟩, fun k hk sl r q o n e h1 h2 => ?_⟩
  by_cases hkm : k = m
  · subst hkm
    exact ⟨p, n, (heap_set_same e _).trans rfl, hp, h2⟩
  · exact ⟨o, n, (Below.heap_setCell _ _ _ _ (by exact hkm)).trans e, h1, h2⟩

/-- .. to the newer one -/
theorem LInv.set7 {w : World} {j : Nat} {M : Nat → Prop} (h : LInv w j M) {m : Nat} (hm : M m) {p : Option Addr} (hp : PtrIn M p) : Relinked w (w.setCell ⟨m, 7, none⟩ (.pointer p)) j M := by
  have hne := h.ne hm
  refine ⟨rfl, rfl, rfl, by simp [World.setCell], fun k _ hk => Below.heap_setCell _ _ _ _ (fun e => hk (e ▸ hm)), fun a s l hh o n e h1 h2 => ⟨o, n, (Below.heap_setCell _ _ _ _ (fun e => hne e.symm)).trans e, h1, h2⟩, fun k hk sl r q o n e h1 h2 => ?_⟩
  by_cases hkm : k = m
  · subst hkm
    exact ⟨o, p, (heap_set_same e _).trans rfl, h1, hp⟩
  · exact ⟨o, n, (Below.heap_setCell _ _ _ _ (by exact hkm)).trans e, h1, h2⟩

/-- the joiner's oldest -/
theorem LInv.set4 {w : World} {j : Nat} {M : Nat → Prop} (h : LInv w j M) {p : Option Addr} (hp : PtrIn M p) : Relinked w (w.setCell ⟨j, 4, none⟩ (.pointer p)) j M := by
  refine ⟨rfl, rfl, rfl, by simp [World.setCell], fun k hk _ => Below.heap_setCell _ _ _ _ (by exact hk), fun a s l hh o n e h1 h2 => ⟨p, n, (heap_set_same e _).trans rfl, hp, h2⟩, fun k hk sl r q o n e h1 h2 => ⟨o, n, (Below.heap_setCell _ _ _ _ (by exact h.ne hk)).trans e, h1, h2⟩⟩

/-- .. and newest -/
theorem LInv.set5 {w : World} {j : Nat} {M : Nat → Prop} (h : LInv w j M) {p : Option Addr} (hp : PtrIn M p) : Relinked w (w.setCell ⟨j, 5, none⟩ (.pointer p)) j M := by
  refine ⟨rfl, rfl, rfl, by simp [World.setCell], fun k hk _ => Below.heap_setCell _ _ _ _ (by exact hk), fun a s l hh o n e h1 h2 => ⟨o, p, (heap_set_same e _).trans rfl, h1, hp⟩, fun k hk sl r q o n e h1 h2 => ⟨o, n, (Below.heap_setCell _ _ _ _ (by exact h.ne hk)).trans e, h1, h2⟩⟩

/-- what a walk reads of a message -/
theorem LInv.m_cells {w : World} {j : Nat} {M : Nat → Prop} (h : LInv w j M) {m : Nat} (hm : M m) :
    ∃ o n, w.cell? ⟨m, 6, none⟩ = some (.pointer o) ∧ w.cell? ⟨m, 7, none⟩ = some (.pointer n) ∧ PtrIn M o ∧ PtrIn M n ∧ w.frozen? ⟨m, 6, none⟩ = false ∧ w.frozen? ⟨m, 7, none⟩ = false := by
  obtain ⟨sl, r, q, o, n, e, h1, h2⟩ := h.mr m hm
  exact ⟨o, n, cell_of_row _ _ _ _ _ _ e, cell_of_row _ _ _ _ _ _ e, h1, h2, by simp [World.frozen?, e, mrow], by simp [World.frozen?, e, mrow]⟩

theorem LInv.j_cells {w : World} {j : Nat} {M : Nat → Prop} (h : LInv w j M) :
    ∃ o n, w.cell? ⟨j, 4, none⟩ = some (.pointer o) ∧ w.cell? ⟨j, 5, none⟩ = some (.pointer n) ∧ PtrIn M o ∧ PtrIn M n ∧ w.frozen? ⟨j, 4, none⟩ = false ∧ w.frozen? ⟨j, 5, none⟩ = false := by
  obtain ⟨p, s, l, hh, o, n, e, h1, h2⟩ := h.jr
  exact ⟨o, n, cell_of_row _ _ _ _ _ _ e, cell_of_row _ _ _ _ _ _ e, h1, h2, by simp [World.frozen?, e, jrow], by simp [World.frozen?, e, jrow]⟩

theorem Try.info71 : ∃ i, Try.prog.info? 71 = some i ∧ i.size = 8 := by
  have h : (Try.prog.info? 71).map (·.size) = some 8 := by kernel_rfl
  cases hq : Try.prog.info? 71 with
  | none => rw [hq] at h; cases h
  | some i => rw [hq] at h; exact ⟨i, rfl, by simpa using h⟩

theorem eql58_same (w : World) (a : Addr) : (binOp .eql 58 (.pointer (some a)) (.pointer (some a))).run Try.prog w = .ok (.bool true) w := by
  obtain ⟨i, hi, _⟩ := Try.info71
  exact run_eql_ptr_same w a Try.underlying58 hi

theorem eql58_nil (w : World) (a : Addr) : (binOp .eql 58 (.pointer none) (.pointer (some a))).run Try.prog w = .ok (.bool false) w := by
  have h : ∀ d : Nat, (Op.equalIn (d + 1) 58 (.pointer none) (.pointer (some a))).run Try.prog w = .ok false w := fun d => by
    simp [Op.equalIn, run_underlying Try.underlying58]
  simp only [binOp]
  simp [Op.equal, Op.maxDepth, h 9999]

theorem LInv.eql_other {w : World} {j : Nat} {M : Nat → Prop} (h : LInv w j M) {a b : Nat} (ha : M a) (hb : M b) (hne : a ≠ b) :
    (binOp .eql 58 (.pointer (some ⟨a, 0, none⟩)) (.pointer (some ⟨b, 0, none⟩))).run Try.prog w = .ok (.bool false) w := by
  obtain ⟨i, hi, hs⟩ := Try.info71
  obtain ⟨sl, r, q, o, n, e, _⟩ := h.mr a ha
  obtain ⟨sl', r', q', o', n', e', _⟩ := h.mr b hb
  exact run_eql_ptr_other w Try.underlying58 hi (by rw [hs]; decide) (fun e => hne (by cases e; rfl)) e e'

set_option maxHeartbeats 1000000 in
theorem link_any (j m : Nat) (M : Nat → Prop) (w : World) (hL : Hid (LInv w j M)) (hm : Hid (M m)) :
    Calls Try.prog 44 #[.pointer (some ⟨j, 0, none⟩), .pointer (some ⟨m, 0, none⟩)] w fun e w' => e = .returned (.tuple #[]) ∧ Relinked w w' j M := by
  obtain ⟨oj, nj, j4, j5, poj, pnj, fj4, fj5⟩ := hL.out.j_cells
  obtain ⟨om, nm, m6, m7, pom, pnm, fm6, fm7⟩ := hL.out.m_cells hm.out
  have R1 := hL.out.set6 hm.out pnj
  have L1 := hL.out.re R1
  cases nj with
  | none =>
    have R2 := L1.set4 (PtrIn.some hm.out)
    have L2 := L1.re R2
    have R3 := L2.set5 (PtrIn.some hm.out)
    have HR : Hid (Relinked w _ j M) := (R1.trans R2).trans R3
    clear R1 R2 R3 L1 L2
    go_enter Try.func44, Try.ntmps44
    go_wp2
    go_end0
    exact ⟨rfl, HR⟩
  | some a =>
    obtain ⟨m2, hm2, rfl⟩ := pnj a rfl
    obtain ⟨om2, nm2, n6, n7, pom2, pnm2, fn6, fn7⟩ := hL.out.m_cells hm2
    have R2 := L1.set7 hm2 (PtrIn.some hm.out)
    have L2 := L1.re R2
    have R3 := L2.set5 (PtrIn.some hm.out)
    have HR : Hid (Relinked w _ j M) := (R1.trans R2).trans R3
    clear R1 R2 R3 L1 L2
    go_enter Try.func44, Try.ntmps44
    go_wp2
    go_end0
    exact ⟨rfl, HR⟩

/-! ### unlink -/
theorem Relinked.s6 {w W : World} {j : Nat} {M : Nat → Prop} (hL : LInv w j M) (R : Relinked w W j M) {m : Nat} (hm : M m) {p : Option Addr} (hp : PtrIn M p) : Relinked w (W.setCell ⟨m, 6, none⟩ (.pointer p)) j M := R.trans ((hL.re R).set6 hm hp)
theorem Relinked.s7 {w W : World} {j : Nat} {M : Nat → Prop} (hL : LInv w j M) (R : Relinked w W j M) {m : Nat} (hm : M m) {p : Option Addr} (hp : PtrIn M p) : Relinked w (W.setCell ⟨m, 7, none⟩ (.pointer p)) j M := R.trans ((hL.re R).set7 hm hp)
theorem Relinked.s4 {w W : World} {j : Nat} {M : Nat → Prop} (hL : LInv w j M) (R : Relinked w W j M) {p : Option Addr} (hp : PtrIn M p) : Relinked w (W.setCell ⟨j, 4, none⟩ (.pointer p)) j M := R.trans ((hL.re R).set4 hp)
theorem Relinked.s5 {w W : World} {j : Nat} {M : Nat → Prop} (hL : LInv w j M) (R : Relinked w W j M) {p : Option Addr} (hp : PtrIn M p) : Relinked w (W.setCell ⟨j, 5, none⟩ (.pointer p)) j M := R.trans ((hL.re R).set5 hp)

set_option maxHeartbeats 1000000 in
theorem unlink_A1C1 (j m : Nat) (M : Nat → Prop) (w : World) (hL : Hid (LInv w j M)) (hm : M m) (j4 : w.cell? ⟨j, 4, none⟩ = some (.pointer (none))) (j5 : w.cell? ⟨j, 5, none⟩ = some (.pointer (none))) (poj : PtrIn M (none)) (pnj : PtrIn M (none)) (fj4 : w.frozen? ⟨j, 4, none⟩ = false) (fj5 : w.frozen? ⟨j, 5, none⟩ = false) (m6 : w.cell? ⟨m, 6, none⟩ = some (.pointer (none))) (m7 : w.cell? ⟨m, 7, none⟩ = some (.pointer (none))) (pom : PtrIn M (none)) (pnm : PtrIn M (none)) (fm6 : w.frozen? ⟨m, 6, none⟩ = false) (fm7 : w.frozen? ⟨m, 7, none⟩ = false) :
    Calls Try.prog 43 #[.pointer (some ⟨j, 0, none⟩), .pointer (some ⟨m, 0, none⟩)] w fun e w' => e = .returned (.tuple #[]) ∧ Relinked w w' j M := by
  have hS := eql58_same
  have hN := eql58_nil
  go_enter Try.func43, Try.ntmps43
  go_wp2
  go_end0
  refine ⟨rfl, ?_⟩
  repeat' (first
    | with_reducible exact Relinked.refl _ _ _
    | with_reducible refine Relinked.drew ?_
    | with_reducible refine Relinked.s6 hL.out ?_ (by assumption) (by first | assumption | exact PtrIn.none _ | exact PtrIn.some (by assumption))
    | with_reducible refine Relinked.s7 hL.out ?_ (by assumption) (by first | assumption | exact PtrIn.none _ | exact PtrIn.some (by assumption))
    | with_reducible refine Relinked.s4 hL.out ?_ (by first | assumption | exact PtrIn.none _ | exact PtrIn.some (by assumption))
    | with_reducible refine Relinked.s5 hL.out ?_ (by first | assumption | exact PtrIn.none _ | exact PtrIn.some (by assumption)))

set_option maxHeartbeats 1000000 in
theorem unlink_A1C2 (j m : Nat) (M : Nat → Prop) (w : World) (hL : Hid (LInv w j M)) (hm : M m) (j4 : w.cell? ⟨j, 4, none⟩ = some (.pointer (none))) (j5 : w.cell? ⟨j, 5, none⟩ = some (.pointer (some ⟨m, 0, none⟩))) (poj : PtrIn M (none)) (pnj : PtrIn M (some ⟨m, 0, none⟩)) (fj4 : w.frozen? ⟨j, 4, none⟩ = false) (fj5 : w.frozen? ⟨j, 5, none⟩ = false) (m6 : w.cell? ⟨m, 6, none⟩ = some (.pointer (none))) (m7 : w.cell? ⟨m, 7, none⟩ = some (.pointer (none))) (pom : PtrIn M (none)) (pnm : PtrIn M (none)) (fm6 : w.frozen? ⟨m, 6, none⟩ = false) (fm7 : w.frozen? ⟨m, 7, none⟩ = false) :
    Calls Try.prog 43 #[.pointer (some ⟨j, 0, none⟩), .pointer (some ⟨m, 0, none⟩)] w fun e w' => e = .returned (.tuple #[]) ∧ Relinked w w' j M := by
  have hS := eql58_same
  have hN := eql58_nil
  go_enter Try.func43, Try.ntmps43
  go_wp2
  go_end0
  refine ⟨rfl, ?_⟩
  repeat' (first
    | with_reducible exact Relinked.refl _ _ _
    | with_reducible refine Relinked.drew ?_
    | with_reducible refine Relinked.s6 hL.out ?_ (by assumption) (by first | assumption | exact PtrIn.none _ | exact PtrIn.some (by assumption))
    | with_reducible refine Relinked.s7 hL.out ?_ (by assumption) (by first | assumption | exact PtrIn.none _ | exact PtrIn.some (by assumption))
    | with_reducible refine Relinked.s4 hL.out ?_ (by first | assumption | exact PtrIn.none _ | exact PtrIn.some (by assumption))
    | with_reducible refine Relinked.s5 hL.out ?_ (by first | assumption | exact PtrIn.none _ | exact PtrIn.some (by assumption)))

set_option maxHeartbeats 1000000 in
theorem unlink_A1C3 (j m : Nat) (M : Nat → Prop) (w : World) (hL : Hid (LInv w j M)) (hm : M m) (b : Nat) (hb : M b) (hnb : b ≠ m) (j4 : w.cell? ⟨j, 4, none⟩ = some (.pointer (none))) (j5 : w.cell? ⟨j, 5, none⟩ = some (.pointer (some ⟨b, 0, none⟩))) (poj : PtrIn M (none)) (pnj : PtrIn M (some ⟨b, 0, none⟩)) (fj4 : w.frozen? ⟨j, 4, none⟩ = false) (fj5 : w.frozen? ⟨j, 5, none⟩ = false) (m6 : w.cell? ⟨m, 6, none⟩ = some (.pointer (none))) (m7 : w.cell? ⟨m, 7, none⟩ = some (.pointer (none))) (pom : PtrIn M (none)) (pnm : PtrIn M (none)) (fm6 : w.frozen? ⟨m, 6, none⟩ = false) (fm7 : w.frozen? ⟨m, 7, none⟩ = false) :
    Calls Try.prog 43 #[.pointer (some ⟨j, 0, none⟩), .pointer (some ⟨m, 0, none⟩)] w fun e w' => e = .returned (.tuple #[]) ∧ Relinked w w' j M := by
  have hS := eql58_same
  have hN := eql58_nil
  have hO2 := (hL.out.re (w' := w) (Relinked.refl _ _ _)).eql_other hb hm hnb
  go_enter Try.func43, Try.ntmps43
  go_wp2
  go_end0
  refine ⟨rfl, ?_⟩
  repeat' (first
    | with_reducible exact Relinked.refl _ _ _
    | with_reducible refine Relinked.drew ?_
    | with_reducible refine Relinked.s6 hL.out ?_ (by assumption) (by first | assumption | exact PtrIn.none _ | exact PtrIn.some (by assumption))
    | with_reducible refine Relinked.s7 hL.out ?_ (by assumption) (by first | assumption | exact PtrIn.none _ | exact PtrIn.some (by assumption))
    | with_reducible refine Relinked.s4 hL.out ?_ (by first | assumption | exact PtrIn.none _ | exact PtrIn.some (by assumption))
    | with_reducible refine Relinked.s5 hL.out ?_ (by first | assumption | exact PtrIn.none _ | exact PtrIn.some (by assumption)))

set_option maxHeartbeats 1000000 in
theorem unlink_A1D1 (j m : Nat) (M : Nat → Prop) (w : World) (hL : Hid (LInv w j M)) (hm : M m) (nj : Option Addr) (j4 : w.cell? ⟨j, 4, none⟩ = some (.pointer (none))) (j5 : w.cell? ⟨j, 5, none⟩ = some (.pointer (nj))) (poj : PtrIn M (none)) (pnj : PtrIn M (nj)) (fj4 : w.frozen? ⟨j, 4, none⟩ = false) (fj5 : w.frozen? ⟨j, 5, none⟩ = false) (m6 : w.cell? ⟨m, 6, none⟩ = some (.pointer (none))) (m7 : w.cell? ⟨m, 7, none⟩ = some (.pointer (some ⟨m, 0, none⟩))) (pom : PtrIn M (none)) (pnm : PtrIn M (some ⟨m, 0, none⟩)) (fm6 : w.frozen? ⟨m, 6, none⟩ = false) (fm7 : w.frozen? ⟨m, 7, none⟩ = false) :
    Calls Try.prog 43 #[.pointer (some ⟨j, 0, none⟩), .pointer (some ⟨m, 0, none⟩)] w fun e w' => e = .returned (.tuple #[]) ∧ Relinked w w' j M := by
  have hS := eql58_same
  have hN := eql58_nil
  go_enter Try.func43, Try.ntmps43
  go_wp2
  go_region
  go_wp2
  go_end0
  refine ⟨rfl, ?_⟩
  repeat' (first
    | with_reducible exact Relinked.refl _ _ _
    | with_reducible refine Relinked.drew ?_
    | with_reducible refine Relinked.s6 hL.out ?_ (by assumption) (by first | assumption | exact PtrIn.none _ | exact PtrIn.some (by assumption))
    | with_reducible refine Relinked.s7 hL.out ?_ (by assumption) (by first | assumption | exact PtrIn.none _ | exact PtrIn.some (by assumption))
    | with_reducible refine Relinked.s4 hL.out ?_ (by first | assumption | exact PtrIn.none _ | exact PtrIn.some (by assumption))
    | with_reducible refine Relinked.s5 hL.out ?_ (by first | assumption | exact PtrIn.none _ | exact PtrIn.some (by assumption)))

set_option maxHeartbeats 1000000 in
theorem unlink_A1D2 (j m : Nat) (M : Nat → Prop) (w : World) (hL : Hid (LInv w j M)) (hm : M m) (b : Nat) (hb : M b) (hnb : ¬ b = m) (nj : Option Addr) (j4 : w.cell? ⟨j, 4, none⟩ = some (.pointer (none))) (j5 : w.cell? ⟨j, 5, none⟩ = some (.pointer (nj))) (poj : PtrIn M (none)) (pnj : PtrIn M (nj)) (fj4 : w.frozen? ⟨j, 4, none⟩ = false) (fj5 : w.frozen? ⟨j, 5, none⟩ = false) (m6 : w.cell? ⟨m, 6, none⟩ = some (.pointer (none))) (m7 : w.cell? ⟨m, 7, none⟩ = some (.pointer (some ⟨b, 0, none⟩))) (pom : PtrIn M (none)) (pnm : PtrIn M (some ⟨b, 0, none⟩)) (fm6 : w.frozen? ⟨m, 6, none⟩ = false) (fm7 : w.frozen? ⟨m, 7, none⟩ = false) :
    Calls Try.prog 43 #[.pointer (some ⟨j, 0, none⟩), .pointer (some ⟨m, 0, none⟩)] w fun e w' => e = .returned (.tuple #[]) ∧ Relinked w w' j M := by
  have hS := eql58_same
  have hN := eql58_nil
  obtain ⟨ob, nb, b6, b7, pob, pnb, fb6, fb7⟩ := hL.out.m_cells hb
  go_enter Try.func43, Try.ntmps43
  go_wp2
  go_region
  go_wp2
  go_end0
  refine ⟨rfl, ?_⟩
  repeat' (first
    | with_reducible exact Relinked.refl _ _ _
    | with_reducible refine Relinked.drew ?_
    | with_reducible refine Relinked.s6 hL.out ?_ (by assumption) (by first | assumption | exact PtrIn.none _ | exact PtrIn.some (by assumption))
    | with_reducible refine Relinked.s7 hL.out ?_ (by assumption) (by first | assumption | exact PtrIn.none _ | exact PtrIn.some (by assumption))
    | with_reducible refine Relinked.s4 hL.out ?_ (by first | assumption | exact PtrIn.none _ | exact PtrIn.some (by assumption))
    | with_reducible refine Relinked.s5 hL.out ?_ (by first | assumption | exact PtrIn.none _ | exact PtrIn.some (by assumption)))

set_option maxHeartbeats 1000000 in
theorem unlink_A2C1 (j m : Nat) (M : Nat → Prop) (w : World) (hL : Hid (LInv w j M)) (hm : M m) (j4 : w.cell? ⟨j, 4, none⟩ = some (.pointer (some ⟨m, 0, none⟩))) (j5 : w.cell? ⟨j, 5, none⟩ = some (.pointer (none))) (poj : PtrIn M (some ⟨m, 0, none⟩)) (pnj : PtrIn M (none)) (fj4 : w.frozen? ⟨j, 4, none⟩ = false) (fj5 : w.frozen? ⟨j, 5, none⟩ = false) (m6 : w.cell? ⟨m, 6, none⟩ = some (.pointer (none))) (m7 : w.cell? ⟨m, 7, none⟩ = some (.pointer (none))) (pom : PtrIn M (none)) (pnm : PtrIn M (none)) (fm6 : w.frozen? ⟨m, 6, none⟩ = false) (fm7 : w.frozen? ⟨m, 7, none⟩ = false) :
    Calls Try.prog 43 #[.pointer (some ⟨j, 0, none⟩), .pointer (some ⟨m, 0, none⟩)] w fun e w' => e = .returned (.tuple #[]) ∧ Relinked w w' j M := by
  have hS := eql58_same
  have hN := eql58_nil
  go_enter Try.func43, Try.ntmps43
  go_wp2
  go_end0
  refine ⟨rfl, ?_⟩
  repeat' (first
    | with_reducible exact Relinked.refl _ _ _
    | with_reducible refine Relinked.drew ?_
    | with_reducible refine Relinked.s6 hL.out ?_ (by assumption) (by first | assumption | exact PtrIn.none _ | exact PtrIn.some (by assumption))
    | with_reducible refine Relinked.s7 hL.out ?_ (by assumption) (by first | assumption | exact PtrIn.none _ | exact PtrIn.some (by assumption))
    | with_reducible refine Relinked.s4 hL.out ?_ (by first | assumption | exact PtrIn.none _ | exact PtrIn.some (by assumption))
    | with_reducible refine Relinked.s5 hL.out ?_ (by first | assumption | exact PtrIn.none _ | exact PtrIn.some (by assumption)))

set_option maxHeartbeats 1000000 in
theorem unlink_A2C2 (j m : Nat) (M : Nat → Prop) (w : World) (hL : Hid (LInv w j M)) (hm : M m) (j4 : w.cell? ⟨j, 4, none⟩ = some (.pointer (some ⟨m, 0, none⟩))) (j5 : w.cell? ⟨j, 5, none⟩ = some (.pointer (some ⟨m, 0, none⟩))) (poj : PtrIn M (some ⟨m, 0, none⟩)) (pnj : PtrIn M (some ⟨m, 0, none⟩)) (fj4 : w.frozen? ⟨j, 4, none⟩ = false) (fj5 : w.frozen? ⟨j, 5, none⟩ = false) (m6 : w.cell? ⟨m, 6, none⟩ = some (.pointer (none))) (m7 : w.cell? ⟨m, 7, none⟩ = some (.pointer (none))) (pom : PtrIn M (none)) (pnm : PtrIn M (none)) (fm6 : w.frozen? ⟨m, 6, none⟩ = false) (fm7 : w.frozen? ⟨m, 7, none⟩ = false) :
    Calls Try.prog 43 #[.pointer (some ⟨j, 0, none⟩), .pointer (some ⟨m, 0, none⟩)] w fun e w' => e = .returned (.tuple #[]) ∧ Relinked w w' j M := by
  have hS := eql58_same
  have hN := eql58_nil
  go_enter Try.func43, Try.ntmps43
  go_wp2
  go_end0
  refine ⟨rfl, ?_⟩
  repeat' (first
    | with_reducible exact Relinked.refl _ _ _
    | with_reducible refine Relinked.drew ?_
    | with_reducible refine Relinked.s6 hL.out ?_ (by assumption) (by first | assumption | exact PtrIn.none _ | exact PtrIn.some (by assumption))
    | with_reducible refine Relinked.s7 hL.out ?_ (by assumption) (by first | assumption | exact PtrIn.none _ | exact PtrIn.some (by assumption))
    | with_reducible refine Relinked.s4 hL.out ?_ (by first | assumption | exact PtrIn.none _ | exact PtrIn.some (by assumption))
    | with_reducible refine Relinked.s5 hL.out ?_ (by first | assumption | exact PtrIn.none _ | exact PtrIn.some (by assumption)))

set_option maxHeartbeats 1000000 in
theorem unlink_A2C3 (j m : Nat) (M : Nat → Prop) (w : World) (hL : Hid (LInv w j M)) (hm : M m) (b : Nat) (hb : M b) (hnb : b ≠ m) (j4 : w.cell? ⟨j, 4, none⟩ = some (.pointer (some ⟨m, 0, none⟩))) (j5 : w.cell? ⟨j, 5, none⟩ = some (.pointer (some ⟨b, 0, none⟩))) (poj : PtrIn M (some ⟨m, 0, none⟩)) (pnj : PtrIn M (some ⟨b, 0, none⟩)) (fj4 : w.frozen? ⟨j, 4, none⟩ = false) (fj5 : w.frozen? ⟨j, 5, none⟩ = false) (m6 : w.cell? ⟨m, 6, none⟩ = some (.pointer (none))) (m7 : w.cell? ⟨m, 7, none⟩ = some (.pointer (none))) (pom : PtrIn M (none)) (pnm : PtrIn M (none)) (fm6 : w.frozen? ⟨m, 6, none⟩ = false) (fm7 : w.frozen? ⟨m, 7, none⟩ = false) :
    Calls Try.prog 43 #[.pointer (some ⟨j, 0, none⟩), .pointer (some ⟨m, 0, none⟩)] w fun e w' => e = .returned (.tuple #[]) ∧ Relinked w w' j M := by
  have hS := eql58_same
  have hN := eql58_nil
  have hO2 := (hL.out.re (w' := (w.setCell ⟨j, 4, none⟩ (.pointer (none)))) (hL.out.set4 pnm)).eql_other hb hm hnb
  go_enter Try.func43, Try.ntmps43
  go_wp2
  go_end0
  refine ⟨rfl, ?_⟩
  repeat' (first
    | with_reducible exact Relinked.refl _ _ _
    | with_reducible refine Relinked.drew ?_
    | with_reducible refine Relinked.s6 hL.out ?_ (by assumption) (by first | assumption | exact PtrIn.none _ | exact PtrIn.some (by assumption))
    | with_reducible refine Relinked.s7 hL.out ?_ (by assumption) (by first | assumption | exact PtrIn.none _ | exact PtrIn.some (by assumption))
    | with_reducible refine Relinked.s4 hL.out ?_ (by first | assumption | exact PtrIn.none _ | exact PtrIn.some (by assumption))
    | with_reducible refine Relinked.s5 hL.out ?_ (by first | assumption | exact PtrIn.none _ | exact PtrIn.some (by assumption)))

set_option maxHeartbeats 1000000 in
theorem unlink_A2D1 (j m : Nat) (M : Nat → Prop) (w : World) (hL : Hid (LInv w j M)) (hm : M m) (nj : Option Addr) (j4 : w.cell? ⟨j, 4, none⟩ = some (.pointer (some ⟨m, 0, none⟩))) (j5 : w.cell? ⟨j, 5, none⟩ = some (.pointer (nj))) (poj : PtrIn M (some ⟨m, 0, none⟩)) (pnj : PtrIn M (nj)) (fj4 : w.frozen? ⟨j, 4, none⟩ = false) (fj5 : w.frozen? ⟨j, 5, none⟩ = false) (m6 : w.cell? ⟨m, 6, none⟩ = some (.pointer (none))) (m7 : w.cell? ⟨m, 7, none⟩ = some (.pointer (some ⟨m, 0, none⟩))) (pom : PtrIn M (none)) (pnm : PtrIn M (some ⟨m, 0, none⟩)) (fm6 : w.frozen? ⟨m, 6, none⟩ = false) (fm7 : w.frozen? ⟨m, 7, none⟩ = false) :
    Calls Try.prog 43 #[.pointer (some ⟨j, 0, none⟩), .pointer (some ⟨m, 0, none⟩)] w fun e w' => e = .returned (.tuple #[]) ∧ Relinked w w' j M := by
  have hS := eql58_same
  have hN := eql58_nil
  go_enter Try.func43, Try.ntmps43
  go_wp2
  go_region
  go_wp2
  go_end0
  refine ⟨rfl, ?_⟩
  repeat' (first
    | with_reducible exact Relinked.refl _ _ _
    | with_reducible refine Relinked.drew ?_
    | with_reducible refine Relinked.s6 hL.out ?_ (by assumption) (by first | assumption | exact PtrIn.none _ | exact PtrIn.some (by assumption))
    | with_reducible refine Relinked.s7 hL.out ?_ (by assumption) (by first | assumption | exact PtrIn.none _ | exact PtrIn.some (by assumption))
    | with_reducible refine Relinked.s4 hL.out ?_ (by first | assumption | exact PtrIn.none _ | exact PtrIn.some (by assumption))
    | with_reducible refine Relinked.s5 hL.out ?_ (by first | assumption | exact PtrIn.none _ | exact PtrIn.some (by assumption)))

set_option maxHeartbeats 1000000 in
theorem unlink_A2D2 (j m : Nat) (M : Nat → Prop) (w : World) (hL : Hid (LInv w j M)) (hm : M m) (b : Nat) (hb : M b) (hnb : ¬ b = m) (nj : Option Addr) (j4 : w.cell? ⟨j, 4, none⟩ = some (.pointer (some ⟨m, 0, none⟩))) (j5 : w.cell? ⟨j, 5, none⟩ = some (.pointer (nj))) (poj : PtrIn M (some ⟨m, 0, none⟩)) (pnj : PtrIn M (nj)) (fj4 : w.frozen? ⟨j, 4, none⟩ = false) (fj5 : w.frozen? ⟨j, 5, none⟩ = false) (m6 : w.cell? ⟨m, 6, none⟩ = some (.pointer (none))) (m7 : w.cell? ⟨m, 7, none⟩ = some (.pointer (some ⟨b, 0, none⟩))) (pom : PtrIn M (none)) (pnm : PtrIn M (some ⟨b, 0, none⟩)) (fm6 : w.frozen? ⟨m, 6, none⟩ = false) (fm7 : w.frozen? ⟨m, 7, none⟩ = false) :
    Calls Try.prog 43 #[.pointer (some ⟨j, 0, none⟩), .pointer (some ⟨m, 0, none⟩)] w fun e w' => e = .returned (.tuple #[]) ∧ Relinked w w' j M := by
  have hS := eql58_same
  have hN := eql58_nil
  obtain ⟨ob, nb, b6, b7, pob, pnb, fb6, fb7⟩ := hL.out.m_cells hb
  go_enter Try.func43, Try.ntmps43
  go_wp2
  go_region
  go_wp2
  go_end0
  refine ⟨rfl, ?_⟩
  repeat' (first
    | with_reducible exact Relinked.refl _ _ _
    | with_reducible refine Relinked.drew ?_
    | with_reducible refine Relinked.s6 hL.out ?_ (by assumption) (by first | assumption | exact PtrIn.none _ | exact PtrIn.some (by assumption))
    | with_reducible refine Relinked.s7 hL.out ?_ (by assumption) (by first | assumption | exact PtrIn.none _ | exact PtrIn.some (by assumption))
    | with_reducible refine Relinked.s4 hL.out ?_ (by first | assumption | exact PtrIn.none _ | exact PtrIn.some (by assumption))
    | with_reducible refine Relinked.s5 hL.out ?_ (by first | assumption | exact PtrIn.none _ | exact PtrIn.some (by assumption)))

set_option maxHeartbeats 1000000 in
theorem unlink_A3C1 (j m : Nat) (M : Nat → Prop) (w : World) (hL : Hid (LInv w j M)) (hm : M m) (a : Nat) (ha : M a) (hne : a ≠ m) (j4 : w.cell? ⟨j, 4, none⟩ = some (.pointer (some ⟨a, 0, none⟩))) (j5 : w.cell? ⟨j, 5, none⟩ = some (.pointer (none))) (poj : PtrIn M (some ⟨a, 0, none⟩)) (pnj : PtrIn M (none)) (fj4 : w.frozen? ⟨j, 4, none⟩ = false) (fj5 : w.frozen? ⟨j, 5, none⟩ = false) (m6 : w.cell? ⟨m, 6, none⟩ = some (.pointer (none))) (m7 : w.cell? ⟨m, 7, none⟩ = some (.pointer (none))) (pom : PtrIn M (none)) (pnm : PtrIn M (none)) (fm6 : w.frozen? ⟨m, 6, none⟩ = false) (fm7 : w.frozen? ⟨m, 7, none⟩ = false) :
    Calls Try.prog 43 #[.pointer (some ⟨j, 0, none⟩), .pointer (some ⟨m, 0, none⟩)] w fun e w' => e = .returned (.tuple #[]) ∧ Relinked w w' j M := by
  have hS := eql58_same
  have hN := eql58_nil
  have hO := hL.out.eql_other ha hm hne
  go_enter Try.func43, Try.ntmps43
  go_wp2
  go_end0
  refine ⟨rfl, ?_⟩
  repeat' (first
    | with_reducible exact Relinked.refl _ _ _
    | with_reducible refine Relinked.drew ?_
    | with_reducible refine Relinked.s6 hL.out ?_ (by assumption) (by first | assumption | exact PtrIn.none _ | exact PtrIn.some (by assumption))
    | with_reducible refine Relinked.s7 hL.out ?_ (by assumption) (by first | assumption | exact PtrIn.none _ | exact PtrIn.some (by assumption))
    | with_reducible refine Relinked.s4 hL.out ?_ (by first | assumption | exact PtrIn.none _ | exact PtrIn.some (by assumption))
    | with_reducible refine Relinked.s5 hL.out ?_ (by first | assumption | exact PtrIn.none _ | exact PtrIn.some (by assumption)))

set_option maxHeartbeats 1000000 in
theorem unlink_A3C2 (j m : Nat) (M : Nat → Prop) (w : World) (hL : Hid (LInv w j M)) (hm : M m) (a : Nat) (ha : M a) (hne : a ≠ m) (j4 : w.cell? ⟨j, 4, none⟩ = some (.pointer (some ⟨a, 0, none⟩))) (j5 : w.cell? ⟨j, 5, none⟩ = some (.pointer (some ⟨m, 0, none⟩))) (poj : PtrIn M (some ⟨a, 0, none⟩)) (pnj : PtrIn M (some ⟨m, 0, none⟩)) (fj4 : w.frozen? ⟨j, 4, none⟩ = false) (fj5 : w.frozen? ⟨j, 5, none⟩ = false) (m6 : w.cell? ⟨m, 6, none⟩ = some (.pointer (none))) (m7 : w.cell? ⟨m, 7, none⟩ = some (.pointer (none))) (pom : PtrIn M (none)) (pnm : PtrIn M (none)) (fm6 : w.frozen? ⟨m, 6, none⟩ = false) (fm7 : w.frozen? ⟨m, 7, none⟩ = false) :
    Calls Try.prog 43 #[.pointer (some ⟨j, 0, none⟩), .pointer (some ⟨m, 0, none⟩)] w fun e w' => e = .returned (.tuple #[]) ∧ Relinked w w' j M := by
  have hS := eql58_same
  have hN := eql58_nil
  have hO := hL.out.eql_other ha hm hne
  go_enter Try.func43, Try.ntmps43
  go_wp2
  go_end0
  refine ⟨rfl, ?_⟩
  repeat' (first
    | with_reducible exact Relinked.refl _ _ _
    | with_reducible refine Relinked.drew ?_
    | with_reducible refine Relinked.s6 hL.out ?_ (by assumption) (by first | assumption | exact PtrIn.none _ | exact PtrIn.some (by assumption))
    | with_reducible refine Relinked.s7 hL.out ?_ (by assumption) (by first | assumption | exact PtrIn.none _ | exact PtrIn.some (by assumption))
    | with_reducible refine Relinked.s4 hL.out ?_ (by first | assumption | exact PtrIn.none _ | exact PtrIn.some (by assumption))
    | with_reducible refine Relinked.s5 hL.out ?_ (by first | assumption | exact PtrIn.none _ | exact PtrIn.some (by assumption)))

set_option maxHeartbeats 1000000 in
theorem unlink_A3C3 (j m : Nat) (M : Nat → Prop) (w : World) (hL : Hid (LInv w j M)) (hm : M m) (a : Nat) (ha : M a) (hne : a ≠ m) (b : Nat) (hb : M b) (hnb : b ≠ m) (j4 : w.cell? ⟨j, 4, none⟩ = some (.pointer (some ⟨a, 0, none⟩))) (j5 : w.cell? ⟨j, 5, none⟩ = some (.pointer (some ⟨b, 0, none⟩))) (poj : PtrIn M (some ⟨a, 0, none⟩)) (pnj : PtrIn M (some ⟨b, 0, none⟩)) (fj4 : w.frozen? ⟨j, 4, none⟩ = false) (fj5 : w.frozen? ⟨j, 5, none⟩ = false) (m6 : w.cell? ⟨m, 6, none⟩ = some (.pointer (none))) (m7 : w.cell? ⟨m, 7, none⟩ = some (.pointer (none))) (pom : PtrIn M (none)) (pnm : PtrIn M (none)) (fm6 : w.frozen? ⟨m, 6, none⟩ = false) (fm7 : w.frozen? ⟨m, 7, none⟩ = false) :
    Calls Try.prog 43 #[.pointer (some ⟨j, 0, none⟩), .pointer (some ⟨m, 0, none⟩)] w fun e w' => e = .returned (.tuple #[]) ∧ Relinked w w' j M := by
  have hS := eql58_same
  have hN := eql58_nil
  have hO := hL.out.eql_other ha hm hne
  have hO2 := (hL.out.re (w' := w) (Relinked.refl _ _ _)).eql_other hb hm hnb
  go_enter Try.func43, Try.ntmps43
  go_wp2
  go_end0
  refine ⟨rfl, ?_⟩
  repeat' (first
    | with_reducible exact Relinked.refl _ _ _
    | with_reducible refine Relinked.drew ?_
    | with_reducible refine Relinked.s6 hL.out ?_ (by assumption) (by first | assumption | exact PtrIn.none _ | exact PtrIn.some (by assumption))
    | with_reducible refine Relinked.s7 hL.out ?_ (by assumption) (by first | assumption | exact PtrIn.none _ | exact PtrIn.some (by assumption))
    | with_reducible refine Relinked.s4 hL.out ?_ (by first | assumption | exact PtrIn.none _ | exact PtrIn.some (by assumption))
    | with_reducible refine Relinked.s5 hL.out ?_ (by first | assumption | exact PtrIn.none _ | exact PtrIn.some (by assumption)))

set_option maxHeartbeats 1000000 in
theorem unlink_A3D1 (j m : Nat) (M : Nat → Prop) (w : World) (hL : Hid (LInv w j M)) (hm : M m) (a : Nat) (ha : M a) (hne : a ≠ m) (nj : Option Addr) (j4 : w.cell? ⟨j, 4, none⟩ = some (.pointer (some ⟨a, 0, none⟩))) (j5 : w.cell? ⟨j, 5, none⟩ = some (.pointer (nj))) (poj : PtrIn M (some ⟨a, 0, none⟩)) (pnj : PtrIn M (nj)) (fj4 : w.frozen? ⟨j, 4, none⟩ = false) (fj5 : w.frozen? ⟨j, 5, none⟩ = false) (m6 : w.cell? ⟨m, 6, none⟩ = some (.pointer (none))) (m7 : w.cell? ⟨m, 7, none⟩ = some (.pointer (some ⟨m, 0, none⟩))) (pom : PtrIn M (none)) (pnm : PtrIn M (some ⟨m, 0, none⟩)) (fm6 : w.frozen? ⟨m, 6, none⟩ = false) (fm7 : w.frozen? ⟨m, 7, none⟩ = false) :
    Calls Try.prog 43 #[.pointer (some ⟨j, 0, none⟩), .pointer (some ⟨m, 0, none⟩)] w fun e w' => e = .returned (.tuple #[]) ∧ Relinked w w' j M := by
  have hS := eql58_same
  have hN := eql58_nil
  have hO := hL.out.eql_other ha hm hne
  go_enter Try.func43, Try.ntmps43
  go_wp2
  go_region
  go_wp2
  go_end0
  refine ⟨rfl, ?_⟩
  repeat' (first
    | with_reducible exact Relinked.refl _ _ _
    | with_reducible refine Relinked.drew ?_
    | with_reducible refine Relinked.s6 hL.out ?_ (by assumption) (by first | assumption | exact PtrIn.none _ | exact PtrIn.some (by assumption))
    | with_reducible refine Relinked.s7 hL.out ?_ (by assumption) (by first | assumption | exact PtrIn.none _ | exact PtrIn.some (by assumption))
    | with_reducible refine Relinked.s4 hL.out ?_ (by first | assumption | exact PtrIn.none _ | exact PtrIn.some (by assumption))
    | with_reducible refine Relinked.s5 hL.out ?_ (by first | assumption | exact PtrIn.none _ | exact PtrIn.some (by assumption)))

set_option maxHeartbeats 1000000 in
theorem unlink_A3D2 (j m : Nat) (M : Nat → Prop) (w : World) (hL : Hid (LInv w j M)) (hm : M m) (a : Nat) (ha : M a) (hne : a ≠ m) (b : Nat) (hb : M b) (hnb : ¬ b = m) (nj : Option Addr) (j4 : w.cell? ⟨j, 4, none⟩ = some (.pointer (some ⟨a, 0, none⟩))) (j5 : w.cell? ⟨j, 5, none⟩ = some (.pointer (nj))) (poj : PtrIn M (some ⟨a, 0, none⟩)) (pnj : PtrIn M (nj)) (fj4 : w.frozen? ⟨j, 4, none⟩ = false) (fj5 : w.frozen? ⟨j, 5, none⟩ = false) (m6 : w.cell? ⟨m, 6, none⟩ = some (.pointer (none))) (m7 : w.cell? ⟨m, 7, none⟩ = some (.pointer (some ⟨b, 0, none⟩))) (pom : PtrIn M (none)) (pnm : PtrIn M (some ⟨b, 0, none⟩)) (fm6 : w.frozen? ⟨m, 6, none⟩ = false) (fm7 : w.frozen? ⟨m, 7, none⟩ = false) :
    Calls Try.prog 43 #[.pointer (some ⟨j, 0, none⟩), .pointer (some ⟨m, 0, none⟩)] w fun e w' => e = .returned (.tuple #[]) ∧ Relinked w w' j M := by
  have hS := eql58_same
  have hN := eql58_nil
  obtain ⟨ob, nb, b6, b7, pob, pnb, fb6, fb7⟩ := hL.out.m_cells hb
  have hO := hL.out.eql_other ha hm hne
  go_enter Try.func43, Try.ntmps43
  go_wp2
  go_region
  go_wp2
  go_end0
  refine ⟨rfl, ?_⟩
  repeat' (first
    | with_reducible exact Relinked.refl _ _ _
    | with_reducible refine Relinked.drew ?_
    | with_reducible refine Relinked.s6 hL.out ?_ (by assumption) (by first | assumption | exact PtrIn.none _ | exact PtrIn.some (by assumption))
    | with_reducible refine Relinked.s7 hL.out ?_ (by assumption) (by first | assumption | exact PtrIn.none _ | exact PtrIn.some (by assumption))
    | with_reducible refine Relinked.s4 hL.out ?_ (by first | assumption | exact PtrIn.none _ | exact PtrIn.some (by assumption))
    | with_reducible refine Relinked.s5 hL.out ?_ (by first | assumption | exact PtrIn.none _ | exact PtrIn.some (by assumption)))

set_option maxHeartbeats 1000000 in
theorem unlink_B1C1 (j m : Nat) (M : Nat → Prop) (w : World) (hL : Hid (LInv w j M)) (hm : M m) (oj : Option Addr) (j4 : w.cell? ⟨j, 4, none⟩ = some (.pointer (oj))) (j5 : w.cell? ⟨j, 5, none⟩ = some (.pointer (none))) (poj : PtrIn M (oj)) (pnj : PtrIn M (none)) (fj4 : w.frozen? ⟨j, 4, none⟩ = false) (fj5 : w.frozen? ⟨j, 5, none⟩ = false) (m6 : w.cell? ⟨m, 6, none⟩ = some (.pointer (some ⟨m, 0, none⟩))) (m7 : w.cell? ⟨m, 7, none⟩ = some (.pointer (none))) (pom : PtrIn M (some ⟨m, 0, none⟩)) (pnm : PtrIn M (none)) (fm6 : w.frozen? ⟨m, 6, none⟩ = false) (fm7 : w.frozen? ⟨m, 7, none⟩ = false) :
    Calls Try.prog 43 #[.pointer (some ⟨j, 0, none⟩), .pointer (some ⟨m, 0, none⟩)] w fun e w' => e = .returned (.tuple #[]) ∧ Relinked w w' j M := by
  have hS := eql58_same
  have hN := eql58_nil
  go_enter Try.func43, Try.ntmps43
  go_wp2
  go_region
  go_wp2
  go_end0
  refine ⟨rfl, ?_⟩
  repeat' (first
    | with_reducible exact Relinked.refl _ _ _
    | with_reducible refine Relinked.drew ?_
    | with_reducible refine Relinked.s6 hL.out ?_ (by assumption) (by first | assumption | exact PtrIn.none _ | exact PtrIn.some (by assumption))
    | with_reducible refine Relinked.s7 hL.out ?_ (by assumption) (by first | assumption | exact PtrIn.none _ | exact PtrIn.some (by assumption))
    | with_reducible refine Relinked.s4 hL.out ?_ (by first | assumption | exact PtrIn.none _ | exact PtrIn.some (by assumption))
    | with_reducible refine Relinked.s5 hL.out ?_ (by first | assumption | exact PtrIn.none _ | exact PtrIn.some (by assumption)))

set_option maxHeartbeats 1000000 in
theorem unlink_B1C2 (j m : Nat) (M : Nat → Prop) (w : World) (hL : Hid (LInv w j M)) (hm : M m) (oj : Option Addr) (j4 : w.cell? ⟨j, 4, none⟩ = some (.pointer (oj))) (j5 : w.cell? ⟨j, 5, none⟩ = some (.pointer (some ⟨m, 0, none⟩))) (poj : PtrIn M (oj)) (pnj : PtrIn M (some ⟨m, 0, none⟩)) (fj4 : w.frozen? ⟨j, 4, none⟩ = false) (fj5 : w.frozen? ⟨j, 5, none⟩ = false) (m6 : w.cell? ⟨m, 6, none⟩ = some (.pointer (some ⟨m, 0, none⟩))) (m7 : w.cell? ⟨m, 7, none⟩ = some (.pointer (none))) (pom : PtrIn M (some ⟨m, 0, none⟩)) (pnm : PtrIn M (none)) (fm6 : w.frozen? ⟨m, 6, none⟩ = false) (fm7 : w.frozen? ⟨m, 7, none⟩ = false) :
    Calls Try.prog 43 #[.pointer (some ⟨j, 0, none⟩), .pointer (some ⟨m, 0, none⟩)] w fun e w' => e = .returned (.tuple #[]) ∧ Relinked w w' j M := by
  have hS := eql58_same
  have hN := eql58_nil
  go_enter Try.func43, Try.ntmps43
  go_wp2
  go_region
  go_wp2
  go_end0
  refine ⟨rfl, ?_⟩
  repeat' (first
    | with_reducible exact Relinked.refl _ _ _
    | with_reducible refine Relinked.drew ?_
    | with_reducible refine Relinked.s6 hL.out ?_ (by assumption) (by first | assumption | exact PtrIn.none _ | exact PtrIn.some (by assumption))
    | with_reducible refine Relinked.s7 hL.out ?_ (by assumption) (by first | assumption | exact PtrIn.none _ | exact PtrIn.some (by assumption))
    | with_reducible refine Relinked.s4 hL.out ?_ (by first | assumption | exact PtrIn.none _ | exact PtrIn.some (by assumption))
    | with_reducible refine Relinked.s5 hL.out ?_ (by first | assumption | exact PtrIn.none _ | exact PtrIn.some (by assumption)))

set_option maxHeartbeats 1000000 in
theorem unlink_B1C3 (j m : Nat) (M : Nat → Prop) (w : World) (hL : Hid (LInv w j M)) (hm : M m) (b : Nat) (hb : M b) (hnb : b ≠ m) (oj : Option Addr) (j4 : w.cell? ⟨j, 4, none⟩ = some (.pointer (oj))) (j5 : w.cell? ⟨j, 5, none⟩ = some (.pointer (some ⟨b, 0, none⟩))) (poj : PtrIn M (oj)) (pnj : PtrIn M (some ⟨b, 0, none⟩)) (fj4 : w.frozen? ⟨j, 4, none⟩ = false) (fj5 : w.frozen? ⟨j, 5, none⟩ = false) (m6 : w.cell? ⟨m, 6, none⟩ = some (.pointer (some ⟨m, 0, none⟩))) (m7 : w.cell? ⟨m, 7, none⟩ = some (.pointer (none))) (pom : PtrIn M (some ⟨m, 0, none⟩)) (pnm : PtrIn M (none)) (fm6 : w.frozen? ⟨m, 6, none⟩ = false) (fm7 : w.frozen? ⟨m, 7, none⟩ = false) :
    Calls Try.prog 43 #[.pointer (some ⟨j, 0, none⟩), .pointer (some ⟨m, 0, none⟩)] w fun e w' => e = .returned (.tuple #[]) ∧ Relinked w w' j M := by
  have hS := eql58_same
  have hN := eql58_nil
  have hO2 := (hL.out.re (w' := (w.setCell ⟨m, 7, none⟩ (.pointer (none))).drew) ((hL.out.set7 hm pnm).drew)).eql_other hb hm hnb
  go_enter Try.func43, Try.ntmps43
  go_wp2
  go_region
  go_wp2
  go_end0
  refine ⟨rfl, ?_⟩
  repeat' (first
    | with_reducible exact Relinked.refl _ _ _
    | with_reducible refine Relinked.drew ?_
    | with_reducible refine Relinked.s6 hL.out ?_ (by assumption) (by first | assumption | exact PtrIn.none _ | exact PtrIn.some (by assumption))
    | with_reducible refine Relinked.s7 hL.out ?_ (by assumption) (by first | assumption | exact PtrIn.none _ | exact PtrIn.some (by assumption))
    | with_reducible refine Relinked.s4 hL.out ?_ (by first | assumption | exact PtrIn.none _ | exact PtrIn.some (by assumption))
    | with_reducible refine Relinked.s5 hL.out ?_ (by first | assumption | exact PtrIn.none _ | exact PtrIn.some (by assumption)))

set_option maxHeartbeats 1000000 in
theorem unlink_B1D1 (j m : Nat) (M : Nat → Prop) (w : World) (hL : Hid (LInv w j M)) (hm : M m) (oj nj : Option Addr) (j4 : w.cell? ⟨j, 4, none⟩ = some (.pointer (oj))) (j5 : w.cell? ⟨j, 5, none⟩ = some (.pointer (nj))) (poj : PtrIn M (oj)) (pnj : PtrIn M (nj)) (fj4 : w.frozen? ⟨j, 4, none⟩ = false) (fj5 : w.frozen? ⟨j, 5, none⟩ = false) (m6 : w.cell? ⟨m, 6, none⟩ = some (.pointer (some ⟨m, 0, none⟩))) (m7 : w.cell? ⟨m, 7, none⟩ = some (.pointer (some ⟨m, 0, none⟩))) (pom : PtrIn M (some ⟨m, 0, none⟩)) (pnm : PtrIn M (some ⟨m, 0, none⟩)) (fm6 : w.frozen? ⟨m, 6, none⟩ = false) (fm7 : w.frozen? ⟨m, 7, none⟩ = false) :
    Calls Try.prog 43 #[.pointer (some ⟨j, 0, none⟩), .pointer (some ⟨m, 0, none⟩)] w fun e w' => e = .returned (.tuple #[]) ∧ Relinked w w' j M := by
  have hS := eql58_same
  have hN := eql58_nil
  go_enter Try.func43, Try.ntmps43
  go_wp2
  go_region
  go_wp2
  go_region
  go_wp2
  go_end0
  refine ⟨rfl, ?_⟩
  repeat' (first
    | with_reducible exact Relinked.refl _ _ _
    | with_reducible refine Relinked.drew ?_
    | with_reducible refine Relinked.s6 hL.out ?_ (by assumption) (by first | assumption | exact PtrIn.none _ | exact PtrIn.some (by assumption))
    | with_reducible refine Relinked.s7 hL.out ?_ (by assumption) (by first | assumption | exact PtrIn.none _ | exact PtrIn.some (by assumption))
    | with_reducible refine Relinked.s4 hL.out ?_ (by first | assumption | exact PtrIn.none _ | exact PtrIn.some (by assumption))
    | with_reducible refine Relinked.s5 hL.out ?_ (by first | assumption | exact PtrIn.none _ | exact PtrIn.some (by assumption)))

set_option maxHeartbeats 1000000 in
theorem unlink_B1D2 (j m : Nat) (M : Nat → Prop) (w : World) (hL : Hid (LInv w j M)) (hm : M m) (b : Nat) (hb : M b) (hnb : ¬ b = m) (oj nj : Option Addr) (j4 : w.cell? ⟨j, 4, none⟩ = some (.pointer (oj))) (j5 : w.cell? ⟨j, 5, none⟩ = some (.pointer (nj))) (poj : PtrIn M (oj)) (pnj : PtrIn M (nj)) (fj4 : w.frozen? ⟨j, 4, none⟩ = false) (fj5 : w.frozen? ⟨j, 5, none⟩ = false) (m6 : w.cell? ⟨m, 6, none⟩ = some (.pointer (some ⟨m, 0, none⟩))) (m7 : w.cell? ⟨m, 7, none⟩ = some (.pointer (some ⟨b, 0, none⟩))) (pom : PtrIn M (some ⟨m, 0, none⟩)) (pnm : PtrIn M (some ⟨b, 0, none⟩)) (fm6 : w.frozen? ⟨m, 6, none⟩ = false) (fm7 : w.frozen? ⟨m, 7, none⟩ = false) :
    Calls Try.prog 43 #[.pointer (some ⟨j, 0, none⟩), .pointer (some ⟨m, 0, none⟩)] w fun e w' => e = .returned (.tuple #[]) ∧ Relinked w w' j M := by
  have hS := eql58_same
  have hN := eql58_nil
  obtain ⟨ob, nb, b6, b7, pob, pnb, fb6, fb7⟩ := hL.out.m_cells hb
  go_enter Try.func43, Try.ntmps43
  go_wp2
  go_region
  go_wp2
  go_region
  go_wp2
  go_end0
  refine ⟨rfl, ?_⟩
  repeat' (first
    | with_reducible exact Relinked.refl _ _ _
    | with_reducible refine Relinked.drew ?_
    | with_reducible refine Relinked.s6 hL.out ?_ (by assumption) (by first | assumption | exact PtrIn.none _ | exact PtrIn.some (by assumption))
    | with_reducible refine Relinked.s7 hL.out ?_ (by assumption) (by first | assumption | exact PtrIn.none _ | exact PtrIn.some (by assumption))
    | with_reducible refine Relinked.s4 hL.out ?_ (by first | assumption | exact PtrIn.none _ | exact PtrIn.some (by assumption))
    | with_reducible refine Relinked.s5 hL.out ?_ (by first | assumption | exact PtrIn.none _ | exact PtrIn.some (by assumption)))

set_option maxHeartbeats 1000000 in
theorem unlink_B2C1 (j m : Nat) (M : Nat → Prop) (w : World) (hL : Hid (LInv w j M)) (hm : M m) (a : Nat) (ha : M a) (hne : ¬ a = m) (oj : Option Addr) (j4 : w.cell? ⟨j, 4, none⟩ = some (.pointer (oj))) (j5 : w.cell? ⟨j, 5, none⟩ = some (.pointer (none))) (poj : PtrIn M (oj)) (pnj : PtrIn M (none)) (fj4 : w.frozen? ⟨j, 4, none⟩ = false) (fj5 : w.frozen? ⟨j, 5, none⟩ = false) (m6 : w.cell? ⟨m, 6, none⟩ = some (.pointer (some ⟨a, 0, none⟩))) (m7 : w.cell? ⟨m, 7, none⟩ = some (.pointer (none))) (pom : PtrIn M (some ⟨a, 0, none⟩)) (pnm : PtrIn M (none)) (fm6 : w.frozen? ⟨m, 6, none⟩ = false) (fm7 : w.frozen? ⟨m, 7, none⟩ = false) :
    Calls Try.prog 43 #[.pointer (some ⟨j, 0, none⟩), .pointer (some ⟨m, 0, none⟩)] w fun e w' => e = .returned (.tuple #[]) ∧ Relinked w w' j M := by
  have hS := eql58_same
  have hN := eql58_nil
  obtain ⟨oa, na, a6, a7, poa, pna, fa6, fa7⟩ := hL.out.m_cells ha
  go_enter Try.func43, Try.ntmps43
  go_wp2
  go_region
  go_wp2
  go_end0
  refine ⟨rfl, ?_⟩
  repeat' (first
    | with_reducible exact Relinked.refl _ _ _
    | with_reducible refine Relinked.drew ?_
    | with_reducible refine Relinked.s6 hL.out ?_ (by assumption) (by first | assumption | exact PtrIn.none _ | exact PtrIn.some (by assumption))
    | with_reducible refine Relinked.s7 hL.out ?_ (by assumption) (by first | assumption | exact PtrIn.none _ | exact PtrIn.some (by assumption))
    | with_reducible refine Relinked.s4 hL.out ?_ (by first | assumption | exact PtrIn.none _ | exact PtrIn.some (by assumption))
    | with_reducible refine Relinked.s5 hL.out ?_ (by first | assumption | exact PtrIn.none _ | exact PtrIn.some (by assumption)))

set_option maxHeartbeats 1000000 in
theorem unlink_B2C2 (j m : Nat) (M : Nat → Prop) (w : World) (hL : Hid (LInv w j M)) (hm : M m) (a : Nat) (ha : M a) (hne : ¬ a = m) (oj : Option Addr) (j4 : w.cell? ⟨j, 4, none⟩ = some (.pointer (oj))) (j5 : w.cell? ⟨j, 5, none⟩ = some (.pointer (some ⟨m, 0, none⟩))) (poj : PtrIn M (oj)) (pnj : PtrIn M (some ⟨m, 0, none⟩)) (fj4 : w.frozen? ⟨j, 4, none⟩ = false) (fj5 : w.frozen? ⟨j, 5, none⟩ = false) (m6 : w.cell? ⟨m, 6, none⟩ = some (.pointer (some ⟨a, 0, none⟩))) (m7 : w.cell? ⟨m, 7, none⟩ = some (.pointer (none))) (pom : PtrIn M (some ⟨a, 0, none⟩)) (pnm : PtrIn M (none)) (fm6 : w.frozen? ⟨m, 6, none⟩ = false) (fm7 : w.frozen? ⟨m, 7, none⟩ = false) :
    Calls Try.prog 43 #[.pointer (some ⟨j, 0, none⟩), .pointer (some ⟨m, 0, none⟩)] w fun e w' => e = .returned (.tuple #[]) ∧ Relinked w w' j M := by
  have hS := eql58_same
  have hN := eql58_nil
  obtain ⟨oa, na, a6, a7, poa, pna, fa6, fa7⟩ := hL.out.m_cells ha
  go_enter Try.func43, Try.ntmps43
  go_wp2
  go_region
  go_wp2
  go_end0
  refine ⟨rfl, ?_⟩
  repeat' (first
    | with_reducible exact Relinked.refl _ _ _
    | with_reducible refine Relinked.drew ?_
    | with_reducible refine Relinked.s6 hL.out ?_ (by assumption) (by first | assumption | exact PtrIn.none _ | exact PtrIn.some (by assumption))
    | with_reducible refine Relinked.s7 hL.out ?_ (by assumption) (by first | assumption | exact PtrIn.none _ | exact PtrIn.some (by assumption))
    | with_reducible refine Relinked.s4 hL.out ?_ (by first | assumption | exact PtrIn.none _ | exact PtrIn.some (by assumption))
    | with_reducible refine Relinked.s5 hL.out ?_ (by first | assumption | exact PtrIn.none _ | exact PtrIn.some (by assumption)))

set_option maxHeartbeats 1000000 in
theorem unlink_B2C3 (j m : Nat) (M : Nat → Prop) (w : World) (hL : Hid (LInv w j M)) (hm : M m) (a : Nat) (ha : M a) (hne : ¬ a = m) (b : Nat) (hb : M b) (hnb : b ≠ m) (oj : Option Addr) (j4 : w.cell? ⟨j, 4, none⟩ = some (.pointer (oj))) (j5 : w.cell? ⟨j, 5, none⟩ = some (.pointer (some ⟨b, 0, none⟩))) (poj : PtrIn M (oj)) (pnj : PtrIn M (some ⟨b, 0, none⟩)) (fj4 : w.frozen? ⟨j, 4, none⟩ = false) (fj5 : w.frozen? ⟨j, 5, none⟩ = false) (m6 : w.cell? ⟨m, 6, none⟩ = some (.pointer (some ⟨a, 0, none⟩))) (m7 : w.cell? ⟨m, 7, none⟩ = some (.pointer (none))) (pom : PtrIn M (some ⟨a, 0, none⟩)) (pnm : PtrIn M (none)) (fm6 : w.frozen? ⟨m, 6, none⟩ = false) (fm7 : w.frozen? ⟨m, 7, none⟩ = false) :
    Calls Try.prog 43 #[.pointer (some ⟨j, 0, none⟩), .pointer (some ⟨m, 0, none⟩)] w fun e w' => e = .returned (.tuple #[]) ∧ Relinked w w' j M := by
  have hS := eql58_same
  have hN := eql58_nil
  obtain ⟨oa, na, a6, a7, poa, pna, fa6, fa7⟩ := hL.out.m_cells ha
  have hO2 := (hL.out.re (w' := (w.setCell ⟨a, 7, none⟩ (.pointer (none))).drew) ((hL.out.set7 ha pnm).drew)).eql_other hb hm hnb
  go_enter Try.func43, Try.ntmps43
  go_wp2
  go_region
  go_wp2
  go_end0
  refine ⟨rfl, ?_⟩
  repeat' (first
    | with_reducible exact Relinked.refl _ _ _
    | with_reducible refine Relinked.drew ?_
    | with_reducible refine Relinked.s6 hL.out ?_ (by assumption) (by first | assumption | exact PtrIn.none _ | exact PtrIn.some (by assumption))
    | with_reducible refine Relinked.s7 hL.out ?_ (by assumption) (by first | assumption | exact PtrIn.none _ | exact PtrIn.some (by assumption))
    | with_reducible refine Relinked.s4 hL.out ?_ (by first | assumption | exact PtrIn.none _ | exact PtrIn.some (by assumption))
    | with_reducible refine Relinked.s5 hL.out ?_ (by first | assumption | exact PtrIn.none _ | exact PtrIn.some (by assumption)))

set_option maxHeartbeats 1000000 in
theorem unlink_B2D1 (j m : Nat) (M : Nat → Prop) (w : World) (hL : Hid (LInv w j M)) (hm : M m) (a : Nat) (ha : M a) (hne : ¬ a = m) (oj nj : Option Addr) (j4 : w.cell? ⟨j, 4, none⟩ = some (.pointer (oj))) (j5 : w.cell? ⟨j, 5, none⟩ = some (.pointer (nj))) (poj : PtrIn M (oj)) (pnj : PtrIn M (nj)) (fj4 : w.frozen? ⟨j, 4, none⟩ = false) (fj5 : w.frozen? ⟨j, 5, none⟩ = false) (m6 : w.cell? ⟨m, 6, none⟩ = some (.pointer (some ⟨a, 0, none⟩))) (m7 : w.cell? ⟨m, 7, none⟩ = some (.pointer (some ⟨m, 0, none⟩))) (pom : PtrIn M (some ⟨a, 0, none⟩)) (pnm : PtrIn M (some ⟨m, 0, none⟩)) (fm6 : w.frozen? ⟨m, 6, none⟩ = false) (fm7 : w.frozen? ⟨m, 7, none⟩ = false) :
    Calls Try.prog 43 #[.pointer (some ⟨j, 0, none⟩), .pointer (some ⟨m, 0, none⟩)] w fun e w' => e = .returned (.tuple #[]) ∧ Relinked w w' j M := by
  have hS := eql58_same
  have hN := eql58_nil
  obtain ⟨oa, na, a6, a7, poa, pna, fa6, fa7⟩ := hL.out.m_cells ha
  go_enter Try.func43, Try.ntmps43
  go_wp2
  go_region
  go_wp2
  go_region
  go_wp2
  go_end0
  refine ⟨rfl, ?_⟩
  repeat' (first
    | with_reducible exact Relinked.refl _ _ _
    | with_reducible refine Relinked.drew ?_
    | with_reducible refine Relinked.s6 hL.out ?_ (by assumption) (by first | assumption | exact PtrIn.none _ | exact PtrIn.some (by assumption))
    | with_reducible refine Relinked.s7 hL.out ?_ (by assumption) (by first | assumption | exact PtrIn.none _ | exact PtrIn.some (by assumption))
    | with_reducible refine Relinked.s4 hL.out ?_ (by first | assumption | exact PtrIn.none _ | exact PtrIn.some (by assumption))
    | with_reducible refine Relinked.s5 hL.out ?_ (by first | assumption | exact PtrIn.none _ | exact PtrIn.some (by assumption)))

set_option maxHeartbeats 1000000 in
theorem unlink_B2D2 (j m : Nat) (M : Nat → Prop) (w : World) (hL : Hid (LInv w j M)) (hm : M m) (a : Nat) (ha : M a) (hne : ¬ a = m) (b : Nat) (hb : M b) (hnb : ¬ b = m) (oj nj : Option Addr) (j4 : w.cell? ⟨j, 4, none⟩ = some (.pointer (oj))) (j5 : w.cell? ⟨j, 5, none⟩ = some (.pointer (nj))) (poj : PtrIn M (oj)) (pnj : PtrIn M (nj)) (fj4 : w.frozen? ⟨j, 4, none⟩ = false) (fj5 : w.frozen? ⟨j, 5, none⟩ = false) (m6 : w.cell? ⟨m, 6, none⟩ = some (.pointer (some ⟨a, 0, none⟩))) (m7 : w.cell? ⟨m, 7, none⟩ = some (.pointer (some ⟨b, 0, none⟩))) (pom : PtrIn M (some ⟨a, 0, none⟩)) (pnm : PtrIn M (some ⟨b, 0, none⟩)) (fm6 : w.frozen? ⟨m, 6, none⟩ = false) (fm7 : w.frozen? ⟨m, 7, none⟩ = false) :
    Calls Try.prog 43 #[.pointer (some ⟨j, 0, none⟩), .pointer (some ⟨m, 0, none⟩)] w fun e w' => e = .returned (.tuple #[]) ∧ Relinked w w' j M := by
  have hS := eql58_same
  have hN := eql58_nil
  obtain ⟨oa, na, a6, a7, poa, pna, fa6, fa7⟩ := hL.out.m_cells ha
  obtain ⟨ob, nb, b6, b7, pob, pnb, fb6, fb7⟩ := hL.out.m_cells hb
  go_enter Try.func43, Try.ntmps43
  go_wp2
  go_region
  go_wp2
  go_region
  go_wp2
  go_end0
  refine ⟨rfl, ?_⟩
  repeat' (first
    | with_reducible exact Relinked.refl _ _ _
    | with_reducible refine Relinked.drew ?_
    | with_reducible refine Relinked.s6 hL.out ?_ (by assumption) (by first | assumption | exact PtrIn.none _ | exact PtrIn.some (by assumption))
    | with_reducible refine Relinked.s7 hL.out ?_ (by assumption) (by first | assumption | exact PtrIn.none _ | exact PtrIn.some (by assumption))
    | with_reducible refine Relinked.s4 hL.out ?_ (by first | assumption | exact PtrIn.none _ | exact PtrIn.some (by assumption))
    | with_reducible refine Relinked.s5 hL.out ?_ (by first | assumption | exact PtrIn.none _ | exact PtrIn.some (by assumption)))

theorem unlink_any (j m : Nat) (M : Nat → Prop) (w : World) (hL : Hid (LInv w j M)) (hm : Hid (M m)) :
    Calls Try.prog 43 #[.pointer (some ⟨j, 0, none⟩), .pointer (some ⟨m, 0, none⟩)] w fun e w' => e = .returned (.tuple #[]) ∧ Relinked w w' j M := by
  obtain ⟨oj, nj, j4, j5, poj, pnj, fj4, fj5⟩ := hL.out.j_cells
  obtain ⟨om, nm, m6, m7, pom, pnm, fm6, fm7⟩ := hL.out.m_cells hm.out
  cases om with
  | none =>
    cases oj with
    | none =>
      cases nm with
      | none =>
        cases nj with
        | none => exact unlink_A1C1 j m M w hL hm.out j4 j5 poj pnj fj4 fj5 m6 m7 pom pnm fm6 fm7
        | some x =>
          obtain ⟨b, hb, rfl⟩ := pnj x rfl
          by_cases hnb : m = b
          · subst hnb; exact unlink_A1C2 j m M w hL hm.out j4 j5 poj pnj fj4 fj5 m6 m7 pom pnm fm6 fm7
          · exact unlink_A1C3 j m M w hL hm.out b hb (fun e => hnb e.symm) j4 j5 poj pnj fj4 fj5 m6 m7 pom pnm fm6 fm7
      | some x =>
        obtain ⟨b, hb, rfl⟩ := pnm x rfl
        by_cases hnb : m = b
        · subst hnb; exact unlink_A1D1 j m M w hL hm.out nj j4 j5 poj pnj fj4 fj5 m6 m7 pom pnm fm6 fm7
        · exact unlink_A1D2 j m M w hL hm.out b hb (fun e => hnb e.symm) nj j4 j5 poj pnj fj4 fj5 m6 m7 pom pnm fm6 fm7
    | some x =>
      obtain ⟨a, ha, rfl⟩ := poj x rfl
      by_cases hne : m = a
      · subst hne
        cases nm with
        | none =>
          cases nj with
          | none => exact unlink_A2C1 j m M w hL hm.out j4 j5 poj pnj fj4 fj5 m6 m7 pom pnm fm6 fm7
          | some x =>
            obtain ⟨b, hb, rfl⟩ := pnj x rfl
            by_cases hnb : m = b
            · subst hnb; exact unlink_A2C2 j m M w hL hm.out j4 j5 poj pnj fj4 fj5 m6 m7 pom pnm fm6 fm7
            · exact unlink_A2C3 j m M w hL hm.out b hb (fun e => hnb e.symm) j4 j5 poj pnj fj4 fj5 m6 m7 pom pnm fm6 fm7
        | some x =>
          obtain ⟨b, hb, rfl⟩ := pnm x rfl
          by_cases hnb : m = b
          · subst hnb; exact unlink_A2D1 j m M w hL hm.out nj j4 j5 poj pnj fj4 fj5 m6 m7 pom pnm fm6 fm7
          · exact unlink_A2D2 j m M w hL hm.out b hb (fun e => hnb e.symm) nj j4 j5 poj pnj fj4 fj5 m6 m7 pom pnm fm6 fm7
      · skip
        cases nm with
        | none =>
          cases nj with
          | none => exact unlink_A3C1 j m M w hL hm.out a ha (fun e => hne e.symm) j4 j5 poj pnj fj4 fj5 m6 m7 pom pnm fm6 fm7
          | some x =>
            obtain ⟨b, hb, rfl⟩ := pnj x rfl
            by_cases hnb : m = b
            · subst hnb; exact unlink_A3C2 j m M w hL hm.out a ha (fun e => hne e.symm) j4 j5 poj pnj fj4 fj5 m6 m7 pom pnm fm6 fm7
            · exact unlink_A3C3 j m M w hL hm.out a ha (fun e => hne e.symm) b hb (fun e => hnb e.symm) j4 j5 poj pnj fj4 fj5 m6 m7 pom pnm fm6 fm7
        | some x =>
          obtain ⟨b, hb, rfl⟩ := pnm x rfl
          by_cases hnb : m = b
          · subst hnb; exact unlink_A3D1 j m M w hL hm.out a ha (fun e => hne e.symm) nj j4 j5 poj pnj fj4 fj5 m6 m7 pom pnm fm6 fm7
          · exact unlink_A3D2 j m M w hL hm.out a ha (fun e => hne e.symm) b hb (fun e => hnb e.symm) nj j4 j5 poj pnj fj4 fj5 m6 m7 pom pnm fm6 fm7
  | some x =>
    obtain ⟨a, ha, rfl⟩ := pom x rfl
    by_cases hne : m = a
    · subst hne
      cases nm with
      | none =>
        cases nj with
        | none => exact unlink_B1C1 j m M w hL hm.out oj j4 j5 poj pnj fj4 fj5 m6 m7 pom pnm fm6 fm7
        | some x =>
          obtain ⟨b, hb, rfl⟩ := pnj x rfl
          by_cases hnb : m = b
          · subst hnb; exact unlink_B1C2 j m M w hL hm.out oj j4 j5 poj pnj fj4 fj5 m6 m7 pom pnm fm6 fm7
          · exact unlink_B1C3 j m M w hL hm.out b hb (fun e => hnb e.symm) oj j4 j5 poj pnj fj4 fj5 m6 m7 pom pnm fm6 fm7
      | some x =>
        obtain ⟨b, hb, rfl⟩ := pnm x rfl
        by_cases hnb : m = b
        · subst hnb; exact unlink_B1D1 j m M w hL hm.out oj nj j4 j5 poj pnj fj4 fj5 m6 m7 pom pnm fm6 fm7
        · exact unlink_B1D2 j m M w hL hm.out b hb (fun e => hnb e.symm) oj nj j4 j5 poj pnj fj4 fj5 m6 m7 pom pnm fm6 fm7
    · skip
      cases nm with
      | none =>
        cases nj with
        | none => exact unlink_B2C1 j m M w hL hm.out a ha (fun e => hne e.symm) oj j4 j5 poj pnj fj4 fj5 m6 m7 pom pnm fm6 fm7
        | some x =>
          obtain ⟨b, hb, rfl⟩ := pnj x rfl
          by_cases hnb : m = b
          · subst hnb; exact unlink_B2C2 j m M w hL hm.out a ha (fun e => hne e.symm) oj j4 j5 poj pnj fj4 fj5 m6 m7 pom pnm fm6 fm7
          · exact unlink_B2C3 j m M w hL hm.out a ha (fun e => hne e.symm) b hb (fun e => hnb e.symm) oj j4 j5 poj pnj fj4 fj5 m6 m7 pom pnm fm6 fm7
      | some x =>
        obtain ⟨b, hb, rfl⟩ := pnm x rfl
        by_cases hnb : m = b
        · subst hnb; exact unlink_B2D1 j m M w hL hm.out a ha (fun e => hne e.symm) oj nj j4 j5 poj pnj fj4 fj5 m6 m7 pom pnm fm6 fm7
        · exact unlink_B2D2 j m M w hL hm.out a ha (fun e => hne e.symm) b hb (fun e => hnb e.symm) oj nj j4 j5 poj pnj fj4 fj5 m6 m7 pom pnm fm6 fm7

end Go.Proofs.Qxb6616208a
