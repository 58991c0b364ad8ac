/-
  The small callees: zzBytes (5), overBudget (6), cloneStrings (7), ZZstringScalarType (8), lastIndex (11).
-/
import Derived.Test.Qxb6616253aRows
import Derived.WalkKit
import Derived.WalkSpells
import Derived.WalkLawsBesides
namespace Go.Proofs.Qxb6616253a
open Go.RowKit
set_option linter.unusedVariables false
set_option linter.unusedSimpArgs false

/-- the first n cells behind 'ao' hold the strings ss (told for every place below n) -/
def Strs (w : World) (ao : Option Addr) (n : Nat) (ss : List ByteArray) : Prop :=
  ∀ i, i < n → ∃ b off, ao = some ⟨b, off, none⟩ ∧ b < w.heap.size ∧ w.cell? ⟨b, off + i, none⟩ = some (.string (ss.getD i ByteArray.empty)) ∧ (ss.getD i ByteArray.empty).size ≤ maxLen

theorem Strs.below {w w' : World} {ao : Option Addr} {n : Nat} {ss : List ByteArray} (h : Strs w ao n ss) (hb : Below w.heap.size w w') : Strs w' ao n ss := by
  intro i hi
  obtain ⟨b, off, rfl, hl, hc, hs⟩ := h i hi
  exact ⟨b, off, rfl, Nat.lt_of_lt_of_le hl hb.size, (hb.cell (by exact hl)).trans hc, hs⟩

/-- some bool comes back -/
def AnyBool (e : Ending) : Prop := ∃ r, e = .returned (.bool r)
theorem AnyBool.mk (r : Bool) : AnyBool (.returned (.bool r)) := ⟨r, rfl⟩
/-- an int and a bool come back -/
def AnyIntBool (e : Ending) : Prop := ∃ x r, e = .returned (.tuple #[.int .i64 x, .bool r])
theorem AnyIntBool.mk (x : Int) (r : Bool) : AnyIntBool (.returned (.tuple #[.int .i64 x, .bool r])) := ⟨x, r, rfl⟩

set_option maxHeartbeats 400000 in
theorem zzBytes_any (ao : Option Addr) (n cap : Nat) (ss : List ByteArray) (p : ByteArray) (w : World) (hn : n ≤ maxLen) (hs : Hid (Strs w ao n ss)) :
    Calls Try.prog 5 #[.slice ao n cap, .string p] w fun e w' => AnyBool e ∧ w = w' := by
  unfold maxLen at hn
  by_cases c0 : n ≤ 1048576
  · go_enter Try.func5, Try.ntmps5
    go_wp2
    go_loop [5, 6] (fun z i => ∃ (k : Nat) (t : Int), k ≤ n ∧ i = .int .i64 k ∧ z = .int .i64 t) (fun _ i => n - (intOf i).toNat)
    case atStart => exact ⟨0, _, Nat.zero_le _, rfl, rfl⟩
    case round =>
      obtain ⟨k, t, hk, rfl, rfl⟩ := hrel
      by_cases hlt : k < n
      · obtain ⟨b, off, rfl, hl, hc, hz⟩ := hs.out k hlt
        generalize ss.getD k ByteArray.empty = s at hc hz
        go_wp2
        · go_ret
          exact ⟨.mk _, rfl⟩
        · go_ret
          exact ⟨.mk _, rfl⟩
        · go_round
          case rel => exact ⟨k + 1, _, by omega, by go_num, rfl⟩
          case measure => simp [intOf]; omega
      · go_wp2
        all_goals
          go_ret
          exact ⟨.mk _, rfl⟩
  · go_enter Try.func5, Try.ntmps5
    go_wp2
    go_ret
    exact ⟨.mk _, rfl⟩

set_option maxHeartbeats 400000 in
theorem overBudget_any (u : Int) (ao : Option Addr) (n cap : Nat) (ss : List ByteArray) (w : World) (hn : n ≤ maxLen) (hs : Hid (Strs w ao n ss)) :
    Calls Try.prog 6 #[.int .i64 u, .slice ao n cap] w fun e w' => AnyIntBool e ∧ w = w' := by
  unfold maxLen at hn
  by_cases c0 : n ≤ 1048576
  · go_enter Try.func6, Try.ntmps6
    go_wp2
    go_loop [0, 6] (fun z i => ∃ (k : Nat) (t : Int), k ≤ n ∧ i = .int .i64 k ∧ z = .int .i64 t) (fun _ i => n - (intOf i).toNat)
    case atStart => exact ⟨0, _, Nat.zero_le _, rfl, rfl⟩
    case round =>
      obtain ⟨k, t, hk, rfl, rfl⟩ := hrel
      by_cases hlt : k < n
      · obtain ⟨b, off, rfl, hl, hc, hz⟩ := hs.out k hlt
        generalize ss.getD k ByteArray.empty = s at hc hz
        go_wp2
        · go_ret2
          exact ⟨.mk _ _, rfl⟩
        · go_ret2
          exact ⟨.mk _ _, rfl⟩
        · go_round
          case rel => exact ⟨k + 1, _, by omega, by go_num, rfl⟩
          case measure => simp [intOf]; omega
      · go_wp2
        all_goals
          go_ret2
          exact ⟨.mk _ _, rfl⟩
  · go_enter Try.func6, Try.ntmps6
    go_wp2
    go_ret2
    exact ⟨.mk _ _, rfl⟩

/-- the last place below n at which s stands; -1 where there is none -/
def lastTo (ss : List ByteArray) (s : ByteArray) : Nat → Int
  | 0 => -1
  | k + 1 => if (ss.getD k ByteArray.empty).toList = s.toList then (k : Int) else lastTo ss s k

theorem lastTo_hit {ss : List ByteArray} {s : ByteArray} {k : Nat} (h : ((ss[k]?.getD ByteArray.empty).toList == s.toList) = true) : lastTo ss s (k + 1) = k := by
  simp only [beq_iff_eq] at h
  simp [lastTo, List.getD, h]
theorem lastTo_miss {ss : List ByteArray} {s : ByteArray} {k : Nat} (h : ((ss[k]?.getD ByteArray.empty).toList == s.toList) = false) : lastTo ss s (k + 1) = lastTo ss s k := by
  simp only [beq_eq_false_iff_ne] at h
  simp [lastTo, List.getD, h]
theorem lastTo_bd (ss : List ByteArray) (s : ByteArray) (n : Nat) : -1 ≤ lastTo ss s n ∧ lastTo ss s n < n := by
  induction n with
  | zero => simp [lastTo]
  | succ n ih => unfold lastTo; split <;> omega
theorem ret_int {k : IntKind} {a b : Int} (h : a = b) : Ending.returned (.int k a) = .returned (.int k b) := by rw [h]

set_option maxHeartbeats 400000 in
theorem lastIndex_any (ao : Option Addr) (n cap : Nat) (ss : List ByteArray) (p : ByteArray) (w : World) (hn : n ≤ maxLen) (hs : Hid (Strs w ao n ss)) :
    Calls Try.prog 11 #[.slice ao n cap, .string p] w fun e w' => e = .returned (.int .i64 (lastTo ss p n)) ∧ w' = w := by
  unfold maxLen at hn
  go_enter Try.func11, Try.ntmps11
  go_wp2
  go_loop [5] (fun i => ∃ k : Nat, k ≤ n ∧ i = .int .i64 ((k : Int) - 1) ∧ Hid (lastTo ss p n = lastTo ss p k)) (fun i => (intOf i + 1).toNat)
  case atStart => exact ⟨n, Nat.le_refl _, rfl, rfl⟩
  case round =>
    obtain ⟨k, hk, rfl, HL⟩ := hrel
    cases k with
    | zero =>
      go_wp2
      go_ret
      exact ⟨ret_int HL.out.symm, rfl⟩
    | succ k =>
      obtain ⟨b, off, rfl, hl, hc, hz⟩ := hs.out k (by omega)
      go_wp2
      · go_ret
        exact ⟨ret_int (HL.out.trans (lastTo_hit ‹_›)).symm, rfl⟩
      · go_round
        case rel => exact ⟨k, by omega, rfl, HL.out.trans (lastTo_miss ‹_›)⟩
        case measure => simp [intOf]

theorem Try.info9 : (Try.prog.info? 9).map (fun i => (i.zero, i.size, i.bytes)) = some (some (.string ⟨#[]⟩), 1, 16) := by kernel_rfl

/-- from an owned row of strings to 'Strs' -/
theorem strs_of_own {w : World} {base : Nat} {g n cap : Nat} {ss : List ByteArray} {l : List Value} (h : w.ownsRow base 9 1 (.slice (some ⟨g, 0, none⟩) n cap) n l) (hl : ∀ i, i < n → l[i]? = some (.string (ss.getD i ByteArray.empty))) (hm : ∀ i, i < n → (ss.getD i ByteArray.empty).size ≤ maxLen) : Strs w (some ⟨g, 0, none⟩) n ss := by
  intro i hi
  refine ⟨g, 0, rfl, (h.lt _ rfl).2, ?_, hm i hi⟩
  rw [Nat.zero_add, h.cellAt i (by omega)]
  exact hl i hi

theorem set_get {l : List Value} {n k : Nat} {ss : List ByteArray} (hn : l.length = n) (hk : k < n) (hl : ∀ i, i < k → l[i]? = some (.string (ss.getD i ByteArray.empty))) :
    ∀ i, i < k + 1 → (l.set k (.string (ss.getD k ByteArray.empty)))[i]? = some (.string (ss.getD i ByteArray.empty)) := by
  intro i hi
  by_cases h : i = k
  · subst h; rw [List.getElem?_set_self (by omega)]
  · rw [List.getElem?_set_ne (by omega)]; exact hl i (by omega)

/-- the clone's answer -/
def Cloned (ss : List ByteArray) (n : Nat) (w : World) (e : Ending) (w' : World) : Prop :=
  ∃ ao cap, e = .returned (.slice ao n cap) ∧ Strs w' ao n ss ∧ (∀ i, i < n → ∃ b, ao = some ⟨b, 0, none⟩ ∧ w.heap.size ≤ b) ∧ Below w.heap.size w w'

set_option maxHeartbeats 400000 in
theorem cloneStrings_any (ao : Option Addr) (n cap : Nat) (ss : List ByteArray) (w : World) (hn : n ≤ 1048576) (hnil : ao = none → n = 0 ∧ cap = 0) (hs : Hid (Strs w ao n ss)) :
    Calls Try.prog 7 #[.slice ao n cap] w fun e w' => Cloned ss n w e w' := by
  obtain ⟨i0, hi, hz0, hz1, hz2⟩ := info_parts Try.info9
  have heq := Lib.run_eql_slice_nil (P := Try.prog)
  cases ao with
  | none =>
    obtain ⟨rfl, rfl⟩ := hnil rfl
    go_enter Try.func7, Try.ntmps7
    go_wp2
    go_ret
    exact ⟨none, 0, rfl, fun i hi => by omega, fun i hi => by omega, Below.refl _ _⟩
  | some a =>
    clear hnil
    go_enter Try.func7, Try.ntmps7
    go_wp2_with (at_make; refine wpList_make_full _ rfl _ _ 22 rfl w.heap.size 9 i0 _ 1 Try.underlying22 hi hz0 hz1 _ _ _ _ n rfl rfl rfl rfl (by rw [hz2]; omega) (by unfold maxLen; omega) (Nat.le_refl _) ?_)
    intro w1 own1 gr1
    have hb1 : Below w.heap.size w w1 := (Below.refl _ _).grown gr1 (Nat.le_refl _) (by simp)
    clear gr1
    go_wp2
    go_loopw [4] (fun i wr => ∃ (k : Nat) (l : List Value), k ≤ n ∧ i = .int .i64 k ∧ wr.ownsRow w.heap.size 9 1 (.slice (some ⟨w.heap.size, 0, none⟩) n n) n l ∧ (∀ i, i < k → l[i]? = some (.string (ss.getD i ByteArray.empty))) ∧ Below w.heap.size w wr) (fun i _ => n - (intOf i).toNat)
    case atStart => exact ⟨0, _, Nat.zero_le _, rfl, own1, fun i hi => by omega, hb1⟩
    case round =>
      obtain ⟨k, l, hk, rfl, own, hl, hb⟩ := hrel
      clear own1 hb1
      by_cases hlt : k < n
      · obtain ⟨b, off, e0, hlb, hc, hz⟩ := hs.out k hlt
        simp only [Option.some.injEq] at e0
        subst e0
        rw [← hb.cell (by exact hlb)] at hc
        have hfr : wr.frozen? ⟨w.heap.size, k, none⟩ = false := own.frozenAt k
        have hold : ∃ v, wr.cell? ⟨w.heap.size, k, none⟩ = some v := by
          rw [own.cellAt k (by omega)]
          exact ⟨_, List.getElem?_eq_getElem (by have := own.1; omega)⟩
        obtain ⟨v0, hold⟩ := hold
        obtain ⟨own', gr'⟩ := own.stored k (.string (ss.getD k ByteArray.empty))
        have hl' := set_get (by have := own.1; omega) hlt hl
        have hb' := hb.grown gr' hb.size (by simp)
        have H : Hid ((wr.setCell ⟨w.heap.size, k, none⟩ (.string (ss.getD k ByteArray.empty))).ownsRow w.heap.size 9 1 (.slice (some ⟨w.heap.size, 0, none⟩) n n) n _ ∧ _ ∧ _) := ⟨own', hl', hb'⟩
        clear own own' gr' hl hl' hb'
        go_wp2
        go_roundw
        case rel => exact ⟨k + 1, _, by omega, by go_num, H.out.1, H.out.2.1, H.out.2.2⟩
        case measure => simp [intOf]; omega
      · have hkn : n = k := by omega
        subst hkn
        have hS : Hid (Strs wr (some ⟨w.heap.size, 0, none⟩) n ss) := strs_of_own own hl (fun i hi => by obtain ⟨_, _, _, _, _, h⟩ := hs.out i hi; exact h)
        clear own hl
        go_wp2
        go_ret
        exact ⟨_, n, rfl, hS, fun i hi => ⟨_, rfl, Nat.le_refl _⟩, hb⟩

end Go.Proofs.Qxb6616253a
