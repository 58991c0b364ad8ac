/-
  The callees over the map of types: ZZstringScalarType (8), Struct (9), Member (10).
-/
import Derived.Test.Qxb6616253aBase
import Derived.Maps.RangeWalk
namespace Go.Proofs.Qxb6616253a
open Go.RowKit Go.Maps Go.WideMaps
set_option linter.unusedVariables false
set_option linter.unusedSimpArgs false

theorem klaw : Keyed Try.prog 9 := string_keyed Try.underlying9

/-- a pointer to the head of a block, or nil -/
def ptrV : Option Nat → Value
  | some q => .pointer (some ⟨q, 0, none⟩)
  | none => .pointer none

/-- how an element reads: as the block that it points to -/
def ptrR : Value → Option (DataW Nat × List MemPlace)
  | .pointer none => some (.nil, [])
  | .pointer (some ⟨q, 0, none⟩) => some (.held q, [])
  | _ => none

theorem ptrR_some (q : Nat) : ptrR (.pointer (some ⟨q, 0, none⟩)) = some (.held q, []) := rfl
theorem ptrR_inv {v : Value} {y : DataW Nat × List MemPlace} (h : ptrR v = some y) : ∃ c, v = ptrV c := by
  unfold ptrR at h
  split at h
  · exact ⟨none, rfl⟩
  · exact ⟨some _, rfl⟩
  · cases h
theorem ptrR_held {v : Value} {q : Nat} {ps : List MemPlace} (h : ptrR v = some (.held q, ps)) : v = .pointer (some ⟨q, 0, none⟩) := by
  unfold ptrR at h
  split at h
  · cases h
  · cases h; rfl
  · cases h
theorem str_inv {key : Value} {kl : Lit} (h : keyOf Try.prog 9 key = some kl) : ∃ s : ByteArray, key = .string s := by
  cases key <;> simp [keyOf, Try.underlying9, mapKey] at h
  exact ⟨_, rfl⟩

theorem zero29 (w : World) : (zeroValue 29).run Try.prog w = .ok (.pointer none) w := by kernel_rfl

/-- the cells of a Type: its shape, fields, elem, atomic, def, defaults -/
def tyC (shape : Int) (fields elem : Value) (atomic : Bool) (df : Value) (defaults : Bool) : Array Value :=
  #[.int .i64 shape, .int .i64 0, fields, .pointer none, elem, .slice none 0 0, .slice none 0 0, .bool atomic, .bool false, .bool false, .bool false, .bool false, .bool false, .string ⟨#[]⟩, .bool false, df, .nilFunc, .bool defaults, .bool false, .string ⟨#[]⟩, .pointer none]

set_option maxHeartbeats 400000 in
theorem scalar_any (w : World) :
    Calls Try.prog 8 #[] w fun e w' => e = .returned (.pointer (some ⟨w.heap.size, 0, none⟩)) ∧ w.alloc (.cells (tyC 0 (.map none) (.pointer none) false .nilIface false) 46) = w' := by
  go_enter Try.func8, Try.ntmps8
  go_wp2
  go_ret
  exact ⟨rfl, rfl⟩

/-- what Member finds: the pointer at the key; nil where there is none -/
theorem member_any (S bM n : Nat) (D : DataW Nat) (p : ByteArray) (acc : Bool) (w : World) (hS : w.heap[S]? = some (.cells (tyC 1 (.map (some bM)) (.pointer none) false .nilIface acc) 46 (0, 0)))
    (own : w.ownsMap Try.prog 9 ptrR bM n D) (hp : p.size ≤ maxLen) (c : Option Nat)
    (hc : Hid ((c = none ∧ has D (.string p.data.toList) = false) ∨ ∃ q, c = some q ∧ has D (.string p.data.toList) = true ∧ D.atKey (.string p.data.toList) .nil = .held q)) :
    Calls Try.prog 10 #[.pointer (some ⟨S, 0, none⟩), .string p] w fun e w' => e = .returned (ptrV c) ∧ w' = w := by
  have c0 : w.cell? ⟨S, 0, none⟩ = some (.int .i64 1) := cell_of_row w S 0 _ 46 (0, 0) hS
  have c2 : w.cell? ⟨S, 2, none⟩ = some (.map (some bM)) := cell_of_row w S 2 _ 46 (0, 0) hS
  have c3 : w.cell? ⟨S, 3, none⟩ = some (.pointer none) := cell_of_row w S 3 _ 46 (0, 0) hS
  have hkey : keyOf Try.prog 9 (.string p) = some (.string p.data.toList) := keyOf_string_mk Try.underlying9 hp
  obtain ⟨v, ps, hrun, hv⟩ := own.look_ok klaw Try.underlying28 (zero29 w) (zd := .nil) (zp := []) rfl hkey
  rcases hc.out with ⟨rfl, hh⟩ | ⟨q, rfl, hh, hat⟩
  · rw [hh] at hrun
    clear hc own hS
    go_enter Try.func10, Try.ntmps10
    go_wp2
    go_ret
    exact ⟨rfl, rfl⟩
  · rw [hh] at hrun
    rw [hat] at hv
    rw [ptrR_held hv] at hrun
    clear hc own hS hv
    go_enter Try.func10, Try.ntmps10
    go_wp2
    go_ret
    exact ⟨rfl, rfl⟩

/-- a default's value -/
def dfV : Option ByteArray → Value
  | none => .nilIface
  | some s => .iface 9 (.string s)

/-- every entry of the map points to a scalar type; 'df' tells its default -/
def Elts (w : World) (D : DataW Nat) (df : Nat → Option ByteArray) : Prop :=
  ∀ kl, has D kl = true → ∃ q, D.atKey kl .nil = .held q ∧ w.heap[q]? = some (.cells (tyC 0 (.map none) (.pointer none) false (dfV (df q)) false) 46 (0, 0))

/-- some entry among those that 'gone' tells has a default -/
def SomeDf (D : DataW Nat) (df : Nat → Option ByteArray) (gone : Lit → Bool) : Prop :=
  ∃ kl q, has D kl = true ∧ gone kl = true ∧ D.atKey kl .nil = .held q ∧ (df q).isSome = true

theorem someDf_start (D : DataW Nat) (df : Nat → Option ByteArray) : (false = true) ↔ SomeDf D df (fun kl => !has D kl) := by
  constructor
  · intro h; cases h
  · rintro ⟨kl, q, h1, h2, _⟩
    simp [h1] at h2

theorem someDf_step {D : DataW Nat} {df : Nat → Option ByteArray} {left : Lit → Bool} {acc : Bool} {kl : Lit} {q : Nat} (h : acc = true ↔ SomeDf D df (fun x => !left x)) (hk : WideAt.IsKeyLit kl) (hat : ∀ zd, D.atKey kl zd = .held q) :
    (acc || (df q).isSome) = true ↔ SomeDf D df (fun x => !(left x && !x.sameKey kl)) := by
  have hh : has D kl = true := has_true_of_atKey hat
  rw [Bool.or_eq_true, h]
  constructor
  · rintro (⟨k0, q0, h1, h2, h3, h4⟩ | hd)
    · exact ⟨k0, q0, h1, by simp at h2; simp [h2], h3, h4⟩
    · exact ⟨kl, q, hh, by simp [WideAt.sameKey_self hk], hat _, hd⟩
  · rintro ⟨k0, q0, h1, h2, h3, h4⟩
    by_cases hs : k0.sameKey kl = true
    · have e := WideAt.sameKey_eq hs
      subst e
      rw [hat] at h3
      cases h3
      exact Or.inr h4
    · refine Or.inl ⟨k0, q0, h1, ?_, h3, h4⟩
      simp [hs] at h2
      simp [h2]

theorem grown_setCell (w : World) (a : Addr) (u : Value) : w.grownBy (w.setCell a u) (some a.block) :=
  ⟨rfl, rfl, rfl, by simp, fun k _ hk => heap_setCell_other w a k u (fun e => hk (by simp [e]))⟩

/-- what Struct hands back -/
def Structed (w : World) (bM : Nat) (D : DataW Nat) (df : Nat → Option ByteArray) (e : Ending) (w' : World) : Prop :=
  e = .returned (.pointer (some ⟨w.heap.size, 0, none⟩)) ∧ Below w.heap.size w w' ∧ ∃ acc, (acc = true ↔ SomeDf D df (fun _ => true)) ∧ w'.heap[w.heap.size]? = some (.cells (tyC 1 (.map (some bM)) (.pointer none) false .nilIface acc) 46 (0, 0))

set_option maxHeartbeats 1000000 in
theorem struct_any (bM n : Nat) (D : DataW Nat) (df : Nat → Option ByteArray) (w : World) (own : w.ownsMap Try.prog 9 ptrR bM n D) (hE : Hid (Elts w D df)) :
    Calls Try.prog 9 #[.map (some bM)] w fun e w' => Structed w bM D df e w' := by
  have hbM := own.lt
  have hnf : ∀ w, (binOp .neq 43 .nilFunc .nilFunc).run Try.prog w = .ok (.bool false) w := fun w => by kernel_rfl
  go_enter Try.func9, Try.ntmps9
  go_wp2_with (at_range; refine wpList_range_own _ rfl _ 28 rfl 9 29 klaw Try.underlying28 ptrR bM n D rfl (own.alloc _) ?_)
  intro w1 rg1 gr1 hs1
  have hS1 : w1.heap[w.heap.size]? = some (.cells (tyC 1 (.map (some bM)) (.pointer none) false .nilIface false) 46 (0, 0)) := (gr1.block _ (by simp) (by simp)).trans (heap_alloc_new w _)
  have hb1 : Below w.heap.size w w1 := ((Below.refl _ _).alloc (Nat.le_refl _) _).grown gr1 (by simp) (by simp)
  clear gr1
  go_wp2_with fail
  go_loopw [5] (fun _ wr => ∃ left cnt acc, wr.ranges Try.prog 9 ptrR bM (w.heap.size + 1) n D left cnt ∧ Hid (acc = true ↔ SomeDf D df (fun x => !left x)) ∧ wr.heap[w.heap.size]? = some (.cells (tyC 1 (.map (some bM)) (.pointer none) false .nilIface acc) 46 (0, 0)) ∧ Below w.heap.size w wr) (fun _ wr => wr.rangeLeft bM (w.heap.size + 1))
  case atStart => exact ⟨_, _, false, rg1, someDf_start D df, hS1, hb1⟩
  case round =>
    obtain ⟨left, cnt, acc, rg, hacc, hS, hb⟩ := hrel
    clear rg1 hs1 hS1 hb1
    go_wp2_with (at_next; refine wpList_next_ranges _ rfl _ rfl 9 klaw ptrR Value.string ptrV (fun _ _ h => str_inv h) (fun _ _ h => ptrR_inv h) bM (w.heap.size + 1) n D left cnt rfl rg ?_ ?_)
    · intro hc0 hl0
      have hfin : Hid (acc = true ↔ SomeDf D df (fun _ => true)) := by
        have e : (fun x => !left x) = fun _ => true := by funext x; rw [hl0 x]; rfl
        have h := hacc.out
        rw [e] at h
        exact h
      clear hl0 hc0
      go_wp2
      go_ret
      exact ⟨rfl, hb, acc, hfin, hS⟩
    · intro x c kl a b w2 cnt2 hkey hlk hR hat rg2 hlt gr2 hs2 hen
      have hh : has D kl = true := has_true_of_atKey hat
      obtain ⟨q, hq, hblk⟩ := hE.out kl hh
      obtain rfl : a = .held q := (hat .nil).symm.trans hq
      have hqs : q < w.heap.size := (Array.getElem?_eq_some_iff.1 hblk).1
      have hblk2 : w2.heap[q]? = some (.cells (tyC 0 (.map none) (.pointer none) false (dfV (df q)) false) 46 (0, 0)) := by
        rw [gr2.block q (Nat.lt_of_lt_of_le hqs hb.size) (by simp; omega), hb.block q hqs]; exact hblk
      have hS2 : w2.heap[w.heap.size]? = some (.cells (tyC 1 (.map (some bM)) (.pointer none) false .nilIface acc) 46 (0, 0)) := by
        rw [gr2.block _ (Array.getElem?_eq_some_iff.1 hS).1 (by simp)]; exact hS
      have hb2 : Below w.heap.size w w2 := hb.grown gr2 hb.size (by simp)
      have hstep : Hid ((acc || (df q).isSome) = true ↔ SomeDf D df (fun x => !(left x && !x.sameKey kl))) := someDf_step hacc (klaw.key hkey) hat
      have hcq : ptrV c = .pointer (some ⟨q, 0, none⟩) := ptrR_held hR
      rw [hcq] at hen ⊢
      have d0 : w2.cell? ⟨q, 15, none⟩ = some (dfV (df q)) := cell_of_row w2 q 15 _ 46 (0, 0) hblk2
      have d1 : w2.cell? ⟨q, 16, none⟩ = some .nilFunc := cell_of_row w2 q 16 _ 46 (0, 0) hblk2
      have d2 : w2.cell? ⟨q, 17, none⟩ = some (.bool false) := cell_of_row w2 q 17 _ 46 (0, 0) hblk2
      have d3 : w2.cell? ⟨q, 18, none⟩ = some (.bool false) := cell_of_row w2 q 18 _ 46 (0, 0) hblk2
      have HL : Hid (w2.rangeLeft bM (w.heap.size + 1) < wr.rangeLeft bM (w.heap.size + 1)) := by
        show _ < _
        rw [rg2.left_eq, rg.left_eq]; exact hlt
      clear rg hS hb gr2 hs2 hblk hblk2 hh hR hat hq hcq hlk hacc
      cases hdf : df q with
      | none =>
        rw [hdf] at d0 hstep
        simp only [dfV] at d0
        clear hdf
        go_wp2
        go_roundw
        case rel => exact ⟨_, _, acc, rg2, by simpa [Hid] using hstep.out, hS2, hb2⟩
        case measure => exact HL
      | some s =>
        rw [hdf] at d0 hstep
        simp only [dfV] at d0
        clear hdf
        have f0 : w2.cell? ⟨w.heap.size, 17, none⟩ = some (.bool acc) := cell_of_row w2 w.heap.size 17 _ 46 (0, 0) hS2
        have f1 : w2.frozen? ⟨w.heap.size, 17, none⟩ = false := frozen_of_row w2 w.heap.size 17 _ 46 hS2
        have g1 := grown_setCell w2 ⟨w.heap.size, 17, none⟩ (.bool true)
        have rg3 := rg2.kept g1 (by simp; omega) (by simp)
        have hb3 := hb2.grown g1 hb2.size (by simp)
        have hS3 : (w2.setCell ⟨w.heap.size, 17, none⟩ (.bool true)).heap[w.heap.size]? = some (.cells (tyC 1 (.map (some bM)) (.pointer none) false .nilIface true) 46 (0, 0)) := heap_setCell_same w2 w.heap.size 17 _ 46 (.bool true) hS2
        have HL3 : Hid ((w2.setCell ⟨w.heap.size, 17, none⟩ (.bool true)).rangeLeft bM (w.heap.size + 1) < wr.rangeLeft bM (w.heap.size + 1)) := by
          show _ < _
          rw [rg3.left_eq, ← rg2.left_eq]; exact HL
        have H : Hid (_ ∧ _ ∧ _) := ⟨rg3, hS3, hb3⟩
        clear rg3 hS3 hb3 g1 hS2
        go_wp2
        go_roundw
        case rel => exact ⟨_, _, true, H.out.1, by simpa [Hid] using hstep.out, H.out.2.1, H.out.2.2⟩
        case measure => exact HL3

end Go.Proofs.Qxb6616253a
