/-
  The dependents as plain data; the small callees: zzStrLen (25), zzIsUnique (9), zzIsCheck (10), zzIsLookup (11), the readers of an answer (14 to 19).
-/
import Derived.Test.Qxb6616268aRows
import Derived.WalkKit
import Derived.WalkSpells
import Derived.WalkLawsBesides
import Derived.BigQuiet
namespace Go.Proofs.Qxb6616268a
open Go.RowKit
set_option linter.unusedVariables false
set_option linter.unusedSimpArgs false

/-- a pointer to a string: where it lies, and what it is -/
structure SPtr where
  b : Nat
  o : Nat
  s : ByteArray

def pa : Option SPtr → Option Addr
  | none => none
  | some p => some ⟨p.b, p.o, none⟩
abbrev pv (p : Option SPtr) : Value := .pointer (pa p)
theorem pa_isNone (p : Option SPtr) : (pa p).isNone = p.isNone := by cases p <;> rfl

/-- one Dep -/
structure Dp where
  describe : ByteArray
  catalog : ByteArray
  kind : ByteArray
  uniq : Bool
  ra : Option Addr
  rn : Nat
  rc : Nat
  pred : Option SPtr
  cond : Option SPtr
  lt : Option SPtr
  lc : Option SPtr

/-- its nine cells -/
def Dp.cells (d : Dp) : List Value := [.string d.describe, .string d.catalog, .string d.kind, .bool d.uniq, .slice d.ra d.rn d.rc, pv d.pred, pv d.cond, pv d.lt, pv d.lc]

/-- a pointer's string is there -/
def PIn (w : World) (p : Option SPtr) : Prop := ∀ q, p = some q → q.b < w.heap.size ∧ w.cell? ⟨q.b, q.o, none⟩ = some (.string q.s) ∧ q.s.size ≤ maxLen

theorem PIn.below {w w' : World} {p : Option SPtr} (h : PIn w p) (hb : Below w.heap.size w w') : PIn w' p := by
  intro q hq
  obtain ⟨h1, h2, h3⟩ := h q hq
  exact ⟨Nat.lt_of_lt_of_le h1 hb.size, (hb.cell (by exact h1)).trans h2, h3⟩

/-- what a Dep leads to is there -/
structure DIn (w : World) (d : Dp) : Prop where
  reads : ∀ j, j < d.rn → ∃ b o s, d.ra = some ⟨b, o, none⟩ ∧ b < w.heap.size ∧ w.cell? ⟨b, o + j, none⟩ = some (.string s) ∧ s.size ≤ maxLen
  rn : d.rn ≤ maxLen
  pred : PIn w d.pred
  cond : PIn w d.cond
  lt : PIn w d.lt
  lc : PIn w d.lc
  s0 : d.describe.size ≤ maxLen
  s1 : d.catalog.size ≤ maxLen
  s2 : d.kind.size ≤ maxLen

theorem DIn.below {w w' : World} {d : Dp} (h : DIn w d) (hb : Below w.heap.size w w') : DIn w' d :=
  ⟨fun j hj => by
      obtain ⟨b, o, s, e, h1, h2, h3⟩ := h.reads j hj
      exact ⟨b, o, s, e, Nat.lt_of_lt_of_le h1 hb.size, (hb.cell (by exact h1)).trans h2, h3⟩,
    h.rn, h.pred.below hb, h.cond.below hb, h.lt.below hb, h.lc.below hb, h.s0, h.s1, h.s2⟩

/-- the nine cells from place off on -/
def DAt (w : World) (b off : Nat) (d : Dp) : Prop :=
  w.cell? ⟨b, off, none⟩ = some (.string d.describe) ∧ w.cell? ⟨b, off + 1, none⟩ = some (.string d.catalog) ∧ w.cell? ⟨b, off + 2, none⟩ = some (.string d.kind) ∧ w.cell? ⟨b, off + 3, none⟩ = some (.bool d.uniq) ∧
  w.cell? ⟨b, off + 4, none⟩ = some (.slice d.ra d.rn d.rc) ∧ w.cell? ⟨b, off + 5, none⟩ = some (pv d.pred) ∧ w.cell? ⟨b, off + 6, none⟩ = some (pv d.cond) ∧ w.cell? ⟨b, off + 7, none⟩ = some (pv d.lt) ∧ w.cell? ⟨b, off + 8, none⟩ = some (pv d.lc)

/-- the slice of dependents that came in -/
def Deps (w : World) (ao : Option Addr) (l : List Dp) : Prop :=
  ∀ i d, l[i]? = some d → ∃ b off, ao = some ⟨b, off, none⟩ ∧ b < w.heap.size ∧ DAt w b (off + i * 9) d ∧ DIn w d

theorem DAt.below {w w' : World} {b off : Nat} {d : Dp} (h : DAt w b off d) (hl : b < w.heap.size) (hb : Below w.heap.size w w') : DAt w' b off d := by
  obtain ⟨h0, h1, h2, h3, h4, h5, h6, h7, h8⟩ := h
  have g : ∀ o, w'.cell? ⟨b, o, none⟩ = w.cell? ⟨b, o, none⟩ := fun o => hb.cell (by exact hl)
  exact ⟨(g _).trans h0, (g _).trans h1, (g _).trans h2, (g _).trans h3, (g _).trans h4, (g _).trans h5, (g _).trans h6, (g _).trans h7, (g _).trans h8⟩

theorem Deps.below {w w' : World} {ao : Option Addr} {l : List Dp} (h : Deps w ao l) (hb : Below w.heap.size w w') : Deps w' ao l := by
  intro i d hd
  obtain ⟨b, off, e, h1, h2, h3⟩ := h i d hd
  exact ⟨b, off, e, Nat.lt_of_lt_of_le h1 hb.size, h2.below h1 hb, h3.below hb⟩

/-- some bool comes back -/
def AnyBool (e : Ending) : Prop := ∃ r, e = .returned (.bool r)
theorem AnyBool.mk (r : Bool) : AnyBool (.returned (.bool r)) := ⟨r, rfl⟩

/-- a pointed-to string's length -/
def plen : Option SPtr → Int
  | none => 0
  | some p => p.s.size

set_option maxHeartbeats 400000 in
theorem strLen_any (p : Option SPtr) (w : World) (hp : PIn w p) :
    Calls Try.prog 25 #[pv p] w fun e w' => e = .returned (.int .i64 (plen p)) ∧ w' = w := by
  cases p with
  | none =>
    show Calls Try.prog 25 #[.pointer none] w _
    go_enter Try.func25, Try.ntmps25
    go_wp2
    go_ret
    exact ⟨rfl, rfl⟩
  | some q =>
    obtain ⟨h1, h2, h3⟩ := hp q rfl
    unfold maxLen at h3
    show Calls Try.prog 25 #[.pointer (some ⟨q.b, q.o, none⟩)] w _
    go_enter Try.func25, Try.ntmps25
    go_wp2
    go_ret
    exact ⟨rfl, rfl⟩

/-! ### the three tests -/
def sCon : List UInt8 := [112, 103, 95, 99, 111, 110, 115, 116, 114, 97, 105, 110, 116]
def sCls : List UInt8 := [112, 103, 95, 99, 108, 97, 115, 115]

def Dp.isCheck (d : Dp) : Bool := ((d.rn : Int) == 0) && (d.catalog.toList == sCon) && (d.kind.toList == [99])
def Dp.isLookup (d : Dp) : Bool := ((d.rn : Int) == 0) && (d.catalog.toList == sCon) && (d.kind.toList == [102])
def Dp.isUnique (d : Dp) : Bool :=
  if d.rn > 0 then false else if d.catalog.toList == sCon then (d.kind.toList == [117] || d.kind.toList == [112])
  else if d.catalog.toList == sCls then ((d.kind.toList == [105, 97] || d.kind.toList == [73, 97]) && d.uniq && d.pred.isNone) else false

set_option maxHeartbeats 400000 in
theorem isCheck_any (d : Dp) (w : World) (hr : d.rn ≤ maxLen) :
    Calls Try.prog 10 #[.agg #[.string d.describe, .string d.catalog, .string d.kind, .bool d.uniq, .slice d.ra d.rn d.rc, pv d.pred, pv d.cond, pv d.lt, pv d.lc]] w fun e w' => e = .returned (.bool d.isCheck) ∧ Below w.heap.size w w' := by
  unfold maxLen at hr
  unfold Dp.isCheck
  cases h1 : ((d.rn : Int) == 0)
  · go_enter Try.func10, Try.ntmps10
    go_wp2
    go_ret
    exact ⟨rfl, (Below.refl _ _).alloc (Nat.le_refl _) _⟩
  · cases h2 : (d.catalog.toList == sCon)
    · unfold sCon at h2
      go_enter Try.func10, Try.ntmps10
      go_wp2
      go_ret
      exact ⟨rfl, (Below.refl _ _).alloc (Nat.le_refl _) _⟩
    · unfold sCon at h2
      cases h3 : (d.kind.toList == [99])
      all_goals
        go_enter Try.func10, Try.ntmps10
        go_wp2
        go_ret
        exact ⟨rfl, (Below.refl _ _).alloc (Nat.le_refl _) _⟩

set_option maxHeartbeats 400000 in
theorem isLookup_any (d : Dp) (w : World) (hr : d.rn ≤ maxLen) :
    Calls Try.prog 11 #[.agg #[.string d.describe, .string d.catalog, .string d.kind, .bool d.uniq, .slice d.ra d.rn d.rc, pv d.pred, pv d.cond, pv d.lt, pv d.lc]] w fun e w' => e = .returned (.bool d.isLookup) ∧ Below w.heap.size w w' := by
  unfold maxLen at hr
  unfold Dp.isLookup
  cases h1 : ((d.rn : Int) == 0)
  · go_enter Try.func11, Try.ntmps11
    go_wp2
    go_ret
    exact ⟨rfl, (Below.refl _ _).alloc (Nat.le_refl _) _⟩
  · cases h2 : (d.catalog.toList == sCon)
    · unfold sCon at h2
      go_enter Try.func11, Try.ntmps11
      go_wp2
      go_ret
      exact ⟨rfl, (Below.refl _ _).alloc (Nat.le_refl _) _⟩
    · unfold sCon at h2
      cases h3 : (d.kind.toList == [102])
      all_goals
        go_enter Try.func11, Try.ntmps11
        go_wp2
        go_ret
        exact ⟨rfl, (Below.refl _ _).alloc (Nat.le_refl _) _⟩

set_option maxHeartbeats 400000 in
theorem isUnique_any (d : Dp) (w : World) (hr : d.rn ≤ maxLen) :
    Calls Try.prog 9 #[.agg #[.string d.describe, .string d.catalog, .string d.kind, .bool d.uniq, .slice d.ra d.rn d.rc, pv d.pred, pv d.cond, pv d.lt, pv d.lc]] w fun e w' => e = .returned (.bool d.isUnique) ∧ Below w.heap.size w w' := by
  unfold maxLen at hr
  unfold Dp.isUnique
  by_cases h1 : d.rn > 0
  · rw [if_pos h1]
    go_enter Try.func9, Try.ntmps9
    go_wp2
    go_ret
    exact ⟨rfl, (Below.refl _ _).alloc (Nat.le_refl _) _⟩
  · rw [if_neg h1]
    cases h2 : (d.catalog.toList == sCon)
    · unfold sCon at h2
      rw [if_neg (by simp)]
      cases h3 : (d.catalog.toList == sCls)
      · unfold sCls at h3
        go_enter Try.func9, Try.ntmps9
        go_wp2
        go_ret
        exact ⟨rfl, (Below.refl _ _).alloc (Nat.le_refl _) _⟩
      · unfold sCls at h3
        rw [if_pos rfl, ← pa_isNone]
        cases h4 : (d.kind.toList == [105, 97])
        · cases h5 : (d.kind.toList == [73, 97])
          · go_enter Try.func9, Try.ntmps9
            go_wp2
            go_ret
            exact ⟨rfl, (Below.refl _ _).alloc (Nat.le_refl _) _⟩
          · cases h6 : d.uniq
            · go_enter Try.func9, Try.ntmps9
              go_wp2
              go_ret
              exact ⟨rfl, (Below.refl _ _).alloc (Nat.le_refl _) _⟩
            · go_enter Try.func9, Try.ntmps9
              go_wp2
              go_ret
              exact ⟨rfl, (Below.refl _ _).alloc (Nat.le_refl _) _⟩
        · cases h6 : d.uniq
          · go_enter Try.func9, Try.ntmps9
            go_wp2
            go_ret
            exact ⟨rfl, (Below.refl _ _).alloc (Nat.le_refl _) _⟩
          · go_enter Try.func9, Try.ntmps9
            go_wp2
            go_ret
            exact ⟨rfl, (Below.refl _ _).alloc (Nat.le_refl _) _⟩
    · unfold sCon at h2
      rw [if_pos rfl]
      cases h3 : (d.kind.toList == [117])
      · cases h4 : (d.kind.toList == [112])
        all_goals
          go_enter Try.func9, Try.ntmps9
          go_wp2
          go_ret
          exact ⟨rfl, (Below.refl _ _).alloc (Nat.le_refl _) _⟩
      · go_enter Try.func9, Try.ntmps9
        go_wp2
        go_ret
        exact ⟨rfl, (Below.refl _ _).alloc (Nat.le_refl _) _⟩

/-! ### the readers of an answer -/
set_option maxHeartbeats 400000 in
theorem notNull_any (b : Bool) (v1 v2 v3 : Value) (a1 : Option Addr) (n1 c1 : Nat) (a2 : Option Addr) (n2 c2 : Nat) (a3 : Option Addr) (n3 c3 : Nat) (w : World) :
    Calls Try.prog 14 #[.agg #[.bool b, .slice a1 n1 c1, .slice a2 n2 c2, .slice a3 n3 c3]] w fun e w' => e = .returned (.bool b) ∧ Below w.heap.size w w' := by
  go_enter Try.func14, Try.ntmps14
  go_wp2
  go_ret
  exact ⟨rfl, (Below.refl _ _).alloc (Nat.le_refl _) _⟩

set_option maxHeartbeats 400000 in
theorem unique_any (b : Bool) (a1 : Option Addr) (n1 c1 : Nat) (a2 : Option Addr) (n2 c2 : Nat) (a3 : Option Addr) (n3 c3 : Nat) (w : World) :
    Calls Try.prog 15 #[.agg #[.bool b, .slice a1 n1 c1, .slice a2 n2 c2, .slice a3 n3 c3]] w fun e w' => e = .returned (.slice a1 n1 c1) ∧ Below w.heap.size w w' := by
  go_enter Try.func15, Try.ntmps15
  go_wp2
  go_ret
  exact ⟨rfl, (Below.refl _ _).alloc (Nat.le_refl _) _⟩

set_option maxHeartbeats 400000 in
theorem checks_any (b : Bool) (a1 : Option Addr) (n1 c1 : Nat) (a2 : Option Addr) (n2 c2 : Nat) (a3 : Option Addr) (n3 c3 : Nat) (w : World) :
    Calls Try.prog 16 #[.agg #[.bool b, .slice a1 n1 c1, .slice a2 n2 c2, .slice a3 n3 c3]] w fun e w' => e = .returned (.int .i64 n2) ∧ Below w.heap.size w w' := by
  go_enter Try.func16, Try.ntmps16
  go_wp2
  go_ret
  exact ⟨rfl, (Below.refl _ _).alloc (Nat.le_refl _) _⟩

set_option maxHeartbeats 400000 in
theorem lookups_any (b : Bool) (a1 : Option Addr) (n1 c1 : Nat) (a2 : Option Addr) (n2 c2 : Nat) (a3 : Option Addr) (n3 c3 : Nat) (w : World) :
    Calls Try.prog 18 #[.agg #[.bool b, .slice a1 n1 c1, .slice a2 n2 c2, .slice a3 n3 c3]] w fun e w' => e = .returned (.int .i64 n3) ∧ Below w.heap.size w w' := by
  go_enter Try.func18, Try.ntmps18
  go_wp2
  go_ret
  exact ⟨rfl, (Below.refl _ _).alloc (Nat.le_refl _) _⟩

/-- an element of three strings -/
def T3 (w : World) (g off : Nat) (x : ByteArray × ByteArray × ByteArray) : Prop :=
  w.cell? ⟨g, off, none⟩ = some (.string x.1) ∧ w.cell? ⟨g, off + 1, none⟩ = some (.string x.2.1) ∧ w.cell? ⟨g, off + 2, none⟩ = some (.string x.2.2)

set_option maxHeartbeats 400000 in
theorem check_any (b : Bool) (a1 : Option Addr) (n1 c1 : Nat) (g n2 c2 : Nat) (a3 : Option Addr) (n3 c3 : Nat) (i : Nat) (x : ByteArray × ByteArray × ByteArray) (w : World) (hi : i < n2) (hg : g < w.heap.size) (hx : T3 w g (i * 3) x) :
    Calls Try.prog 17 #[.agg #[.bool b, .slice a1 n1 c1, .slice (some ⟨g, 0, none⟩) n2 c2, .slice a3 n3 c3], .int .i64 i] w fun e w' => e = .returned (.tuple #[.string x.1, .string x.2.1, .string x.2.2]) ∧ Below w.heap.size w w' := by
  obtain ⟨c0, c1', c2'⟩ := hx
  have hi' : (i : Int) < n2 := by omega
  go_enter Try.func17, Try.ntmps17
  go_wp2
  go_quiet (fail)
  go_wp2
  go_ret3
  exact ⟨rfl, below_drewN ((Below.refl _ _).alloc (Nat.le_refl _) _) _⟩

set_option maxHeartbeats 400000 in
theorem lookup_any (b : Bool) (a1 : Option Addr) (n1 c1 : Nat) (a2 : Option Addr) (n2 c2 : Nat) (g n3 c3 : Nat) (i : Nat) (x : ByteArray × ByteArray × ByteArray) (w : World) (hi : i < n3) (hg : g < w.heap.size) (hx : T3 w g (i * 3) x) :
    Calls Try.prog 19 #[.agg #[.bool b, .slice a1 n1 c1, .slice a2 n2 c2, .slice (some ⟨g, 0, none⟩) n3 c3], .int .i64 i] w fun e w' => e = .returned (.tuple #[.string x.1, .string x.2.1, .string x.2.2]) ∧ Below w.heap.size w w' := by
  obtain ⟨c0, c1', c2'⟩ := hx
  have hi' : (i : Int) < n3 := by omega
  go_enter Try.func19, Try.ntmps19
  go_wp2
  go_quiet (fail)
  go_wp2
  go_ret3
  exact ⟨rfl, below_drewN ((Below.refl _ _).alloc (Nat.le_refl _) _) _⟩

end Go.Proofs.Qxb6616268a
