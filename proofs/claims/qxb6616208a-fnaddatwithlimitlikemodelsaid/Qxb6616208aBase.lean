/-
  Elements as plain data; zzConcat (15), Element.Concat (50).
-/
import Derived.Test.Qxb6616208aRows
import Derived.WalkKit
import Derived.WalkSpells
import Derived.WalkLawsBesides
import Derived.BigQuiet
import Derived.BigRegion
namespace Go.Proofs.Qxb6616208a
open Go.RowKit
set_option linter.unusedVariables false
set_option linter.unusedSimpArgs false

theorem results_tmp4 {fn : Func} {t u v x : Tmp} (h : fn.results = #[.tmp t, .tmp u, .tmp v, .tmp x]) (tmps : Array Value) (P : Program) (w : World) :
    (results fn tmps).run P w = .ok (.tuple #[tmps.getD t undef, tmps.getD u undef, tmps.getD v undef, tmps.getD x undef]) w := by
  simp [results, h]

/-- reference, total, part: where they are good -/
def chk (r t p : Int) : Option (Int × Int × Int) := if t < 1 ∨ p < 1 ∨ t < p then none else some (r, t, p)

/-- the concatenation element -/
def conc (id : Int) (d : List Int) : Option (Int × Int × Int) :=
  if id = 0 ∧ d.length = 3 then chk (d.getD 0 0) (d.getD 1 0) (d.getD 2 0)
  else if id = 8 ∧ d.length = 4 then chk (d.getD 0 0 * 256 + d.getD 1 0) (d.getD 2 0) (d.getD 3 0) else none

/-- a slice of bytes, read -/
def Bytes (w : World) (a : Option Addr) (d : List Int) : Prop :=
  ∀ i z, d[i]? = some z → ∃ b off, a = some ⟨b, off, none⟩ ∧ b < w.heap.size ∧ w.cell? ⟨b, off + i, none⟩ = some (.int .u8 z) ∧ 0 ≤ z ∧ z < 256

theorem Bytes.below {w w' : World} {a : Option Addr} {d : List Int} (h : Bytes w a d) (hb : Below w.heap.size w w') : Bytes w' a d := by
  intro i z hz
  obtain ⟨b, off, e, h1, h2, h3, h4⟩ := h i z hz
  exact ⟨b, off, e, Nat.lt_of_lt_of_le h1 hb.size, (hb.cell (by exact h1)).trans h2, h3, h4⟩

/-- what zzConcat hands out -/
def concOut : Option (Int × Int × Int) → Value
  | none => .tuple #[.int .i64 0, .int .i64 0, .int .i64 0, .bool false]
  | some (r, t, p) => .tuple #[.int .i64 r, .int .i64 t, .int .i64 p, .bool true]

set_option maxHeartbeats 1000000 in
set_option maxRecDepth 100000 in
theorem zzConcat_any (id : Int) (a : Option Addr) (n cap : Nat) (d : List Int) (w : World) (hid : 0 ≤ id ∧ id < 256) (hl : d.length = n) (hn : n ≤ maxLen) (hB : Hid (Bytes w a d)) :
    Calls Try.prog 15 #[.agg #[.int .u8 id, .slice a n cap]] w fun e w' => e = .returned (concOut (conc id d)) ∧ Below w.heap.size w w' := by
  unfold maxLen at hn
  by_cases c0 : id = 0 ∧ n = 3
  · obtain ⟨rfl, rfl⟩ := c0
    match d, hl with
    | [x, y, z], _ =>
      obtain ⟨b, off, rfl, hb, p0, x0, x1⟩ := hB.out 0 x rfl
      obtain ⟨b', off', e1, _, p1, y0, y1⟩ := hB.out 1 y rfl
      cases e1
      obtain ⟨b', off', e1, _, p2, z0, z1⟩ := hB.out 2 z rfl
      cases e1
      rw [Nat.add_zero] at p0
      have e : conc 0 [x, y, z] = chk x y z := rfl
      rw [e]
      clear e hB
      unfold chk
      by_cases h1 : y < 1
      · rw [if_pos (Or.inl h1)]
        go_enter Try.func15, Try.ntmps15
        go_wp2
        (try simp only [Exit.inBlock, Exit.then]); refine bodyPost_ret (results_tmp4 rfl _ _ _) rfl ?_
        exact ⟨rfl, (Below.refl _ _).alloc (Nat.le_refl _) _⟩
      · by_cases h2 : z < 1
        · rw [if_pos (Or.inr (Or.inl h2))]
          go_enter Try.func15, Try.ntmps15
          go_wp2
          (try simp only [Exit.inBlock, Exit.then]); refine bodyPost_ret (results_tmp4 rfl _ _ _) rfl ?_
          exact ⟨rfl, (Below.refl _ _).alloc (Nat.le_refl _) _⟩
        · by_cases h3 : y < z
          · rw [if_pos (Or.inr (Or.inr h3))]
            go_enter Try.func15, Try.ntmps15
            go_wp2
            (try simp only [Exit.inBlock, Exit.then]); refine bodyPost_ret (results_tmp4 rfl _ _ _) rfl ?_
            exact ⟨rfl, (Below.refl _ _).alloc (Nat.le_refl _) _⟩
          · rw [if_neg (by omega)]
            go_enter Try.func15, Try.ntmps15
            go_wp2
            (try simp only [Exit.inBlock, Exit.then]); refine bodyPost_ret (results_tmp4 rfl _ _ _) rfl ?_
            exact ⟨rfl, (Below.refl _ _).alloc (Nat.le_refl _) _⟩
  · by_cases c1 : id = 8 ∧ n = 4
    · obtain ⟨rfl, rfl⟩ := c1
      match d, hl with
      | [x, x', y, z], _ =>
        obtain ⟨b, off, rfl, hb, p0, x0, x1⟩ := hB.out 0 x rfl
        obtain ⟨b', off', e1, _, p1, y0', y1'⟩ := hB.out 1 x' rfl
        cases e1
        obtain ⟨b', off', e1, _, p2, y0, y1⟩ := hB.out 2 y rfl
        cases e1
        obtain ⟨b', off', e1, _, p3, z0, z1⟩ := hB.out 3 z rfl
        cases e1
        rw [Nat.add_zero] at p0
        have e : conc 8 [x, x', y, z] = chk (x * 256 + x') y z := rfl
        rw [e]
        clear e hB c0
        unfold chk
        by_cases h1 : y < 1
        · rw [if_pos (Or.inl h1)]
          go_enter Try.func15, Try.ntmps15
          go_wp2
          go_quiet (fail)
          go_wp2
          (try simp only [Exit.inBlock, Exit.then]); refine bodyPost_ret (results_tmp4 rfl _ _ _) rfl ?_
          exact ⟨rfl, below_drewN ((Below.refl _ _).alloc (Nat.le_refl _) _) _⟩
        · by_cases h2 : z < 1
          · rw [if_pos (Or.inr (Or.inl h2))]
            go_enter Try.func15, Try.ntmps15
            go_wp2
            go_quiet (fail)
            go_wp2
            (try simp only [Exit.inBlock, Exit.then]); refine bodyPost_ret (results_tmp4 rfl _ _ _) rfl ?_
            exact ⟨rfl, below_drewN ((Below.refl _ _).alloc (Nat.le_refl _) _) _⟩
          · by_cases h3 : y < z
            · rw [if_pos (Or.inr (Or.inr h3))]
              go_enter Try.func15, Try.ntmps15
              go_wp2
              go_quiet (fail)
              go_wp2
              (try simp only [Exit.inBlock, Exit.then]); refine bodyPost_ret (results_tmp4 rfl _ _ _) rfl ?_
              exact ⟨rfl, below_drewN ((Below.refl _ _).alloc (Nat.le_refl _) _) _⟩
            · rw [if_neg (by omega)]
              go_enter Try.func15, Try.ntmps15
              go_wp2
              go_quiet (fail)
              go_wp2
              (try simp only [Exit.inBlock, Exit.then]); refine bodyPost_ret (results_tmp4 rfl _ _ _) rfl ?_
              exact ⟨rfl, below_drewN ((Below.refl _ _).alloc (Nat.le_refl _) _) _⟩
    · have e : conc id d = none := by unfold conc; rw [hl, if_neg c0, if_neg c1]
      rw [e]
      clear e hB
      by_cases h1 : id = 0
      · subst h1
        have h3 : ¬ ((n : Int) = 3) := by omega
        clear c0 c1
        go_enter Try.func15, Try.ntmps15
        go_wp2
        (try simp only [Exit.inBlock, Exit.then]); refine bodyPost_ret (results_tmp4 rfl _ _ _) rfl ?_
        exact ⟨rfl, (Below.refl _ _).alloc (Nat.le_refl _) _⟩
      · by_cases h2 : id = 8
        · subst h2
          have h3 : ¬ ((n : Int) = 4) := by omega
          clear c0 c1
          go_enter Try.func15, Try.ntmps15
          go_wp2
          (try simp only [Exit.inBlock, Exit.then]); refine bodyPost_ret (results_tmp4 rfl _ _ _) rfl ?_
          exact ⟨rfl, (Below.refl _ _).alloc (Nat.le_refl _) _⟩
        · clear c0 c1
          go_enter Try.func15, Try.ntmps15
          go_wp2
          (try simp only [Exit.inBlock, Exit.then]); refine bodyPost_ret (results_tmp4 rfl _ _ _) rfl ?_
          exact ⟨rfl, (Below.refl _ _).alloc (Nat.le_refl _) _⟩

end Go.Proofs.Qxb6616208a
