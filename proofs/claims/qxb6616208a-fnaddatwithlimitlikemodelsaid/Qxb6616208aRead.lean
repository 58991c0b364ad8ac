/-
  Element.Concat (50).
-/
import Derived.Test.Qxb6616208aBase
import Derived.Laws.ResultCell
namespace Go.Proofs.Qxb6616208a
open Go.RowKit
set_option linter.unusedVariables false
set_option linter.unusedSimpArgs false

/-- what Element.Concat hands out -/
def ccOut : Option (Int × Int × Int) → Value
  | none => .tuple #[.agg #[.int .i64 0, .int .i64 0, .int .i64 0], .bool false]
  | some (r, t, p) => .tuple #[.agg #[.int .i64 r, .int .i64 t, .int .i64 p], .bool true]

theorem or_shift (x y : Int) (x0 : 0 ≤ x) (x1 : x < 256) (y0 : 0 ≤ y) (y1 : y < 256) : bits .or .i64 (x * 256) y = x * 256 + y := by
  obtain ⟨X, rfl⟩ := Int.eq_ofNat_of_zero_le x0
  obtain ⟨Y, rfl⟩ := Int.eq_ofNat_of_zero_le y0
  show IntKind.i64.wrap ((BitVec.ofInt 64 ((X : Int) * 256) ||| BitVec.ofInt 64 (Y : Int)).toNat : Int) = _
  have e : ((X : Int) * 256) = ((X * 256 : Nat) : Int) := by simp
  have e1 : (BitVec.ofInt 64 ((X * 256 : Nat) : Int)).toNat = X * 256 := by
    rw [BitVec.ofInt_natCast, BitVec.toNat_ofNat]; exact Nat.mod_eq_of_lt (by omega)
  have e2 : (BitVec.ofInt 64 (Y : Int)).toNat = Y := by
    rw [BitVec.ofInt_natCast, BitVec.toNat_ofNat]; exact Nat.mod_eq_of_lt (by omega)
  have e3 : X * 256 ||| Y = X * 256 + Y := by
    have h := Nat.shiftLeft_add_eq_or_of_lt (i := 8) (b := Y) (by omega) X
    rw [Nat.shiftLeft_eq] at h
    exact h.symm
  rw [e, BitVec.toNat_or, e1, e2, e3]
  simp [IntKind.wrap, IntKind.bits, IntKind.signed]
  split <;> omega

set_option maxHeartbeats 1000000 in
set_option maxRecDepth 100000 in
theorem concat_any (id : Int) (a : Option Addr) (n cap : Nat) (d : List Int) (w : World) (hid : 0 ≤ id ∧ id < 256) (hl : d.length = n) (hn : n ≤ maxLen) (hB : Hid (Bytes w a d)) :
    Calls Try.prog 50 #[.agg #[.int .u8 id, .slice a n cap]] w fun e w' => e = .returned (ccOut (conc id d)) ∧ Below w.heap.size w w' := by
  unfold maxLen at hn
  by_cases c0 : id = 0 ∧ n = 3
  · obtain ⟨rfl, rfl⟩ := c0
    match d, hl with
    | [x, y, z], _ =>
      obtain ⟨b, off, rfl, hb, p0, x0, x1⟩ := hB.out 0 x rfl
      obtain ⟨b', off', e1, _, p1, y0, y1⟩ := hB.out 1 y rfl
      cases e1
      obtain ⟨b', off', e1, _, p2, z0, z1⟩ := hB.out 2 z rfl
      cases e1
      rw [Nat.add_zero] at p0
      have e : conc 0 [x, y, z] = chk x y z := rfl
      rw [e]
      clear e hB
      have g : ∀ o1 o2 o3 k, (((w.alloc o1).alloc o2).alloc o3).cell? ⟨b, k, none⟩ = w.cell? ⟨b, k, none⟩ := fun o1 o2 o3 k => by
        rw [World.cell?_alloc_lt _ _ _ (by simp; omega), World.cell?_alloc_lt _ _ _ (by simp; omega), World.cell?_alloc_lt _ _ _ (by exact hb)]
      have q0 : ∀ o1 o2 o3, (((w.alloc o1).alloc o2).alloc o3).cell? ⟨b, off, none⟩ = some (.int .u8 x) := fun o1 o2 o3 => (g _ _ _ _).trans p0
      have q1 : ∀ o1 o2 o3, (((w.alloc o1).alloc o2).alloc o3).cell? ⟨b, off + 1, none⟩ = some (.int .u8 y) := fun o1 o2 o3 => (g _ _ _ _).trans p1
      have q2 : ∀ o1 o2 o3, (((w.alloc o1).alloc o2).alloc o3).cell? ⟨b, off + 2, none⟩ = some (.int .u8 z) := fun o1 o2 o3 => (g _ _ _ _).trans p2
      clear g p0 p1 p2
      unfold chk
      by_cases h1 : y < 1
      · rw [if_pos (Or.inl h1)]
        have h1' : y = 0 := by omega
        subst h1'
        go_enter Try.func50, Try.ntmps50
        go_wp2
        go_region
        go_wp2
        (try simp only [Exit.inBlock, Exit.then])
        refine bodyPost_ret (v := .tuple #[.agg #[.int .i64 0, .int .i64 0, .int .i64 0], .bool false]) ?_ rfl ⟨rfl, ?_⟩
        · rw [results_cell_tmp rfl]
          go_simp
        · repeat' (first | exact Below.refl _ _ | refine Below.drew ?_ | refine Below.setCell ?_ (by simp <;> omega) _ | refine Below.alloc ?_ (by simp <;> omega) _)
      · by_cases h2 : z < 1
        · rw [if_pos (Or.inr (Or.inl h2))]
          have h1' : z = 0 := by omega
          subst h1'
          go_enter Try.func50, Try.ntmps50
          go_wp2
          go_region
          go_wp2
          (try simp only [Exit.inBlock, Exit.then])
          refine bodyPost_ret (v := .tuple #[.agg #[.int .i64 0, .int .i64 0, .int .i64 0], .bool false]) ?_ rfl ⟨rfl, ?_⟩
          · rw [results_cell_tmp rfl]
            go_simp
          · repeat' (first | exact Below.refl _ _ | refine Below.drew ?_ | refine Below.setCell ?_ (by simp <;> omega) _ | refine Below.alloc ?_ (by simp <;> omega) _)
        · by_cases h3 : y < z
          · rw [if_pos (Or.inr (Or.inr h3))]
            have hy : (y == 0) = false := by simp; omega
            have hz : (z == 0) = false := by simp; omega
            go_enter Try.func50, Try.ntmps50
            go_wp2
            go_region
            go_wp2
            (try simp only [Exit.inBlock, Exit.then])
            refine bodyPost_ret (v := .tuple #[.agg #[.int .i64 0, .int .i64 0, .int .i64 0], .bool false]) ?_ rfl ⟨rfl, ?_⟩
            · rw [results_cell_tmp rfl]
              go_simp
            · repeat' (first | exact Below.refl _ _ | refine Below.drew ?_ | refine Below.setCell ?_ (by simp <;> omega) _ | refine Below.alloc ?_ (by simp <;> omega) _)
          · rw [if_neg (by omega)]
            have hy : (y == 0) = false := by simp; omega
            have hz : (z == 0) = false := by simp; omega
            go_enter Try.func50, Try.ntmps50
            go_wp2
            go_region
            go_wp2
            (try simp only [Exit.inBlock, Exit.then])
            refine bodyPost_ret (v := .tuple #[.agg #[.int .i64 (x), .int .i64 y, .int .i64 z], .bool true]) ?_ rfl ⟨rfl, ?_⟩
            · rw [results_cell_tmp rfl]
              go_simp
            · repeat' (first | exact Below.refl _ _ | refine Below.drew ?_ | refine Below.setCell ?_ (by simp <;> omega) _ | refine Below.alloc ?_ (by simp <;> omega) _)
  · by_cases c1 : id = 8 ∧ n = 4
    · obtain ⟨rfl, rfl⟩ := c1
      match d, hl with
      | [x, x', y, z], _ =>
        obtain ⟨b, off, rfl, hb, p0, x0, x1⟩ := hB.out 0 x rfl
        obtain ⟨b', off', e1, _, p1, y0', y1'⟩ := hB.out 1 x' rfl
        cases e1
        obtain ⟨b', off', e1, _, p2, y0, y1⟩ := hB.out 2 y rfl
        cases e1
        obtain ⟨b', off', e1, _, p3, z0, z1⟩ := hB.out 3 z rfl
        cases e1
        rw [Nat.add_zero] at p0
        have e : conc 8 [x, x', y, z] = chk (x * 256 + x') y z := rfl
        rw [e]
        clear e hB c0
        have hor := or_shift x x' x0 x1 y0' y1'
        have g : ∀ o1 o2 o3 k, (((w.alloc o1).alloc o2).alloc o3).cell? ⟨b, k, none⟩ = w.cell? ⟨b, k, none⟩ := fun o1 o2 o3 k => by
          rw [World.cell?_alloc_lt _ _ _ (by simp; omega), World.cell?_alloc_lt _ _ _ (by simp; omega), World.cell?_alloc_lt _ _ _ (by exact hb)]
        have q0 : ∀ o1 o2 o3, (((w.alloc o1).alloc o2).alloc o3).cell? ⟨b, off, none⟩ = some (.int .u8 x) := fun o1 o2 o3 => (g _ _ _ _).trans p0
        have q1 : ∀ o1 o2 o3, (((w.alloc o1).alloc o2).alloc o3).cell? ⟨b, off + 1, none⟩ = some (.int .u8 x') := fun o1 o2 o3 => (g _ _ _ _).trans p1
        have q2 : ∀ o1 o2 o3, (((w.alloc o1).alloc o2).alloc o3).cell? ⟨b, off + 2, none⟩ = some (.int .u8 y) := fun o1 o2 o3 => (g _ _ _ _).trans p2
        have q3 : ∀ o1 o2 o3, (((w.alloc o1).alloc o2).alloc o3).cell? ⟨b, off + 3, none⟩ = some (.int .u8 z) := fun o1 o2 o3 => (g _ _ _ _).trans p3
        clear g p0 p1 p2 p3
        unfold chk
        by_cases h1 : y < 1
        · rw [if_pos (Or.inl h1)]
          have h1' : y = 0 := by omega
          subst h1'
          go_enter Try.func50, Try.ntmps50
          go_wp2
          go_region
          go_wp2
          (try simp only [Exit.inBlock, Exit.then])
          refine bodyPost_ret (v := .tuple #[.agg #[.int .i64 0, .int .i64 0, .int .i64 0], .bool false]) ?_ rfl ⟨rfl, ?_⟩
          · rw [results_cell_tmp rfl]
            go_simp
          · repeat' (first | exact Below.refl _ _ | refine Below.drew ?_ | refine Below.setCell ?_ (by simp <;> omega) _ | refine Below.alloc ?_ (by simp <;> omega) _)
        · by_cases h2 : z < 1
          · rw [if_pos (Or.inr (Or.inl h2))]
            have h1' : z = 0 := by omega
            subst h1'
            go_enter Try.func50, Try.ntmps50
            go_wp2
            go_region
            go_wp2
            (try simp only [Exit.inBlock, Exit.then])
            refine bodyPost_ret (v := .tuple #[.agg #[.int .i64 0, .int .i64 0, .int .i64 0], .bool false]) ?_ rfl ⟨rfl, ?_⟩
            · rw [results_cell_tmp rfl]
              go_simp
            · repeat' (first | exact Below.refl _ _ | refine Below.drew ?_ | refine Below.setCell ?_ (by simp <;> omega) _ | refine Below.alloc ?_ (by simp <;> omega) _)
          · by_cases h3 : y < z
            · rw [if_pos (Or.inr (Or.inr h3))]
              have hy : (y == 0) = false := by simp; omega
              have hz : (z == 0) = false := by simp; omega
              go_enter Try.func50, Try.ntmps50
              go_wp2
              go_region
              go_wp2
              (try simp only [Exit.inBlock, Exit.then])
              refine bodyPost_ret (v := .tuple #[.agg #[.int .i64 0, .int .i64 0, .int .i64 0], .bool false]) ?_ rfl ⟨rfl, ?_⟩
              · rw [results_cell_tmp rfl]
                go_simp
              · repeat' (first | exact Below.refl _ _ | refine Below.drew ?_ | refine Below.setCell ?_ (by simp <;> omega) _ | refine Below.alloc ?_ (by simp <;> omega) _)
            · rw [if_neg (by omega)]
              have hy : (y == 0) = false := by simp; omega
              have hz : (z == 0) = false := by simp; omega
              go_enter Try.func50, Try.ntmps50
              go_wp2
              go_region
              go_wp2
              (try simp only [Exit.inBlock, Exit.then])
              refine bodyPost_ret (v := .tuple #[.agg #[.int .i64 (x * 256 + x'), .int .i64 y, .int .i64 z], .bool true]) ?_ rfl ⟨rfl, ?_⟩
              · rw [results_cell_tmp rfl]
                go_simp
              · repeat' (first | exact Below.refl _ _ | refine Below.drew ?_ | refine Below.setCell ?_ (by simp <;> omega) _ | refine Below.alloc ?_ (by simp <;> omega) _)
    · have e : conc id d = none := by unfold conc; rw [hl, if_neg c0, if_neg c1]
      rw [e]
      clear e hB
      by_cases h1 : id = 0
      · subst h1
        have h3 : ¬ ((n : Int) = 3) := by omega
        clear c0 c1
        go_enter Try.func50, Try.ntmps50
        go_wp2
        (try simp only [Exit.inBlock, Exit.then])
        refine bodyPost_ret (v := .tuple #[.agg #[.int .i64 0, .int .i64 0, .int .i64 0], .bool false]) ?_ rfl ⟨rfl, ?_⟩
        · rw [results_cell_tmp rfl]
          go_simp
        · repeat' (first | exact Below.refl _ _ | refine Below.drew ?_ | refine Below.setCell ?_ (by simp <;> omega) _ | refine Below.alloc ?_ (by simp <;> omega) _)
      · by_cases h2 : id = 8
        · subst h2
          have h3 : ¬ ((n : Int) = 4) := by omega
          clear c0 c1
          go_enter Try.func50, Try.ntmps50
          go_wp2
          (try simp only [Exit.inBlock, Exit.then])
          refine bodyPost_ret (v := .tuple #[.agg #[.int .i64 0, .int .i64 0, .int .i64 0], .bool false]) ?_ rfl ⟨rfl, ?_⟩
          · rw [results_cell_tmp rfl]
            go_simp
          · repeat' (first | exact Below.refl _ _ | refine Below.drew ?_ | refine Below.setCell ?_ (by simp <;> omega) _ | refine Below.alloc ?_ (by simp <;> omega) _)
        · clear c0 c1
          go_enter Try.func50, Try.ntmps50
          go_wp2
          (try simp only [Exit.inBlock, Exit.then])
          refine bodyPost_ret (v := .tuple #[.agg #[.int .i64 0, .int .i64 0, .int .i64 0], .bool false]) ?_ rfl ⟨rfl, ?_⟩
          · rw [results_cell_tmp rfl]
            go_simp
          · repeat' (first | exact Below.refl _ _ | refine Below.drew ?_ | refine Below.setCell ?_ (by simp <;> omega) _ | refine Below.alloc ?_ (by simp <;> omega) _)

end Go.Proofs.Qxb6616208a
