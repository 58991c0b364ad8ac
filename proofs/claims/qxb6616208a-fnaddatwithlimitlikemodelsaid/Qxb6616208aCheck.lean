/-
  zzSameMessage (34), zzCheck (31): where they say true.
-/
import Derived.Test.Qxb6616208aZslots
import Derived.LaidEqlPtr
namespace Go.Proofs.Qxb6616208a
open Go.RowKit
set_option linter.unusedVariables false
set_option linter.unusedSimpArgs false

theorem Try.info47 : ∃ i, Try.prog.info? 47 = some i := by
  have h : (Try.prog.info? 47).map (·.size) = some 38 := by kernel_rfl
  cases hq : Try.prog.info? 47 with
  | none => rw [hq] at h; cases h
  | some i => exact ⟨i, rfl⟩

theorem eql32_same (w : World) (a : Addr) : (binOp .eql 32 (.pointer (some a)) (.pointer (some a))).run Try.prog w = .ok (.bool true) w := by
  obtain ⟨i, hi⟩ := Try.info47
  exact run_eql_ptr_same w a Try.underlying32 hi

theorem neq32_same (w : World) (a : Addr) : (binOp .neq 32 (.pointer (some a)) (.pointer (some a))).run Try.prog w = .ok (.bool false) w := by
  obtain ⟨i, hi⟩ := Try.info47
  have h : ∀ d : Nat, (Op.equalIn (d + 1) 32 (.pointer (some a)) (.pointer (some a))).run Try.prog w = .ok true w := fun d => by
    simp [Op.equalIn, run_underlying Try.underlying32, sizeOf, typeInfo, hi, run_sameAddr_same]
  simp only [binOp]
  simp [Op.equal, Op.maxDepth, h 9999]

/-- the message and the slots agree -/
def Agree (w : World) (q sq pg tot n : Nat) : Prop := ∀ i, i < tot → ∃ a p : Nat, a < n ∧ w.cell? ⟨sq, i, none⟩ = some (.int .i64 a) ∧ w.cell? ⟨q, i, none⟩ = some (.pointer (some ⟨p, 0, none⟩)) ∧ w.cell? ⟨pg, a, none⟩ = some (.pointer (some ⟨p, 0, none⟩))

set_option maxHeartbeats 2000000 in
set_option maxRecDepth 100000 in
theorem zzSame_any (r q cap sq sc pg n pc tot : Nat) (ref : Int) (w : World) (ht : tot ≤ 1048576) (hn : n ≤ 1048576) (c0 : w.cell? ⟨r, 0, none⟩ = some (.slice (some ⟨q, 0, none⟩) tot cap)) (c1 : w.cell? ⟨r, 1, none⟩ = some (.int .i64 ref)) (hA : Hid (Agree w q sq pg tot n)) :
    Calls Try.prog 34 #[.pointer (some ⟨r, 0, none⟩), .int .i64 ref, .slice (some ⟨sq, 0, none⟩) tot sc, .slice (some ⟨pg, 0, none⟩) n pc] w fun e w' => e = .returned (.bool true) ∧ Below w.heap.size w w' := by
  have hne := neq32_same
  go_enter Try.func34, Try.ntmps34
  go_wp2
  go_loopw [9] (fun i wr => ∃ j : Nat, j ≤ tot ∧ i = .int .i64 j ∧ Hid (∃ m, wr = w.drewN m)) (fun i _ => tot - (intOf i).toNat)
  case atStart => exact ⟨0, Nat.zero_le _, rfl, 0, rfl⟩
  case round =>
    obtain ⟨j, hj, rfl, HM⟩ := hrel
    obtain ⟨m, rfl⟩ := HM.out
    clear HM
    have c0' : (w.drewN m).cell? ⟨r, 0, none⟩ = some (.slice (some ⟨q, 0, none⟩) tot cap) := c0
    by_cases hlt : j < tot
    · obtain ⟨a, p, ha, d1, d2, d3⟩ := hA.out j hlt
      have d1' : (w.drewN m).cell? ⟨sq, j, none⟩ = some (.int .i64 a) := d1
      have d2' : (w.drewN m).cell? ⟨q, j, none⟩ = some (.pointer (some ⟨p, 0, none⟩)) := d2
      have d3' : (w.drewN m).cell? ⟨pg, a, none⟩ = some (.pointer (some ⟨p, 0, none⟩)) := d3
      have hjn : (j : Int) < tot := by omega
      have han : (a : Int) < n := by omega
      go_wp2
      go_region
      go_wp2
      go_roundw
      case rel => exact ⟨j + 1, by omega, by go_num, m + 1, rfl⟩
      case measure => simp [intOf]; omega
    · go_wp2
      go_ret
      exact ⟨rfl, below_drewN (Below.refl _ _) _⟩

set_option maxHeartbeats 2000000 in
theorem check0_any (ref : Int) (sa : Option Addr) (sn sc : Nat) (pv : Value) (s : Int) (w : World) :
    Calls Try.prog 31 #[.pointer none, .agg #[.int .i64 0, .int .i64 ref, .slice sa sn sc], pv, .int .i64 s] w fun e w' => e = .returned (.bool true) ∧ Below w.heap.size w w' := by
  go_enter Try.func31, Try.ntmps31
  go_wp2
  go_ret
  exact ⟨rfl, (Below.refl _ _).alloc (Nat.le_refl _) _⟩

set_option maxHeartbeats 2000000 in
set_option maxRecDepth 100000 in
theorem check1_any (r q cap pg n pc s p : Nat) (ref : Int) (sa : Option Addr) (sn sc : Nat) (w : World) (hs : s < n) (hn : n ≤ 1048576) (c0 : w.cell? ⟨r, 0, none⟩ = some (.slice (some ⟨q, 0, none⟩) 1 cap)) (c1 : w.cell? ⟨r, 1, none⟩ = some (.int .i64 0)) (cq : w.cell? ⟨q, 0, none⟩ = some (.pointer (some ⟨p, 0, none⟩))) (cp : w.cell? ⟨pg, s, none⟩ = some (.pointer (some ⟨p, 0, none⟩))) :
    Calls Try.prog 31 #[.pointer (some ⟨r, 0, none⟩), .agg #[.int .i64 1, .int .i64 ref, .slice sa sn sc], .slice (some ⟨pg, 0, none⟩) n pc, .int .i64 (s : Nat)] w fun e w' => e = .returned (.bool true) ∧ Below w.heap.size w w' := by
  have heq := eql32_same
  have hsn : (s : Int) < n := by omega
  have hl : ∀ {b : Nat} {o : Nat} {v : Value}, w.cell? ⟨b, o, none⟩ = some v → ∀ ob, (w.alloc ob).cell? ⟨b, o, none⟩ = some v := fun h ob => (World.cell?_alloc_lt _ _ _ (by exact World.block_lt_of_cell? _ _ h)).trans h
  have c0' := hl c0
  have c1' := hl c1
  have cq' := hl cq
  have cp' := hl cp
  clear hl
  go_enter Try.func31, Try.ntmps31
  go_wp2
  go_quiet (fail)
  go_wp2
  go_ret
  exact ⟨rfl, below_drewN ((Below.refl _ _).alloc (Nat.le_refl _) _) _⟩

set_option maxHeartbeats 2000000 in
theorem check2_any (r q cap sq sc pg n pc tot : Nat) (ref s : Int) (w : World) (ht : tot ≤ 1048576) (hn : n ≤ 1048576) (c0 : w.cell? ⟨r, 0, none⟩ = some (.slice (some ⟨q, 0, none⟩) tot cap)) (c1 : w.cell? ⟨r, 1, none⟩ = some (.int .i64 ref)) (hA : Hid (Agree w q sq pg tot n)) :
    Calls Try.prog 31 #[.pointer (some ⟨r, 0, none⟩), .agg #[.int .i64 2, .int .i64 ref, .slice (some ⟨sq, 0, none⟩) tot sc], .slice (some ⟨pg, 0, none⟩) n pc, .int .i64 s] w fun e w' => e = .returned (.bool true) ∧ Below w.heap.size w w' := by
  have hl : ∀ {b : Nat} {o : Nat} {v : Value} (ob : Obj), w.cell? ⟨b, o, none⟩ = some v → (w.alloc ob).cell? ⟨b, o, none⟩ = some v := fun ob h => (World.cell?_alloc_lt _ _ _ (by exact World.block_lt_of_cell? _ _ h)).trans h
  have HC : Hid (∀ ob, Calls Try.prog 34 #[.pointer (some ⟨r, 0, none⟩), .int .i64 ref, .slice (some ⟨sq, 0, none⟩) tot sc, .slice (some ⟨pg, 0, none⟩) n pc] (w.alloc ob) fun e w' => e = .returned (.bool true) ∧ Below w.heap.size w w') := fun ob =>
    (zzSame_any r q cap sq sc pg n pc tot ref (w.alloc ob) ht hn (hl ob c0) (hl ob c1) (fun i hi => by obtain ⟨a, p, h1, h2, h3, h4⟩ := hA.out i hi; exact ⟨a, p, h1, hl ob h2, hl ob h3, hl ob h4⟩)).mono fun e w' h => ⟨h.1, ((Below.refl _ _).alloc (Nat.le_refl _) _).trans (h.2.mono (by simp))⟩
  clear hl hA c0 c1
  go_enter Try.func31, Try.ntmps31
  go_wp2_with fail
  refine (HC.out _).mono ?_
  rintro e w' ⟨rfl, hb⟩
  clear HC
  go_wp2
  go_ret
  exact ⟨rfl, hb⟩

end Go.Proofs.Qxb6616208a
