/-
  The contracts of the two callees: zzBytes (function 4), (*Report).Beyond (function 5); a step law for an append within the capacity inside a region that draws its order.
-/
import Derived.Test.Qxb6617595aRows
import Derived.WalkKit
import Derived.WalkSpells
import Derived.WalkLawsBesides
import Derived.Deep.RegionLaw
namespace Go.Proofs.Qxb6617595a
open Go.RowKit
set_option linter.unusedVariables false

theorem Try.info29 : (Try.prog.info? 29).map (fun i => (i.zero, i.size, i.bytes)) = some (some (.agg #[.string ⟨#[]⟩, .string ⟨#[]⟩, .string ⟨#[]⟩, .int .i64 0, .int .i64 0, .slice none 0 0]), 6, 88) := by kernel_rfl

set_option maxHeartbeats 400000 in
theorem zzBytes_any (a0 : Option Addr) (len0 cap0 : Nat) (a1 : Option Addr) (len1 cap1 : Nat) (a2 a3 a4 a5 : Int) (w : World) (h0 : len0 ≤ maxLen) (h1 : len1 ≤ maxLen) :
    Calls Try.prog 4 #[.slice a0 len0 cap0, .slice a1 len1 cap1, .int .i64 a2, .int .i64 a3, .int .i64 a4, .int .i64 a5] w fun e w' => e = .returned (.bool (decide (len0 + len1 ≤ 1048576))) ∧ w = w' := by
  unfold maxLen at h0 h1
  by_cases c0 : len0 ≤ 1048576
  · by_cases c1 : len1 ≤ 1048576
    · by_cases c2 : len0 + len1 ≤ 1048576
      all_goals
        go_enter Try.func4, Try.ntmps4
        go_wp2
        go_ret
        exact ⟨by simp [c2], rfl⟩
    · go_enter Try.func4, Try.ntmps4
      go_wp2
      go_ret
      exact ⟨by simp; omega, rfl⟩
  · go_enter Try.func4, Try.ntmps4
    go_wp2
    go_ret
    exact ⟨by simp; omega, rfl⟩

/-- one Excess in memory: the k-th element of the row at block g -/
def isExc (w : World) (g k : Nat) (p : Int × Int) : Prop :=
  w.cell? ⟨g, k * 6, none⟩ = some (.string ⟨#[]⟩) ∧ w.cell? ⟨g, k * 6 + 1, none⟩ = some (.string ⟨#[]⟩) ∧ w.cell? ⟨g, k * 6 + 2, none⟩ = some (.string ⟨#[]⟩) ∧
  w.cell? ⟨g, k * 6 + 3, none⟩ = some (.int .i64 p.1) ∧ w.cell? ⟨g, k * 6 + 4, none⟩ = some (.int .i64 p.2) ∧ w.cell? ⟨g, k * 6 + 5, none⟩ = some (.slice none 0 0)

/-- what Beyond sums up over the first k elements -/
def sumTo (xs : List (Int × Int)) : Nat → Int
  | 0 => 0
  | k + 1 => wrap64 (sumTo xs k + wrap64 ((xs.getD k (0, 0)).1 - (xs.getD k (0, 0)).2))

set_option maxHeartbeats 400000 in
theorem beyond_any (R g n cap : Nat) (xs : List (Int × Int)) (w : World) (hcap : n ≤ 1000000)
   (hr : w.cell? ⟨R, 1, none⟩ = some (.slice (some ⟨g, 0, none⟩) n cap)) (hx : ∀ k, k < n → isExc w g k (xs.getD k (0, 0))) (hg : g < w.heap.size) :
    Calls Try.prog 5 #[.pointer (some ⟨R, 0, none⟩)] w fun e w' => e = .returned (.int .i64 (sumTo xs n)) ∧ Below w.heap.size w w' := by
  go_enter Try.func5, Try.ntmps5
  go_wp2
  go_loopw [3, 11] (fun t i wr => ∃ k : Nat, k ≤ n ∧ i = .int .i64 k ∧ t = .int .i64 (sumTo xs k) ∧ Below w.heap.size w wr) (fun _ i _ => n - (intOf i).toNat)
  case atStart => exact ⟨0, Nat.zero_le _, rfl, rfl, Below.refl _ _⟩
  case round =>
    obtain ⟨k, hk, rfl, rfl, hb⟩ := hrel
    by_cases hlt : k < n
    · obtain ⟨c0, c1, c2, c3, c4, c5⟩ := hx k hlt
      rw [← hb.cell (by exact hg)] at c0 c1 c2 c3 c4 c5
      go_wp2
      go_roundw
      case rel => exact ⟨k + 1, by omega, by go_num, rfl, hb.alloc hb.size _⟩
      case measure => simp [intOf]; omega
    · go_wp2
      go_ret
      obtain rfl : k = n := by omega
      exact ⟨rfl, hb⟩

/-- append within the capacity onto a row of the call's own, as one step of a region that draws. -/
theorem step_append_fits {P : Program} {ops : Array Oper} {o : Oper} {a : Act} {w : World} {K : Act → World → Prop} {Q : Exit → Act → World → Prop} {E : Prop}
    (hg : o.guard = none) (s x : Operand) (t : TypeId) (hop : o.op = Op.call { callee := Callee.builtin Builtin.append, args := #[s, x], argTypes := #[t, t] })
    (base : Nat) (e : TypeId) (i : TypeInfo) (size : Nat) (h1 : P.underlying t = some (.slice e)) (h2 : P.info? e = some i) (h4 : i.size = size)
    (g k cap : Nat) (xs : List Value) (hs : a.eval s = .slice (some ⟨g, 0, none⟩) k cap) (hown : w.ownsRow base e size (.slice (some ⟨g, 0, none⟩) k cap) k xs) (ad : Addr) (m c : Nat) (news : List Value) (hx : a.eval x = .slice (some ad) m c) (hn : news.length = m * size)
    (hc : ∀ j u, news[j]? = some u → w.cell? (ad.add j) = some u) (h1c : ∀ u ∈ news, u.oneCell' = true) (b1 : k + m ≤ cap)
    (hK : ∀ w', w'.ownsRow base e size (.slice (some ⟨g, 0, none⟩) (k + m) cap) (k + m) (xs ++ news) → w.grownBy w' (some g) → K (a.put o.dst (.slice (some ⟨g, 0, none⟩) (k + m) cap)) w') :
    if Region.wanted o (yielded ops a.tmps) = true then Oper.wp P o a w K Q else E := by
  have hw : Region.wanted o (yielded ops a.tmps) = true := by simp [Region.wanted, hg]
  rw [if_pos hw]
  obtain ⟨w', hrun, r1, r2⟩ := run_append_fits (P := P) w base t o.type e i size h1 h2 h4 g k cap xs hown ad m c news hn hc h1c b1
  unfold Oper.wp
  simp [execOp, hop, resolve, invoke, builtin, hs, hx, hrun, Result.andThen]
  exact hK w' r1 r2

end Go.Proofs.Qxb6617595a
