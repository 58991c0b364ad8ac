/-
  has (40), time.After (41) at zero times.
-/
import Derived.Test.Qxb6616208aPdu
namespace Go.Proofs.Qxb6616208a
open Go.RowKit
set_option linter.unusedVariables false
set_option linter.unusedSimpArgs false

/-- a row of pointers to PDUs -/
def PRow (w : World) (q : Nat) (L : List (Nat × List El)) : Prop := ∀ i p es, L[i]? = some (p, es) → w.cell? ⟨q, i, none⟩ = some (.pointer (some ⟨p, 0, none⟩)) ∧ PEl w p es

theorem PRow.below {w w' : World} {q : Nat} {L : List (Nat × List El)} (h : PRow w q L) (hq : q < w.heap.size) (hb : Below w.heap.size w w') : PRow w' q L := fun i p es e => by
  obtain ⟨h1, h2⟩ := h i p es e
  exact ⟨(hb.cell (by exact hq)).trans h1, h2.below hb⟩

def hasP (L : List (Nat × List El)) (part : Int) : Bool := L.any fun x => pno x.2 == part

theorem hasP_drop {L : List (Nat × List El)} {part : Int} {j : Nat} {p : Nat} {es : List El} (h : L[j]? = some (p, es)) : hasP (L.drop j) part = (pno es == part || hasP (L.drop (j + 1)) part) := by
  obtain ⟨hk, e⟩ := List.getElem?_eq_some_iff.1 h
  rw [List.drop_eq_getElem_cons hk, e]
  simp [hasP]

set_option maxHeartbeats 1000000 in
set_option maxRecDepth 100000 in
theorem has_any (m q cap n : Nat) (L : List (Nat × List El)) (part : Int) (w : World) (hn : L.length = n) (hm : w.cell? ⟨m, 0, none⟩ = some (.slice (some ⟨q, 0, none⟩) n cap)) (hml : m < w.heap.size) (hql : q < w.heap.size) (hR : Hid (PRow w q L)) (hl : n ≤ 1048576) :
    Calls Try.prog 40 #[.pointer (some ⟨m, 0, none⟩), .int .i64 part] w fun e w' => e = .returned (.bool (hasP L part)) ∧ Below w.heap.size w w' := by
  have HN : Hid (L.length = n) := hn
  clear hn
  go_enter Try.func40, Try.ntmps40
  go_wp2
  go_loopw [12] (fun i wr => ∃ j : Nat, j ≤ n ∧ i = .int .i64 j ∧ Hid (hasP (L.drop j) part = hasP L part) ∧ Below w.heap.size w wr) (fun i _ => n - (intOf i).toNat)
  case atStart => exact ⟨0, Nat.zero_le _, rfl, rfl, Below.refl _ _⟩
  case round =>
    obtain ⟨j, hj, rfl, hf, hbw⟩ := hrel
    clear hm
    by_cases hlt : j < n
    · obtain ⟨⟨p, es⟩, hd⟩ : ∃ x, L[j]? = some x := ⟨_, List.getElem?_eq_getElem (by have := HN.out; omega)⟩
      obtain ⟨c1, hpe⟩ := (hR.out.below hql hbw) j p es hd
      have hjn : (j : Int) < n := by omega
      have HP : Hid (PEl wr p es) := hpe
      have HS : Hid (hasP L part = (pno es == part || hasP (L.drop (j + 1)) part)) := hf.out.symm.trans (hasP_drop hd)
      clear hpe hf hd
      go_wp2_with fail
      refine (partOf_any p es wr HP).mono ?_
      rintro e w1 ⟨rfl, hb1⟩
      have hb2 : Hid (Below w.heap.size w w1) := hbw.trans (hb1.mono hbw.size)
      clear hb1 hbw c1 HP
      cases hq : (pno es == part) with
      | true =>
        have H1 : Hid (hasP L part = true) := by
          have h := HS.out
          rw [hq] at h
          exact h.trans (Bool.true_or _)
        clear HS
        go_wp2
        go_ret
        exact ⟨by rw [H1.out]; rfl, hb2⟩
      | false =>
        have H1 : Hid (hasP (L.drop (j + 1)) part = hasP L part) := by
          have h := HS.out
          rw [hq, Bool.false_or] at h
          exact h.symm
        clear HS
        go_wp2
        go_roundw
        case rel => exact ⟨j + 1, by omega, by go_num, H1, hb2⟩
        case measure => simp [intOf]; omega
    · have hj' : L.length ≤ j := by have := HN.out; omega
      have H1 : Hid (hasP L part = false) := by
        have h := hf.out
        rw [List.drop_eq_nil_of_le hj'] at h
        exact h.symm
      clear hf
      go_wp2
      go_ret
      exact ⟨by rw [H1.out]; rfl, hbw⟩

def zeroTime : Value := .agg #[.int .u64 0, .int .i64 0, .pointer none]

set_option maxHeartbeats 1000000 in
theorem after_zero (w : World) : Calls Try.prog 41 #[.agg #[.int .u64 0, .int .i64 0, .pointer none], .agg #[.int .u64 0, .int .i64 0, .pointer none]] w fun e w' => e = .returned (.bool false) ∧ Below w.heap.size w w' := by
  have b1 : bits .and .u64 0 9223372036854775808 = 0 := by decide +kernel
  have b2 : bits .and .u64 0 0 = 0 := by decide +kernel
  have b3 : bits .and .u64 0 1073741823 = 0 := by decide +kernel
  go_enter Try.func41, Try.ntmps41
  go_wp2
  go_ret
  refine ⟨rfl, ?_⟩
  repeat' (first | with_reducible exact Below.refl _ _ | with_reducible refine Below.drew ?_ | with_reducible refine Below.setCell ?_ (by simp <;> omega) _ | with_reducible refine Below.alloc ?_ (by simp <;> omega) _)

end Go.Proofs.Qxb6616208a
