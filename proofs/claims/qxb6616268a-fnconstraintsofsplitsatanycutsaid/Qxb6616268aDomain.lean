/-
  zzDepsInDomain (8): what a 'yes' says.
-/
import Derived.Test.Qxb6616268aBase
namespace Go.Proofs.Qxb6616268a
open Go.RowKit
set_option linter.unusedVariables false
set_option linter.unusedSimpArgs false

def Dp.Ok (d : Dp) : Prop := (d.isCheck = true → d.cond ≠ none) ∧ (d.isLookup = true → d.lt ≠ none ∧ d.lc ≠ none)

theorem ok_reads {d : Dp} (h : 0 < d.rn) : d.Ok := by
  have e : ((d.rn : Int) == 0) = false := by rw [beq_eq_false_iff_ne]; omega
  exact ⟨fun h1 => by simp [Dp.isCheck, e] at h1, fun h1 => by simp [Dp.isLookup, e] at h1⟩
theorem ok_catalog {d : Dp} (h : (d.catalog.toList == sCon) = false) : d.Ok := by
  exact ⟨fun h1 => by rw [Dp.isCheck, h] at h1; simp at h1, fun h1 => by rw [Dp.isLookup, h] at h1; simp at h1⟩
theorem ok_other {d : Dp} (h : (d.kind.toList == [99]) = false) (h' : (d.kind.toList == [102]) = false) : d.Ok := by
  exact ⟨fun h1 => by rw [Dp.isCheck, h] at h1; simp at h1, fun h1 => by rw [Dp.isLookup, h'] at h1; simp at h1⟩
theorem ok_check {d : Dp} (h : d.cond ≠ none) (h' : (d.kind.toList == [102]) = false) : d.Ok := by
  exact ⟨fun _ => h, fun h1 => by rw [Dp.isLookup, h'] at h1; simp at h1⟩
theorem ok_lookup {d : Dp} (h : (d.kind.toList == [99]) = false) (h1 : d.lt ≠ none) (h2 : d.lc ≠ none) : d.Ok := by
  exact ⟨fun h1 => by rw [Dp.isCheck, h] at h1; simp at h1, fun _ => ⟨h1, h2⟩⟩

/-- the answer -/
def Dom (l : List Dp) (e : Ending) : Prop := ∃ r, e = .returned (.bool r) ∧ (r = true → ∀ d, d ∈ l → d.Ok)

theorem ok_snoc {l : List Dp} {k : Nat} {d : Dp} (h : ∀ i x, i < k → l[i]? = some x → x.Ok) (hd : l[k]? = some d) (hk : d.Ok) : ∀ i x, i < k + 1 → l[i]? = some x → x.Ok := by
  intro i x hi hx
  by_cases e : i = k
  · subst e; rw [hd] at hx; cases hx; exact hk
  · exact h i x (by omega) hx

set_option maxHeartbeats 1000000 in
set_option maxRecDepth 100000 in
theorem inDomain_any (ao : Option Addr) (n cap : Nat) (l : List Dp) (w : World) (hl : l.length = n) (hn : n ≤ 65536) (hD : Hid (Deps w ao l)) :
    Calls Try.prog 8 #[.slice ao n cap] w fun e w' => Dom l e ∧ Below w.heap.size w w' := by
  have HL : Hid (l.length = n) := hl
  clear hl
  go_enter Try.func8, Try.ntmps8
  go_wp2
  go_loopw [3] (fun i wr => ∃ k : Nat, k ≤ n ∧ i = .int .i64 k ∧ Hid (∀ i x, i < k → l[i]? = some x → x.Ok) ∧ Below w.heap.size w wr) (fun i _ => n - (intOf i).toNat)
  case atStart => exact ⟨0, Nat.zero_le _, rfl, fun i x hi _ => by omega, Below.refl _ _⟩
  case round =>
    obtain ⟨k, hk, rfl, hok, hb⟩ := hrel
    by_cases hlt : k < n
    · obtain ⟨d, hd⟩ : ∃ d, l[k]? = some d := ⟨_, List.getElem?_eq_getElem (by have := HL.out; omega)⟩
      obtain ⟨b, off, rfl, hlb, hat, hin⟩ := hD.out k d hd
      obtain ⟨c0, c1, c2, c3, c4, c5, c6, c7, c8⟩ := hat
      rw [← hb.cell (by exact hlb)] at c0 c1 c2 c3 c4 c5 c6 c7 c8
      have hrn := hin.rn
      unfold maxLen at hrn
      have hst : Hid (d.Ok → ∀ i x, i < k + 1 → l[i]? = some x → x.Ok) := fun h => ok_snoc hok.out hd h
      have hkn : (k : Int) < n := by omega
      clear hin hd hok
      obtain ⟨dd, dc, dk, du, ra, rn, rc, dp, dco, dlt, dlc⟩ := d
      simp only at c0 c1 c2 c3 c4 c5 c6 c7 c8 hrn
      by_cases h1 : 0 < rn
      · have HO : Hid _ := hst.out (ok_reads h1)
        go_wp2
        go_roundw
        case rel => exact ⟨k + 1, by omega, by go_num, HO, hb.alloc hb.size _⟩
        case measure => simp [intOf]; omega
      · cases h2 : (dc.toList == sCon)
        · have HO : Hid _ := hst.out (ok_catalog h2)
          unfold sCon at h2
          go_wp2
          go_roundw
          case rel => exact ⟨k + 1, by omega, by go_num, HO, hb.alloc hb.size _⟩
          case measure => simp [intOf]; omega
        · unfold sCon at h2
          cases h3 : (dk.toList == [99])
          · cases h4 : (dk.toList == [102])
            · have HO : Hid _ := hst.out (ok_other h3 h4)
              go_wp2
              go_roundw
              case rel => exact ⟨k + 1, by omega, by go_num, HO, hb.alloc hb.size _⟩
              case measure => simp [intOf]; omega
            · cases dlt with
              | none =>
                simp only [pv, pa] at c7
                go_wp2
                go_ret
                exact ⟨⟨false, rfl, fun h => by cases h⟩, hb.alloc hb.size _⟩
              | some q =>
                cases dlc with
                | none =>
                  simp only [pv, pa] at c7 c8
                  go_wp2
                  go_ret
                  exact ⟨⟨false, rfl, fun h => by cases h⟩, hb.alloc hb.size _⟩
                | some q2 =>
                  have HO : Hid _ := hst.out (ok_lookup h3 (fun h => by cases h) (fun h => by cases h))
                  simp only [pv, pa] at c7 c8
                  go_wp2
                  go_roundw
                  case rel => exact ⟨k + 1, by omega, by go_num, HO, hb.alloc hb.size _⟩
                  case measure => simp [intOf]; omega
          · have h4 : (dk.toList == [102]) = false := by
              rw [beq_iff_eq] at h3; rw [h3]; rfl
            cases dco with
            | none =>
              simp only [pv, pa] at c6
              go_wp2
              go_ret
              exact ⟨⟨false, rfl, fun h => by cases h⟩, hb.alloc hb.size _⟩
            | some q =>
              have HO : Hid _ := hst.out (ok_check (fun h => by cases h) h4)
              simp only [pv, pa] at c6
              go_wp2
              go_roundw
              case rel => exact ⟨k + 1, by omega, by go_num, HO, hb.alloc hb.size _⟩
              case measure => simp [intOf]; omega
    · have hall : Hid (∀ d, d ∈ l → d.Ok) := fun d hd => by
        obtain ⟨i, hi⟩ := List.getElem?_of_mem hd
        exact hok.out i d (by have := (List.getElem?_eq_some_iff.1 hi).1; have := HL.out; omega) hi
      go_wp2
      go_ret
      exact ⟨⟨true, rfl, fun _ => hall⟩, hb⟩

end Go.Proofs.Qxb6616268a
