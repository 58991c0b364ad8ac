/-
  The early ways out of function 3; the dependents as they come in.
-/
import Derived.Test.Qxb6616268aZz
import Derived.Test.Qxb6616268aDomain
import Derived.Test.Qxb6616268aTooBig
import Derived.Test.Qxb6616268aBytes
import Derived.ProofKit
import Derived.OpenShut
import Derived.ShutString
import Derived.ChangeOld
import Derived.Below
import Derived.SliceStrings
import Derived.Deep.Slices
namespace Go.Proofs.Qxb6616268a
open Go.ChangeShapes Go.WideShapes Go.ChangeAt Go.RowKit
set_option linter.unusedVariables false
set_option linter.unusedSimpArgs false

set_option maxHeartbeats 1000000 in
set_option maxRecDepth 100000 in
theorem main_early (ao : Option Addr) (n cap : Nat) (l : List Dp) (col : ByteArray) (cut : Int) (w : World) (hp : Hid (col.size ≤ maxLen)) (hl : Hid (l.length = n)) (hn : n ≤ maxLen) (hx : ¬ (n ≤ 65536 ∧ 0 ≤ cut ∧ cut ≤ n)) (hD : Hid (Deps w ao l)) :
    Calls Try.prog 3 #[.slice ao n cap, .string col, .int .i64 cut] w fun e w' => e = .returned (.bool true) ∧ Below w.heap.size w w' := by
  have c6 : Hid (Calls Try.prog 6 #[.slice ao n cap, .string col, .int .i64 cut] w fun e w' => AnyBool e ∧ w = w') := bytes_any ao n cap l col cut w hp.out hl.out hn hD
  by_cases hbig : 65536 < n
  · have c7 : Hid (Calls Try.prog 7 #[.slice ao n cap, .string col] w fun e w' => e = .returned (.bool true) ∧ w = w') := tooBig_yes ao n cap col w hbig hn
    unfold maxLen at hn
    clear hx
    go_enter Try.func3, Try.ntmps3
    go_wp2_with fail
    refine c6.out.mono ?_
    rintro e w' ⟨⟨r, rfl⟩, rfl⟩
    clear c6
    cases r
    · go_wp2
      go_ret
      exact ⟨rfl, Below.refl _ _⟩
    go_wp2_with fail
    refine c7.out.mono ?_
    rintro e w' ⟨rfl, rfl⟩
    clear c7
    go_wp2
    go_ret
    exact ⟨rfl, Below.refl _ _⟩
  · have c7 : Hid (Calls Try.prog 7 #[.slice ao n cap, .string col] w fun e w' => AnyBool e ∧ Below w.heap.size w w') := tooBig_any ao n cap l col w hp.out hl.out (by omega) hD
    by_cases hneg : cut < 0
    · clear hx
      go_enter Try.func3, Try.ntmps3
      go_wp2_with fail
      refine c6.out.mono ?_
      rintro e w' ⟨⟨r, rfl⟩, rfl⟩
      clear c6
      cases r
      · go_wp2
        go_ret
        exact ⟨rfl, Below.refl _ _⟩
      go_wp2_with fail
      refine c7.out.mono ?_
      rintro e w1 ⟨⟨r, rfl⟩, hb1⟩
      clear c7
      cases r
      all_goals
        go_wp2
        go_ret
        exact ⟨rfl, hb1⟩
    · have hgt : (n : Int) < cut := by omega
      have hnn : ¬ cut < 0 := hneg
      clear hx
      go_enter Try.func3, Try.ntmps3
      go_wp2_with fail
      refine c6.out.mono ?_
      rintro e w' ⟨⟨r, rfl⟩, rfl⟩
      clear c6
      cases r
      · go_wp2
        go_ret
        exact ⟨rfl, Below.refl _ _⟩
      go_wp2_with fail
      refine c7.out.mono ?_
      rintro e w1 ⟨⟨r, rfl⟩, hb1⟩
      clear c7
      cases r
      all_goals
        go_wp2
        go_ret
        exact ⟨rfl, hb1⟩

/-! ### what comes in -/
section
variable {H : Type} {enc : TypeId × Value → H} {W : World} {base : Nat} {sp : Nat → Bool} {held : Bool}

theorem Try.under28 : Try.prog.underlying 28 = some (.pointer 9) := by kernel_rfl
theorem Try.cells9 : Try.prog.cellsOf 9 = 1 := by kernel_rfl
theorem Try.cells30 : Try.prog.cellsOf 30 = 9 := by kernel_rfl

theorem ptr_open {fuel : Nat} {v : Value} {y : DataW H × List MemPlace} (h : DataW.trod enc Try.prog W base sp held fuel 28 [v] = some y) : ∃ p : Option SPtr, v = pv p ∧ PIn W p := by
  rcases DataW.trod_pointer Try.under28 h with ⟨e, _⟩ | ⟨a, cs', y', n, _, e, _, hc, hy⟩
  · injection e with e _
    exact ⟨none, e, fun q hq => by cases hq⟩
  · injection e with e _
    obtain ⟨s, rfl, _, hs⟩ := DataW.trod_string Try.underlying9 hy
    rw [Try.cells9] at hc
    have hcell := cell_of_cells?_one hc
    obtain ⟨b, off, spot⟩ := a
    have hspot : spot = none := by simpa using World.cell?_spot hcell
    subst hspot
    refine ⟨some ⟨b, off, s⟩, e, fun q hq => ?_⟩
    cases hq
    exact ⟨World.block_lt_of_cell? W _ hcell, hcell, hs⟩

theorem reads_open {fuel : Nat} {v : Value} {y : DataW H × List MemPlace} (h : DataW.trod enc Try.prog W base sp held fuel 27 [v] = some y) : ∃ ra rn rc, v = .slice ra rn rc ∧ rn ≤ maxLen ∧
    ∀ j, j < rn → ∃ b o s, ra = some ⟨b, o, none⟩ ∧ b < W.heap.size ∧ W.cell? ⟨b, o + j, none⟩ = some (.string s) ∧ s.size ≤ maxLen := by
  rcases open_strings Try.underlying27 Try.underlying9 Try.cells9 h with ⟨e, _⟩ | ⟨a, l, c, ss, e, _, hl, hm, hz, _, hcell, hws⟩
  · injection e with e _
    exact ⟨none, 0, 0, e, Nat.zero_le _, fun j hj => by omega⟩
  · injection e with e _
    refine ⟨some a, l, c, e, Nat.le_trans hl hm, fun i hi => ?_⟩
    have hlen : l ≤ ss.length := by rw [hz]; split <;> omega
    have hc := hcell i (by omega)
    obtain ⟨b, off, spot⟩ := a
    have hspot : spot = none := by simpa [Addr.add] using World.cell?_spot (hcell 0 (by omega))
    subst hspot
    rw [add_plain] at hc
    refine ⟨b, off, _, rfl, World.block_lt_of_cell? W _ hc, hc, hws _ ?_⟩
    rw [List.getD_eq_getElem?_getD, List.getElem?_eq_getElem (by omega)]
    exact List.getElem_mem _

set_option maxRecDepth 100000 in
theorem dp_open {fuel : Nat} {cs : List Value} {y : DataW H × List MemPlace} (h : DataW.trod enc Try.prog W base sp held fuel 30 cs = some y) : ∃ d : Dp, cs = d.cells ∧ DIn W d := by
  obtain ⟨xs, n, _, _, hl, hlen, hf⟩ := DataW.trod_struct Try.underlying30 h
  rw [Try.cells30] at hl
  match cs, hl, xs, hlen, hf with
  | [v0, v1, v2, v3, v4, v5, v6, v7, v8], _, [y0, y1, y2, y3, y4, y5, y6, y7, y8], _, hf =>
    have c4 : Try.prog.cellsOf 4 = 1 := by kernel_rfl
    have c27 : Try.prog.cellsOf 27 = 1 := by kernel_rfl
    have c28 : Try.prog.cellsOf 28 = 1 := by kernel_rfl
    have g0 : DataW.trod enc Try.prog W base sp held n 9 (([v0, v1, v2, v3, v4, v5, v6, v7, v8].drop 0).take (Try.prog.cellsOf 9)) = some y0 := hf 0 _ rfl
    rw [Try.cells9] at g0
    have h0 : DataW.trod enc Try.prog W base sp held n 9 [v0] = some y0 := g0
    have g1 : DataW.trod enc Try.prog W base sp held n 9 (([v0, v1, v2, v3, v4, v5, v6, v7, v8].drop 1).take (Try.prog.cellsOf 9)) = some y1 := hf 1 _ rfl
    rw [Try.cells9] at g1
    have h1 : DataW.trod enc Try.prog W base sp held n 9 [v1] = some y1 := g1
    have g2 : DataW.trod enc Try.prog W base sp held n 9 (([v0, v1, v2, v3, v4, v5, v6, v7, v8].drop 2).take (Try.prog.cellsOf 9)) = some y2 := hf 2 _ rfl
    rw [Try.cells9] at g2
    have h2 : DataW.trod enc Try.prog W base sp held n 9 [v2] = some y2 := g2
    have g3 : DataW.trod enc Try.prog W base sp held n 4 (([v0, v1, v2, v3, v4, v5, v6, v7, v8].drop 3).take (Try.prog.cellsOf 4)) = some y3 := hf 3 _ rfl
    rw [c4] at g3
    have h3 : DataW.trod enc Try.prog W base sp held n 4 [v3] = some y3 := g3
    have g4 : DataW.trod enc Try.prog W base sp held n 27 (([v0, v1, v2, v3, v4, v5, v6, v7, v8].drop 4).take (Try.prog.cellsOf 27)) = some y4 := hf 4 _ rfl
    rw [c27] at g4
    have h4 : DataW.trod enc Try.prog W base sp held n 27 [v4] = some y4 := g4
    have g5 : DataW.trod enc Try.prog W base sp held n 28 (([v0, v1, v2, v3, v4, v5, v6, v7, v8].drop 5).take (Try.prog.cellsOf 28)) = some y5 := hf 5 _ rfl
    rw [c28] at g5
    have h5 : DataW.trod enc Try.prog W base sp held n 28 [v5] = some y5 := g5
    have g6 : DataW.trod enc Try.prog W base sp held n 28 (([v0, v1, v2, v3, v4, v5, v6, v7, v8].drop 6).take (Try.prog.cellsOf 28)) = some y6 := hf 6 _ rfl
    rw [c28] at g6
    have h6 : DataW.trod enc Try.prog W base sp held n 28 [v6] = some y6 := g6
    have g7 : DataW.trod enc Try.prog W base sp held n 28 (([v0, v1, v2, v3, v4, v5, v6, v7, v8].drop 7).take (Try.prog.cellsOf 28)) = some y7 := hf 7 _ rfl
    rw [c28] at g7
    have h7 : DataW.trod enc Try.prog W base sp held n 28 [v7] = some y7 := g7
    have g8 : DataW.trod enc Try.prog W base sp held n 28 (([v0, v1, v2, v3, v4, v5, v6, v7, v8].drop 8).take (Try.prog.cellsOf 28)) = some y8 := hf 8 _ rfl
    rw [c28] at g8
    have h8 : DataW.trod enc Try.prog W base sp held n 28 [v8] = some y8 := g8
    obtain ⟨s0, e0, _, z0⟩ := DataW.trod_string Try.underlying9 h0
    obtain ⟨s1, e1, _, z1⟩ := DataW.trod_string Try.underlying9 h1
    obtain ⟨s2, e2, _, z2⟩ := DataW.trod_string Try.underlying9 h2
    obtain ⟨b3, e3, _⟩ := DataW.trod_bool Try.underlying4 h3
    obtain ⟨ra, rn, rc, e4, hrn, hrd⟩ := reads_open (v := v4) h4
    obtain ⟨p5, e5, q5⟩ := ptr_open (v := v5) h5
    obtain ⟨p6, e6, q6⟩ := ptr_open (v := v6) h6
    obtain ⟨p7, e7, q7⟩ := ptr_open (v := v7) h7
    obtain ⟨p8, e8, q8⟩ := ptr_open (v := v8) h8
    have e0' : v0 = .string s0 := by injection e0
    have e1' : v1 = .string s1 := by injection e1
    have e2' : v2 = .string s2 := by injection e2
    have e3' : v3 = .bool b3 := by injection e3
    subst e0' e1' e2' e3' e4 e5 e6 e7 e8
    exact ⟨⟨s0, s1, s2, b3, ra, rn, rc, p5, p6, p7, p8⟩, rfl, hrd, hrn, q5, q6, q7, q8, z0, z1, z2⟩

theorem choose_list {α : Type} {n : Nat} {p : Nat → α → Prop} (h : ∀ i, i < n → ∃ x, p i x) : ∃ l : List α, l.length = n ∧ ∀ i x, l[i]? = some x → p i x := by
  induction n with
  | zero => exact ⟨[], rfl, fun i x hx => by simp at hx⟩
  | succ n ih =>
    obtain ⟨l, hl, hp⟩ := ih (fun i hi => h i (by omega))
    obtain ⟨x, hx⟩ := h n (by omega)
    refine ⟨l ++ [x], by simp [hl], fun i y hy => ?_⟩
    by_cases hi : i < l.length
    · rw [List.getElem?_append_left hi] at hy; exact hp i y hy
    · rw [List.getElem?_append_right (by omega)] at hy
      have hi2 : i - l.length = 0 := by
        have := (List.getElem?_eq_some_iff.1 hy).1
        simp at this
        omega
      rw [hi2] at hy
      simp at hy
      subst hy
      have : i = n := by omega
      subst this
      exact hx

theorem deps_open {ao : Option Addr} {n cap : Nat} {x : DataW H} {ps : List MemPlace} (h : DataW.Trod enc Try.prog W base sp held 22 (.slice ao n cap) x ps) :
    ∃ l, l.length = n ∧ Deps W ao l ∧ n ≤ cap ∧ cap ≤ maxLen ∧ (ao = none → cap = 0) := by
  obtain ⟨fuel, hf⟩ := h
  rcases Go.Deep.open_slice Try.underlying22 hf with ⟨hcs, _⟩ | ⟨a, len, c, m, k, D, Pl, hcs, _, hl, hm, hmm, _, hx⟩
  · simp [Value.cells] at hcs
    obtain ⟨rfl, rfl, rfl⟩ := hcs
    exact ⟨[], rfl, Deps.nil _ _, Nat.le_refl _, Nat.zero_le _, fun _ => rfl⟩
  · simp [Value.cells] at hcs
    obtain ⟨rfl, rfl, rfl⟩ := hcs
    have hnm : n ≤ m := by rw [hmm]; split <;> omega
    rw [Try.cells30] at hx
    obtain ⟨l, hll, hp⟩ := choose_list (n := n) (p := fun i d => W.cells? base (a.add (i * 9)) 9 = some d.cells ∧ DIn W d) (fun i hi => by
      obtain ⟨cs', h1, h2⟩ := hx i (by omega)
      obtain ⟨d, rfl, hd⟩ := dp_open h2
      exact ⟨d, h1, hd⟩)
    refine ⟨l, hll, ?_, hl, hm, fun h => by cases h⟩
    intro i d hd
    obtain ⟨h1, h2⟩ := hp i d hd
    have h3 := (World.cells?_some h1).2.2
    obtain ⟨b, off, spot⟩ := a
    have hspot : spot = none := by
      have hi : i < n := by rw [← hll]; exact (List.getElem?_eq_some_iff.1 hd).1
      obtain ⟨cs0, h10, h20⟩ := hx 0 (by omega)
      obtain ⟨d0, rfl, _⟩ := dp_open h20
      have h4 : W.cell? (((⟨b, off, spot⟩ : Addr).add (0 * 9)).add 0) = some (.string d0.describe) := (World.cells?_some h10).2.2 0 (by omega)
      have := World.cell?_spot h4
      simpa [Addr.add] using this
    subst hspot
    have h5 : ∀ j, j < 9 → W.cell? ⟨b, off + i * 9 + j, none⟩ = d.cells[j]? := fun j hj => by
      have := h3 j hj
      rw [add_plain, add_plain] at this
      exact this
    refine ⟨b, off, rfl, World.block_lt_of_cell? W _ (h5 0 (by omega)), ⟨h5 0 (by omega), h5 1 (by omega), h5 2 (by omega), h5 3 (by omega), h5 4 (by omega), h5 5 (by omega), h5 6 (by omega), h5 7 (by omega), h5 8 (by omega)⟩, h2⟩
end

end Go.Proofs.Qxb6616268a
