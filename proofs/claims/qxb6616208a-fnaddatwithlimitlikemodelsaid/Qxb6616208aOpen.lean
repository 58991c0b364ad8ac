/-
  The script as it comes in.
-/
import Derived.Test.Qxb6616208aScr
import Derived.ProofKit
import Derived.OpenShut
import Derived.ShutString
import Derived.ChangeOld
import Derived.Below
import Derived.SliceStrings
import Derived.Deep.Slices
namespace Go.Proofs.Qxb6616208a
open Go.ChangeShapes Go.WideShapes Go.ChangeAt Go.RowKit
set_option linter.unusedVariables false
set_option linter.unusedSimpArgs false

section
variable {H : Type} {enc : TypeId × Value → H} {W : World} {base : Nat} {sp : Nat → Bool} {held : Bool}

theorem Try.cells5 : Try.prog.cellsOf 5 = 1 := by kernel_rfl
theorem Try.cells9 : Try.prog.cellsOf 9 = 1 := by kernel_rfl
theorem Try.cells3 : Try.prog.cellsOf 3 = 1 := by kernel_rfl
theorem Try.cells22 : Try.prog.cellsOf 22 = 1 := by kernel_rfl
theorem Try.cells25 : Try.prog.cellsOf 25 = 1 := by kernel_rfl
theorem Try.cells30 : Try.prog.cellsOf 30 = 2 := by kernel_rfl
theorem Try.cells79 : Try.prog.cellsOf 79 = 9 := by kernel_rfl

theorem choose_list {α : Type} {n : Nat} {p : Nat → α → Prop} (h : ∀ i, i < n → ∃ x, p i x) : ∃ l : List α, l.length = n ∧ ∀ (i : Nat) (x : α), l[i]? = some x → p i x := by
  induction n with
  | zero => exact ⟨[], rfl, fun i x hx => by simp at hx⟩
  | succ n ih =>
    obtain ⟨l, hl, hp⟩ := ih (fun i hi => h i (by omega))
    obtain ⟨x, hx⟩ := h n (by omega)
    refine ⟨l ++ [x], by simp [hl], fun i y hy => ?_⟩
    by_cases hi : i < l.length
    · rw [List.getElem?_append_left hi] at hy; exact hp i y hy
    · rw [List.getElem?_append_right (by omega)] at hy
      have hi2 : i - l.length = 0 := by
        have := (List.getElem?_eq_some_iff.1 hy).1
        simp at this
        omega
      rw [hi2] at hy
      simp at hy
      subst hy
      have : i = n := by omega
      subst this
      exact hx

theorem u8_bound {z : Int} (h : (Lit.int .u8 z).wf = true) : 0 ≤ z ∧ z < 256 := by
  simp [Lit.wf, IntKind.min, IntKind.max, IntKind.bits, IntKind.signed] at h
  omega
theorem i64_bound {z : Int} (h : (Lit.int .i64 z).wf = true) : -9223372036854775808 ≤ z ∧ z < 9223372036854775808 := by
  simp [Lit.wf, IntKind.min, IntKind.max, IntKind.bits, IntKind.signed] at h
  omega

theorem bytes_open {fuel : Nat} {v : Value} {y : DataW H × List MemPlace} (h : DataW.trod enc Try.prog W base sp held fuel 25 [v] = some y) : ∃ a n cap d, v = .slice a n cap ∧ d.length = n ∧ n ≤ maxLen ∧ Bytes W a d ∧ (a = none → n = 0 ∧ cap = 0) := by
  rcases Go.Deep.open_slice Try.underlying25 h with ⟨hcs, _⟩ | ⟨a, len, c, m, k, D, Pl, hcs, _, hl, hm, hmm, _, hx⟩
  · injection hcs with e _
    exact ⟨none, 0, 0, [], e, rfl, Nat.zero_le _, fun i z hz => by simp at hz, fun _ => ⟨rfl, rfl⟩⟩
  · injection hcs with e _
    have hnm : len ≤ m := by rw [hmm]; split <;> omega
    rw [Try.cells5] at hx
    obtain ⟨d, hdl, hp⟩ := choose_list (n := len) (p := fun i z => W.cells? base (a.add (i * 1)) 1 = some [.int .u8 z] ∧ 0 ≤ z ∧ z < 256) (fun i hi => by
      obtain ⟨cs', h1, h2⟩ := hx i (by omega)
      obtain ⟨z, rfl, _, hw⟩ := DataW.trod_int Try.underlying5 h2
      exact ⟨z, h1, u8_bound hw⟩)
    refine ⟨some a, len, c, d, e, hdl, Nat.le_trans hl hm, fun i z hz => ?_, fun h => by cases h⟩
    obtain ⟨h1, h2⟩ := hp i z hz
    have h3 := cell_of_cells?_one h1
    obtain ⟨b, off, spot⟩ := a
    have hspot : spot = none := by
      have hi : i < len := by rw [← hdl]; exact (List.getElem?_eq_some_iff.1 hz).1
      obtain ⟨z0, hz0⟩ : ∃ z0, d[0]? = some z0 := ⟨_, List.getElem?_eq_getElem (by omega)⟩
      have h4 := cell_of_cells?_one (hp 0 z0 hz0).1
      have := World.cell?_spot h4
      simpa [Addr.add] using this
    subst hspot
    rw [add_plain] at h3
    exact ⟨b, off, rfl, World.block_lt_of_cell? W _ h3, by simpa using h3, h2⟩

set_option maxRecDepth 100000 in
theorem el_open {fuel : Nat} {cs : List Value} {y : DataW H × List MemPlace} (h : DataW.trod enc Try.prog W base sp held fuel 30 cs = some y) : ∃ id a n cap d, cs = [.int .u8 id, .slice a n cap] ∧ (0 ≤ id ∧ id < 256) ∧ d.length = n ∧ n ≤ maxLen ∧ Bytes W a d ∧ (a = none → n = 0 ∧ cap = 0) := by
  obtain ⟨xs, n, _, _, hl, hlen, hf⟩ := DataW.trod_struct Try.underlying30 h
  rw [Try.cells30] at hl
  match cs, hl, xs, hlen, hf with
  | [v0, v1], _, [y0, y1], _, hf =>
    have g0 : DataW.trod enc Try.prog W base sp held n 5 (([v0, v1].drop 0).take (Try.prog.cellsOf 5)) = some y0 := hf 0 _ rfl
    rw [Try.cells5] at g0
    have h0 : DataW.trod enc Try.prog W base sp held n 5 [v0] = some y0 := g0
    have g1 : DataW.trod enc Try.prog W base sp held n 25 (([v0, v1].drop 1).take (Try.prog.cellsOf 25)) = some y1 := hf 1 _ rfl
    rw [Try.cells25] at g1
    have h1 : DataW.trod enc Try.prog W base sp held n 25 [v1] = some y1 := g1
    obtain ⟨z, e0, _, hw⟩ := DataW.trod_int Try.underlying5 h0
    obtain ⟨a, n', cap, d, e1, k1, k2, k3, k4⟩ := bytes_open (v := v1) h1
    have e0' : v0 = .int .u8 z := by injection e0
    subst e0' e1
    exact ⟨z, a, n', cap, d, rfl, u8_bound hw, k1, k2, k3, k4⟩

theorem els_open {fuel : Nat} {v : Value} {y : DataW H × List MemPlace} (h : DataW.trod enc Try.prog W base sp held fuel 22 [v] = some y) : ∃ (es : List El) (ea : Option Addr) (ec : Nat), v = .slice ea es.length ec ∧ es.length ≤ maxLen ∧ Els W ea es ∧ (ea = none → es.length = 0 ∧ ec = 0) := by
  rcases Go.Deep.open_slice Try.underlying22 h with ⟨hcs, _⟩ | ⟨a, len, c, m, k, D, Pl, hcs, _, hl, hm, hmm, _, hx⟩
  · injection hcs with e _
    exact ⟨[], none, 0, e, Nat.zero_le _, fun i id d hd => by simp at hd, fun _ => ⟨rfl, rfl⟩⟩
  · injection hcs with e _
    have hnm : len ≤ m := by rw [hmm]; split <;> omega
    rw [Try.cells30] at hx
    obtain ⟨es, hel, hp⟩ := choose_list (n := len) (α := El) (p := fun i x => ∃ a' n' cap, W.cells? base (a.add (i * 2)) 2 = some [.int .u8 x.1, .slice a' n' cap] ∧ (0 ≤ x.1 ∧ x.1 < 256) ∧ x.2.length = n' ∧ n' ≤ maxLen ∧ Bytes W a' x.2 ∧ (a' = none → n' = 0 ∧ cap = 0)) (fun i hi => by
      obtain ⟨cs', h1, h2⟩ := hx i (by omega)
      obtain ⟨id, a', n', cap, d, rfl, k⟩ := el_open h2
      exact ⟨(id, d), a', n', cap, h1, k⟩)
    refine ⟨es, some a, c, by rw [hel]; exact e, by rw [hel]; exact Nat.le_trans hl hm, fun i id d hd => ?_, fun h => by cases h⟩
    obtain ⟨a', n', cap, h1, k1, k2, k3, k4, k5⟩ := hp i (id, d) hd
    have h3 := (World.cells?_some h1).2.2
    obtain ⟨b, off, spot⟩ := a
    have hspot : spot = none := by
      have hi : i < len := by rw [← hel]; exact (List.getElem?_eq_some_iff.1 hd).1
      obtain ⟨x0, hx0⟩ : ∃ x0, es[0]? = some x0 := ⟨_, List.getElem?_eq_getElem (by omega)⟩
      obtain ⟨a0, n0, cap0, h10, _⟩ := hp 0 x0 hx0
      have h4 : W.cell? (((⟨b, off, spot⟩ : Addr).add (0 * 2)).add 0) = some (.int .u8 x0.1) := (World.cells?_some h10).2.2 0 (by omega)
      have := World.cell?_spot h4
      simpa [Addr.add] using this
    subst hspot
    have h5 : ∀ j, j < 2 → W.cell? ⟨b, off + i * 2 + j, none⟩ = ([.int .u8 id, .slice a' n' cap] : List Value)[j]? := fun j hj => by
      have := h3 j hj
      rw [add_plain, add_plain] at this
      exact this
    exact ⟨b, off, a', n', cap, rfl, World.block_lt_of_cell? W _ (h5 0 (by omega)), h5 0 (by omega), h5 1 (by omega), k1, k2, k3, k4, k5⟩

/-- the nine cells of a ZPDU -/
def Pd.cells (x : Pd) (ea : Option Addr) (ec : Nat) : List Value := [.string x.smsc, .int .i64 x.typ, .int .u8 x.fton, .int .u8 x.fnpi, .string x.fnum, .int .u8 x.tton, .int .u8 x.tnpi, .string x.tnum, .slice ea x.els.length ec]

set_option maxRecDepth 100000 in
theorem pd_open {fuel : Nat} {cs : List Value} {y : DataW H × List MemPlace} (h : DataW.trod enc Try.prog W base sp held fuel 79 cs = some y) : ∃ (x : Pd) (ea : Option Addr) (ec : Nat), cs = x.cells ea ec ∧ Els W ea x.els ∧ x.Ok ∧ (ea = none → x.els.length = 0 ∧ ec = 0) := by
  obtain ⟨xs, n, _, _, hl, hlen, hf⟩ := DataW.trod_struct Try.underlying79 h
  rw [Try.cells79] at hl
  match cs, hl, xs, hlen, hf with
  | [v0, v1, v2, v3, v4, v5, v6, v7, v8], _, [y0, y1, y2, y3, y4, y5, y6, y7, y8], _, hf =>
    have g0 : DataW.trod enc Try.prog W base sp held n 9 (([v0, v1, v2, v3, v4, v5, v6, v7, v8].drop 0).take (Try.prog.cellsOf 9)) = some y0 := hf 0 _ rfl
    rw [Try.cells9] at g0
    have h0 : DataW.trod enc Try.prog W base sp held n 9 [v0] = some y0 := g0
    have g1 : DataW.trod enc Try.prog W base sp held n 3 (([v0, v1, v2, v3, v4, v5, v6, v7, v8].drop 1).take (Try.prog.cellsOf 3)) = some y1 := hf 1 _ rfl
    rw [Try.cells3] at g1
    have h1 : DataW.trod enc Try.prog W base sp held n 3 [v1] = some y1 := g1
    have g2 : DataW.trod enc Try.prog W base sp held n 5 (([v0, v1, v2, v3, v4, v5, v6, v7, v8].drop 2).take (Try.prog.cellsOf 5)) = some y2 := hf 2 _ rfl
    rw [Try.cells5] at g2
    have h2 : DataW.trod enc Try.prog W base sp held n 5 [v2] = some y2 := g2
    have g3 : DataW.trod enc Try.prog W base sp held n 5 (([v0, v1, v2, v3, v4, v5, v6, v7, v8].drop 3).take (Try.prog.cellsOf 5)) = some y3 := hf 3 _ rfl
    rw [Try.cells5] at g3
    have h3 : DataW.trod enc Try.prog W base sp held n 5 [v3] = some y3 := g3
    have g4 : DataW.trod enc Try.prog W base sp held n 9 (([v0, v1, v2, v3, v4, v5, v6, v7, v8].drop 4).take (Try.prog.cellsOf 9)) = some y4 := hf 4 _ rfl
    rw [Try.cells9] at g4
    have h4 : DataW.trod enc Try.prog W base sp held n 9 [v4] = some y4 := g4
    have g5 : DataW.trod enc Try.prog W base sp held n 5 (([v0, v1, v2, v3, v4, v5, v6, v7, v8].drop 5).take (Try.prog.cellsOf 5)) = some y5 := hf 5 _ rfl
    rw [Try.cells5] at g5
    have h5 : DataW.trod enc Try.prog W base sp held n 5 [v5] = some y5 := g5
    have g6 : DataW.trod enc Try.prog W base sp held n 5 (([v0, v1, v2, v3, v4, v5, v6, v7, v8].drop 6).take (Try.prog.cellsOf 5)) = some y6 := hf 6 _ rfl
    rw [Try.cells5] at g6
    have h6 : DataW.trod enc Try.prog W base sp held n 5 [v6] = some y6 := g6
    have g7 : DataW.trod enc Try.prog W base sp held n 9 (([v0, v1, v2, v3, v4, v5, v6, v7, v8].drop 7).take (Try.prog.cellsOf 9)) = some y7 := hf 7 _ rfl
    rw [Try.cells9] at g7
    have h7 : DataW.trod enc Try.prog W base sp held n 9 [v7] = some y7 := g7
    have g8 : DataW.trod enc Try.prog W base sp held n 22 (([v0, v1, v2, v3, v4, v5, v6, v7, v8].drop 8).take (Try.prog.cellsOf 22)) = some y8 := hf 8 _ rfl
    rw [Try.cells22] at g8
    have h8 : DataW.trod enc Try.prog W base sp held n 22 [v8] = some y8 := g8
    obtain ⟨s0, e0, _, z0⟩ := DataW.trod_string Try.underlying9 h0
    have f0 : v0 = .string s0 := by injection e0
    obtain ⟨s1, e1, _, z1⟩ := DataW.trod_int Try.underlying3 h1
    have f1 : v1 = .int .i64 s1 := by injection e1
    obtain ⟨s2, e2, _, z2⟩ := DataW.trod_int Try.underlying5 h2
    have f2 : v2 = .int .u8 s2 := by injection e2
    obtain ⟨s3, e3, _, z3⟩ := DataW.trod_int Try.underlying5 h3
    have f3 : v3 = .int .u8 s3 := by injection e3
    obtain ⟨s4, e4, _, z4⟩ := DataW.trod_string Try.underlying9 h4
    have f4 : v4 = .string s4 := by injection e4
    obtain ⟨s5, e5, _, z5⟩ := DataW.trod_int Try.underlying5 h5
    have f5 : v5 = .int .u8 s5 := by injection e5
    obtain ⟨s6, e6, _, z6⟩ := DataW.trod_int Try.underlying5 h6
    have f6 : v6 = .int .u8 s6 := by injection e6
    obtain ⟨s7, e7, _, z7⟩ := DataW.trod_string Try.underlying9 h7
    have f7 : v7 = .string s7 := by injection e7
    obtain ⟨es, ea, ec, f8, z8, z9, z10⟩ := els_open (v := v8) h8
    subst f0 f1 f2 f3 f4 f5 f6 f7 f8
    exact ⟨⟨s0, s1, s2, s3, s4, s5, s6, s7, es⟩, ea, ec, rfl, z9, ⟨i64_bound z1, u8_bound z2, u8_bound z3, u8_bound z5, u8_bound z6, z0, z4, z7, z8⟩, z10⟩

theorem scr_open {ao : Option Addr} {n cap : Nat} {x : DataW H} {ps : List MemPlace} (h : DataW.Trod enc Try.prog W base sp held 52 (.slice ao n cap) x ps) : ∃ l : List Pd, l.length = n ∧ Scr W ao l ∧ n ≤ maxLen := by
  obtain ⟨fuel, hf⟩ := h
  rcases Go.Deep.open_slice Try.underlying52 hf with ⟨hcs, _⟩ | ⟨a, len, c, m, k, D, Pl, hcs, _, hl, hm, hmm, _, hx⟩
  · simp [Value.cells] at hcs
    obtain ⟨rfl, rfl, rfl⟩ := hcs
    exact ⟨[], rfl, fun i x hx => by simp at hx, Nat.zero_le _⟩
  · simp [Value.cells] at hcs
    obtain ⟨rfl, rfl, rfl⟩ := hcs
    have hnm : n ≤ m := by rw [hmm]; split <;> omega
    rw [Try.cells79] at hx
    obtain ⟨l, hll, hp⟩ := choose_list (n := n) (p := fun i (d : Pd) => ∃ ea ec, W.cells? base (a.add (i * 9)) 9 = some (d.cells ea ec) ∧ Els W ea d.els ∧ d.Ok ∧ (ea = none → d.els.length = 0 ∧ ec = 0)) (fun i hi => by
      obtain ⟨cs', h1, h2⟩ := hx i (by omega)
      obtain ⟨d, ea, ec, rfl, k⟩ := pd_open h2
      exact ⟨d, ea, ec, h1, k⟩)
    refine ⟨l, hll, ?_, Nat.le_trans hl hm⟩
    intro i d hd
    obtain ⟨ea, ec, h1, k1, k2, k3⟩ := hp i d hd
    have h3 := (World.cells?_some h1).2.2
    obtain ⟨b, off, spot⟩ := a
    have hspot : spot = none := by
      have hi : i < n := by rw [← hll]; exact (List.getElem?_eq_some_iff.1 hd).1
      obtain ⟨d0, hd0⟩ : ∃ d0, l[0]? = some d0 := ⟨_, List.getElem?_eq_getElem (by omega)⟩
      obtain ⟨ea0, ec0, h10, _⟩ := hp 0 d0 hd0
      have h4 : W.cell? (((⟨b, off, spot⟩ : Addr).add (0 * 9)).add 0) = some (.string d0.smsc) := (World.cells?_some h10).2.2 0 (by omega)
      have := World.cell?_spot h4
      simpa [Addr.add] using this
    subst hspot
    have h5 : ∀ j, j < 9 → W.cell? ⟨b, off + i * 9 + j, none⟩ = (d.cells ea ec)[j]? := fun j hj => by
      have := h3 j hj
      rw [add_plain, add_plain] at this
      exact this
    exact ⟨b, off, ea, ec, rfl, World.block_lt_of_cell? W _ (h5 0 (by omega)), ⟨h5 0 (by omega), h5 1 (by omega), h5 2 (by omega), h5 3 (by omega), h5 4 (by omega), h5 5 (by omega), h5 6 (by omega), h5 7 (by omega), h5 8 (by omega)⟩, k1, k2, k3⟩
end

end Go.Proofs.Qxb6616208a
