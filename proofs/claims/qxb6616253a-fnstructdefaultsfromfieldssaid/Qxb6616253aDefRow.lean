/-
  The proof of 'Rows.FnStructDefaultsFromFieldsSaid'.
-/
import Derived.Test.Qxb6616253aDefaults
import Derived.Deep.Slices
import Derived.ProofKit
import Derived.OpenShut
import Derived.ShutString
import Derived.ChangeOld
import Derived.Below
namespace Go.Proofs.Qxb6616253a
open Go.ChangeShapes Go.WideShapes Go.ChangeAt Go.RowKit Go.Deep
open Go.ChangeMaps (open_string shut_string)
set_option linter.unusedVariables false

theorem ownD : ownKnob Try.prog.godebug = none := by kernel_rfl
theorem laidOutD : laidOutB Try.prog = true := by kernel_rfl

set_option maxHeartbeats 400000 in
set_option maxRecDepth 100000 in
/-- the early ways out -/
theorem defaults_early (ao : Option Addr) (n cap : Nat) (ss : List ByteArray) (am : Option Addr) (nm capm : Nat) (w : World) (hn : n ≤ maxLen) (hnm : nm ≤ maxLen) (hs : Hid (Strs w ao n ss)) (hx : ¬ (n ≤ 4096 ∧ nm ≤ 65536)) :
    Calls Try.prog 4 #[.slice ao n cap, .slice am nm capm] w fun e w' => e = .returned (.bool true) ∧ Below w.heap.size w w' := by
  have hn' : n ≤ 9223372036854775807 := by unfold maxLen at hn; omega
  have hp' : nm ≤ 9223372036854775807 := by unfold maxLen at hnm; omega
  have hc : Hid (Calls Try.prog 12 #[.slice ao n cap, .slice am nm capm] w fun e w' => AnyBool e ∧ w = w') := zzBytes12_any ao n cap ss am nm capm w hn hnm hs
  clear hn hnm
  by_cases c0 : n ≤ 4096
  · have c1 : ¬ nm ≤ 65536 := fun h => hx ⟨c0, h⟩
    clear hx
    go_enter Try.func4, Try.ntmps4
    go_wp2_with fail
    refine hc.out.mono ?_
    rintro e w' ⟨⟨r, rfl⟩, rfl⟩
    cases r
    all_goals
      go_wp2
      go_ret
      exact ⟨rfl, Below.refl _ _⟩
  · clear hx
    go_enter Try.func4, Try.ntmps4
    go_wp2_with fail
    refine hc.out.mono ?_
    rintro e w' ⟨⟨r, rfl⟩, rfl⟩
    cases r
    all_goals
      go_wp2
      go_ret
      exact ⟨rfl, Below.refl _ _⟩

theorem defaults_walk (ao : Option Addr) (n cap : Nat) (ss : List ByteArray) (am : Option Addr) (nm capm : Nat) (bs : Nat → Bool) (w : World) (hn : n ≤ maxLen) (hnm : nm ≤ maxLen) (hnil : ao = none → n = 0 ∧ cap = 0) (hnilm : am = none → nm = 0 ∧ capm = 0) (hs : Strs w ao n ss) (hm : Bools w am nm bs) :
    Calls Try.prog 4 #[.slice ao n cap, .slice am nm capm] w fun e w' => e = .returned (.bool true) ∧ Below w.heap.size w w' := by
  by_cases hx : n ≤ 4096 ∧ nm ≤ 65536
  · exact defaults_main ao n cap ss am nm capm bs w hx.1 hx.2 hnil hnilm hs hm
  · exact defaults_early ao n cap ss am nm capm w hn hnm hs hx

/-- a slice of strings that came in -/
theorem strs_openD {H : Type} {enc : TypeId × Value → H} {W : World} {base : Nat} {sp : Nat → Bool} {held : Bool} {ao : Option Addr} {n cap : Nat} {x : DataW H} {ps : List MemPlace} (h : DataW.Trod enc Try.prog W base sp held 22 (.slice ao n cap) x ps) :
    ∃ ss, Strs W ao n ss ∧ n ≤ maxLen ∧ (ao = none → n = 0 ∧ cap = 0) := by
  obtain ⟨fuel, hf⟩ := h
  rcases open_strings Try.underlying22 Try.underlying9 (by kernel_rfl) hf with ⟨hcs, _⟩ | ⟨a, l, c, ss, hcs, _, hl, hm, hz, _, hcell, hws⟩
  · simp [Value.cells] at hcs
    obtain ⟨rfl, rfl, rfl⟩ := hcs
    exact ⟨[], fun i hi => by omega, Nat.zero_le _, fun _ => ⟨rfl, rfl⟩⟩
  · simp [Value.cells] at hcs
    obtain ⟨rfl, rfl, rfl⟩ := hcs
    have hlen : n ≤ ss.length := by rw [hz]; split <;> omega
    refine ⟨ss, fun i hi => ?_, Nat.le_trans hl hm, fun h => by cases h⟩
    have hc := hcell i (by omega)
    obtain ⟨b, off, spot⟩ := a
    have hspot : spot = none := by simpa [Addr.add] using World.cell?_spot (hcell 0 (by omega))
    subst hspot
    rw [add_plain] at hc
    refine ⟨b, off, rfl, World.block_lt_of_cell? W _ hc, hc, hws _ ?_⟩
    rw [List.getD_eq_getElem?_getD, List.getElem?_eq_getElem (by omega)]
    exact List.getElem_mem _

/-- the bool of a value -/
def boolOf : Value → Bool
  | .bool b => b
  | _ => false

/-- a slice of bools that came in -/
theorem bools_openD {H : Type} {enc : TypeId × Value → H} {W : World} {base : Nat} {sp : Nat → Bool} {held : Bool} {ao : Option Addr} {n cap : Nat} {x : DataW H} {ps : List MemPlace} (h : DataW.Trod enc Try.prog W base sp held 34 (.slice ao n cap) x ps) :
    ∃ bs, Bools W ao n bs ∧ n ≤ maxLen ∧ (ao = none → n = 0 ∧ cap = 0) := by
  obtain ⟨fuel, hf⟩ := h
  rcases open_slice1 Try.underlying34 (by kernel_rfl) hf with ⟨hcs, _⟩ | ⟨a, l, c, m, n', V, D, Pl, hcs, _, hl, hm, hz, _, hcell⟩
  · simp [Value.cells] at hcs
    obtain ⟨rfl, rfl, rfl⟩ := hcs
    exact ⟨fun _ => false, fun i hi => by omega, Nat.zero_le _, fun _ => ⟨rfl, rfl⟩⟩
  · simp [Value.cells] at hcs
    obtain ⟨rfl, rfl, rfl⟩ := hcs
    have hlen : n ≤ m := by rw [hz]; split <;> omega
    refine ⟨fun i => boolOf (V i), fun i hi => ?_, Nat.le_trans hl hm, fun h => by cases h⟩
    obtain ⟨hc, ht⟩ := hcell i (by omega)
    obtain ⟨b, off, spot⟩ := a
    have hspot : spot = none := by simpa [Addr.add] using World.cell?_spot (hcell 0 (by omega)).1
    subst hspot
    rw [add_plain] at hc
    obtain ⟨x, hx⟩ : ∃ x, V i = .bool x := by
      obtain ⟨y, hy, _⟩ := DataW.trod_bool Try.underlying4 ht
      exact ⟨y, by simpa using hy⟩
    exact ⟨b, off, rfl, World.block_lt_of_cell? W _ hc, by simp only [hc, hx, boolOf]⟩

set_option maxRecDepth 100000 in
theorem defaults_lifted (os : Os) (started : os.Started) (H : Type) (enc : TypeId × Value → H) :
    ReturnsInHanded {} Try.checked os 4 .any (Rows.fnStructDefaultsFromFieldsSpec.pre6 enc Try.prog Try.f4 Rows.fnStructDefaultsFromFieldsRow.domain false) (Rows.fnStructDefaultsFromFieldsSpec.post enc Try.prog Try.f4 false true false false) := by
  refine returnsInHanded_of_change (C := Try.checked) ownD started (by kernel_rfl) Try.func4
    (ChangeSpec.witness6 (enc := enc) (C := Try.checked) false ⟨#[], #[.slice none 0 0, .slice none 0 0], []⟩ 8 (by kernel_rfl) (by kernel_rfl) (by kernel_rfl) (by kernel_rfl)) ?_
  intro W base args ds gs before hval0 hW hcnd _
  have hval : ∀ (j : Nat) t v, Try.f4.params[j]? = some t → args[j]? = some v → Value.okWide Try.prog W .any base t v := hval0
  have hW' := hW
  obtain ⟨p, q, hA0, hV, rfl, hfz, hnd⟩ := hW
  have hA : DataW.TrodAll enc Try.prog W 0 (fun _ => true) true Try.f4.params.toList args.toList ds p := hA0
  rw [Try.params4] at hA hval
  obtain ⟨v0, vs0, d0, ds0, p0, q0, hargs, rfl, rfl, h0, r0⟩ := trodAll_cons hA
  obtain ⟨v1, vs1, d1, ds1, p1, q1, rfl, rfl, rfl, h1, r1⟩ := trodAll_cons r0
  obtain ⟨rfl, rfl, rfl⟩ := trodAll_nil r1
  obtain rfl : args = #[v0, v1] := by cases args; simp_all
  obtain ⟨rfl, rfl⟩ := trodVars_none hV
  obtain ⟨a0, len0, cap0, rfl⟩ := okWide_slice Try.underlying22 (hval 0 22 v0 rfl rfl)
  have k0 := h0
  have lt0 : ∀ x ∈ p0, x.block < W.heap.size := by obtain ⟨m, hm⟩ := k0; exact DataW.trod_lt m _ _ _ hm
  obtain ⟨ss, hss, hlen, hnil⟩ := strs_openD h0
  obtain ⟨a1, len1, cap1, rfl⟩ := okWide_slice Try.underlying34 (hval 1 34 v1 rfl rfl)
  have k1 := h1
  have lt1 : ∀ x ∈ p1, x.block < W.heap.size := by obtain ⟨m, hm⟩ := k1; exact DataW.trod_lt m _ _ _ hm
  obtain ⟨bs, hbs, hlen1, hnil1⟩ := bools_openD h1
  clear hA0 hval0
  refine (defaults_walk a0 len0 cap0 ss a1 len1 cap1 bs W hlen hlen1 hnil hnil1 hss hbs).mono fun e W' ⟨he, bel⟩ => ?_
  subst he
  exact ⟨_, rfl, _, _, _, [], _, [], hW', trodAll_mk1 (shut_bool Try.underlying4 _), (trodAll_cons_mk (Below.trod laidOutD (by kernel_rfl) (of_decide_eq_true (by kernel_rfl)) k0 bel lt0) (trodAll_cons_mk (Below.trod laidOutD (by kernel_rfl) (of_decide_eq_true (by kernel_rfl)) k1 bel lt1) trodAll_mk0)), rfl, bel.frame _, fun h => by cases h⟩

theorem defaults_over : Rows.fnStructDefaultsFromFieldsRow.holds Try.pinned (OpenSpec.ofChange Rows.fnStructDefaultsFromFieldsSpec) :=
  OpenClaim.holds_of_wide 4 Try.f4 rfl rfl rfl rfl rfl rfl rfl ⟨rfl, rfl, rfl, rfl, rfl⟩ rfl rfl rfl rfl rfl (by kernel_rfl) Try.func4 (by kernel_rfl)
    (of_decide_eq_true (by kernel_rfl)) (by unfold Func.isWrapper; first | (rw [if_pos (by decide +kernel)]; kernel_rfl) | (rw [if_neg (by decide +kernel)]; exact ⟨rfl, rfl⟩))
    (fun os started H enc _ => defaults_lifted os started H enc)

theorem defaults_proved : Rows.FnStructDefaultsFromFieldsSaid := defaults_over

end Go.Proofs.Qxb6616253a
