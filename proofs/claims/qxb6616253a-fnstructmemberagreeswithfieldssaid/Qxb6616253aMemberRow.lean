/-
  The proof of 'Rows.FnStructMemberAgreesWithFieldsSaid'.
-/
import Derived.Test.Qxb6616253aMember
import Derived.ProofKit
import Derived.OpenShut
import Derived.ShutString
import Derived.ChangeOld
import Derived.Below
namespace Go.Proofs.Qxb6616253a
open Go.ChangeShapes Go.WideShapes Go.ChangeAt Go.RowKit
open Go.ChangeMaps (open_string shut_string)
set_option linter.unusedVariables false

theorem own : ownKnob Try.prog.godebug = none := by kernel_rfl
theorem laidOut : laidOutB Try.prog = true := by kernel_rfl

set_option maxHeartbeats 400000 in
set_option maxRecDepth 100000 in
/-- the early ways out -/
theorem member_early (ao : Option Addr) (n cap : Nat) (ss : List ByteArray) (p : ByteArray) (w : World) (hn : n ≤ maxLen) (hs : Hid (Strs w ao n ss)) (hx : ¬ (n ≤ 4096 ∧ p.size ≤ 1048576)) (hpm : p.size ≤ maxLen) :
    Calls Try.prog 3 #[.slice ao n cap, .string p] w fun e w' => e = .returned (.bool true) ∧ Below w.heap.size w w' := by
  have hn' : n ≤ 9223372036854775807 := by unfold maxLen at hn; omega
  have hp' : p.size ≤ 9223372036854775807 := by unfold maxLen at hpm; omega
  have hc : Hid (Calls Try.prog 5 #[.slice ao n cap, .string p] w fun e w' => AnyBool e ∧ w = w') := zzBytes_any ao n cap ss p w hn hs
  clear hpm hn
  by_cases c0 : p.size ≤ 1048576
  · have c1 : ¬ n ≤ 4096 := fun h => hx ⟨h, c0⟩
    clear hx
    go_enter Try.func3, Try.ntmps3
    go_wp2_with fail
    refine hc.out.mono ?_
    rintro e w' ⟨⟨r, rfl⟩, rfl⟩
    cases r
    all_goals
      go_wp2
      go_ret
      exact ⟨rfl, Below.refl _ _⟩
  · clear hx
    go_enter Try.func3, Try.ntmps3
    go_wp2_with fail
    refine hc.out.mono ?_
    rintro e w' ⟨⟨r, rfl⟩, rfl⟩
    cases r
    all_goals
      go_wp2
      go_ret
      exact ⟨rfl, Below.refl _ _⟩

theorem member_walk (ao : Option Addr) (n cap : Nat) (ss : List ByteArray) (p : ByteArray) (w : World) (hn : n ≤ maxLen) (hnil : ao = none → n = 0 ∧ cap = 0) (hs : Strs w ao n ss) (hpm : p.size ≤ maxLen) :
    Calls Try.prog 3 #[.slice ao n cap, .string p] w fun e w' => e = .returned (.bool true) ∧ Below w.heap.size w w' := by
  by_cases hx : n ≤ 4096 ∧ p.size ≤ 1048576
  · exact member_main ao n cap ss p w hx.1 hx.2 hnil hs
  · exact member_early ao n cap ss p w hn hs hx hpm

/-- a slice of strings that came in -/
theorem strs_open {H : Type} {enc : TypeId × Value → H} {W : World} {base : Nat} {sp : Nat → Bool} {held : Bool} {ao : Option Addr} {n cap : Nat} {x : DataW H} {ps : List MemPlace} (h : DataW.Trod enc Try.prog W base sp held 22 (.slice ao n cap) x ps) :
    ∃ ss, Strs W ao n ss ∧ n ≤ maxLen ∧ (ao = none → n = 0 ∧ cap = 0) := by
  obtain ⟨fuel, hf⟩ := h
  rcases open_strings Try.underlying22 Try.underlying9 (by kernel_rfl) hf with ⟨hcs, _⟩ | ⟨a, l, c, ss, hcs, _, hl, hm, hz, _, hcell, hws⟩
  · simp [Value.cells] at hcs
    obtain ⟨rfl, rfl, rfl⟩ := hcs
    exact ⟨[], fun i hi => by omega, Nat.zero_le _, fun _ => ⟨rfl, rfl⟩⟩
  · simp [Value.cells] at hcs
    obtain ⟨rfl, rfl, rfl⟩ := hcs
    have hlen : n ≤ ss.length := by rw [hz]; split <;> omega
    refine ⟨ss, fun i hi => ?_, Nat.le_trans hl hm, fun h => by cases h⟩
    have hc := hcell i (by omega)
    obtain ⟨b, off, spot⟩ := a
    have hspot : spot = none := by simpa [Addr.add] using World.cell?_spot (hcell 0 (by omega))
    subst hspot
    rw [add_plain] at hc
    refine ⟨b, off, rfl, World.block_lt_of_cell? W _ hc, hc, hws _ ?_⟩
    rw [List.getD_eq_getElem?_getD, List.getElem?_eq_getElem (by omega)]
    exact List.getElem_mem _

set_option maxRecDepth 100000 in
theorem member_lifted (os : Os) (started : os.Started) (H : Type) (enc : TypeId × Value → H) :
    ReturnsInHanded {} Try.checked os 3 .any (Rows.fnStructMemberAgreesWithFieldsSpec.pre6 enc Try.prog Try.f3 Rows.fnStructMemberAgreesWithFieldsRow.domain false) (Rows.fnStructMemberAgreesWithFieldsSpec.post enc Try.prog Try.f3 false true false false) := by
  refine returnsInHanded_of_change (C := Try.checked) own started (by kernel_rfl) Try.func3
    (ChangeSpec.witness6 (enc := enc) (C := Try.checked) false ⟨#[], #[.slice none 0 0, .string ⟨#[]⟩], []⟩ 8 (by kernel_rfl) (by kernel_rfl) (by kernel_rfl) (by kernel_rfl)) ?_
  intro W base args ds gs before hval0 hW hcnd _
  have hval : ∀ (j : Nat) t v, Try.f3.params[j]? = some t → args[j]? = some v → Value.okWide Try.prog W .any base t v := hval0
  have hW' := hW
  obtain ⟨p, q, hA0, hV, rfl, hfz, hnd⟩ := hW
  have hA : DataW.TrodAll enc Try.prog W 0 (fun _ => true) true Try.f3.params.toList args.toList ds p := hA0
  rw [Try.params3] at hA hval
  obtain ⟨v0, vs0, d0, ds0, p0, q0, hargs, rfl, rfl, h0, r0⟩ := trodAll_cons hA
  obtain ⟨v1, vs1, d1, ds1, p1, q1, rfl, rfl, rfl, h1, r1⟩ := trodAll_cons r0
  obtain ⟨rfl, rfl, rfl⟩ := trodAll_nil r1
  obtain rfl : args = #[v0, v1] := by cases args; simp_all
  obtain ⟨rfl, rfl⟩ := trodVars_none hV
  obtain ⟨a0, len0, cap0, rfl⟩ := okWide_slice Try.underlying22 (hval 0 22 v0 rfl rfl)
  have k0 := h0
  have lt0 : ∀ x ∈ p0, x.block < W.heap.size := by obtain ⟨m, hm⟩ := k0; exact DataW.trod_lt m _ _ _ hm
  obtain ⟨ss, hss, hlen, hnil⟩ := strs_open h0
  obtain ⟨s, rfl, rfl, rfl, hsz⟩ := open_string Try.underlying9 (hval 1 9 v1 rfl rfl) h1
  clear hA0 hval0
  refine (member_walk a0 len0 cap0 ss s W hlen hnil hss hsz).mono fun e W' ⟨he, bel⟩ => ?_
  subst he
  exact ⟨_, rfl, _, _, _, [], _, [], hW', trodAll_mk1 (shut_bool Try.underlying4 _), (trodAll_cons_mk (Below.trod laidOut (by kernel_rfl) (of_decide_eq_true (by kernel_rfl)) k0 bel lt0) (trodAll_cons_mk (shut_string Try.underlying9 hsz) trodAll_mk0)), rfl, bel.frame _, fun h => by cases h⟩

theorem member_over : Rows.fnStructMemberAgreesWithFieldsRow.holds Try.pinned (OpenSpec.ofChange Rows.fnStructMemberAgreesWithFieldsSpec) :=
  OpenClaim.holds_of_wide 3 Try.f3 rfl rfl rfl rfl rfl rfl rfl ⟨rfl, rfl, rfl, rfl, rfl⟩ rfl rfl rfl rfl rfl (by kernel_rfl) Try.func3 (by kernel_rfl)
    (of_decide_eq_true (by kernel_rfl)) (by unfold Func.isWrapper; first | (rw [if_pos (by decide +kernel)]; kernel_rfl) | (rw [if_neg (by decide +kernel)]; exact ⟨rfl, rfl⟩))
    (fun os started H enc _ => member_lifted os started H enc)

theorem member_proved : Rows.FnStructMemberAgreesWithFieldsSaid := member_over

end Go.Proofs.Qxb6616253a
