/-
  FnAddAtJoinsLikeModel (5): the walk, and the row.
-/
import Derived.Test.Qxb6616208aFeed
import Derived.Test.Qxb6616208aOpen
namespace Go.Proofs.Qxb6616208a
open Go.ChangeShapes Go.WideShapes Go.ChangeAt Go.RowKit
set_option linter.unusedVariables false
set_option linter.unusedSimpArgs false

/-- the script as a function -/
def scOf (l : List Pd) (i : Nat) : Pd := (l[i]?).getD ⟨ByteArray.empty, 0, 0, 0, ByteArray.empty, 0, 0, ByteArray.empty, []⟩

theorem scOf_at {l : List Pd} (i : Nat) (x : Pd) (h : l[i]? = some x) : scOf l i = x := by simp [scOf, h]

/-- a new joiner holds nothing -/
theorem ji_new (w : World) (pb : Nat → Nat) (lim : Int) : JI (w.alloc (.cells #[.map none, .int .i64 0, .int .i64 lim, .int .i64 0, .pointer none, .pointer none] 60)) w.heap.size w.heap.size lim (fun _ => False) pb 0 none [] := by
  have h : (w.alloc (.cells #[.map none, .int .i64 0, .int .i64 lim, .int .i64 0, .pointer none, .pointer none] 60)).heap[w.heap.size]? = some (jrow none 0 lim 0 none none) := heap_alloc_new _ _
  exact ⟨⟨⟨_, _, _, _, _, _, h, PtrIn.none _, PtrIn.none _⟩, fun m hm => hm.elim⟩, ⟨_, _, _, h⟩, Nat.le_refl _, fun m hm => hm.elim, Or.inl ⟨rfl, rfl⟩, fun g hg => (by cases hg), fun i i' g g' _ hg => (by simp at hg)⟩

set_option maxHeartbeats 4000000 in
set_option maxRecDepth 100000 in
theorem joins_walk (sa : Option Addr) (n cap : Nat) (l : List Pd) (w : World) (hl : Hid (l.length = n)) (hn : n ≤ maxLen) (hS : Hid (Scr w sa l)) :
    Calls Try.prog 5 #[.slice sa n cap] w fun e w' => e = .returned (.bool true) ∧ Below w.heap.size w w' := by
  have C16 : Hid (Calls Try.prog 16 #[.slice sa n cap] w fun e w' => AnyBool e ∧ TrueThen e (∀ x ∈ l, x.Small) ∧ w = w') := zzBytes16_any sa n cap l w hl hn hS
  have C17 : Hid (Calls Try.prog 17 #[.slice sa n cap] w fun e w' => AnyInt e ∧ w = w') := zzScriptBytes_any sa n cap l w hl hn hS
  unfold maxLen at hn
  go_enter Try.func5, Try.ntmps5
  go_wp2_with fail
  refine C16.out.mono ?_
  rintro e w' ⟨⟨r, rfl⟩, hT, rfl⟩
  cases r with
  | false =>
    go_wp2
    go_ret
    exact ⟨rfl, Below.refl _ _⟩
  | true =>
    have HSm : Hid (∀ x ∈ l, x.Small) := hT rfl
    clear hT C16
    by_cases hbig : n > 4096
    · go_wp2
      go_ret
      exact ⟨rfl, Below.refl _ _⟩
    · go_wp2_with fail
      refine C17.out.mono ?_
      rintro e w' ⟨⟨z, rfl⟩, rfl⟩
      clear C17
      by_cases hz : z > 1048576
      · go_wp2
        go_ret
        exact ⟨rfl, Below.refl _ _⟩
      · go_wp2_with fail
        refine (zzBuildAll_any sa n cap l w hl (by omega) hS HSm).mono ?_
        rintro e w2 ⟨pg, pb, rfl, hPB, hb2⟩
        have HB : Hid (FBase w2 sa n pg l (scOf l) pb ∧ Below w.heap.size w w2) := ⟨⟨hS.out.below hb2, hPB, hl.out, scOf_at, HSm.out⟩, hb2⟩
        clear hPB hb2
        go_wp2_with fail
        have HC := zzFeed_any w2 (w2.alloc (.cells #[.map none, .int .i64 0, .int .i64 0, .int .i64 0, .pointer none, .pointer none] 60)) w2.heap.size sa n cap pg n l (scOf l) pb (by omega) HB.out.1 ((Below.refl _ _).alloc (Nat.le_refl _) _) ⟨_, ji_new w2 pb 0⟩
        refine HC.mono ?_
        rintro e w3 ⟨⟨ga, m, gc, rfl⟩, hb3⟩
        have HF : Hid (Below w.heap.size w w3) := HB.out.2.trans (hb3.mono HB.out.2.size)
        clear HC hb3 HB
        go_wp2
        go_ret
        exact ⟨rfl, HF⟩

theorem own : ownKnob Try.prog.godebug = none := by kernel_rfl
theorem laidOut : laidOutB Try.prog = true := by kernel_rfl

set_option maxRecDepth 100000 in
theorem joins_lifted (os : Os) (started : os.Started) (H : Type) (enc : TypeId × Value → H) :
    ReturnsInHanded {} Try.checked os 5 .any (Rows.fnAddAtJoinsLikeModelSpec.pre6 enc Try.prog Try.f5 Rows.fnAddAtJoinsLikeModelRow.domain false) (Rows.fnAddAtJoinsLikeModelSpec.post enc Try.prog Try.f5 false true false false) := by
  refine returnsInHanded_of_change (C := Try.checked) own started (by kernel_rfl) Try.func5
    (ChangeSpec.witness6 (enc := enc) (C := Try.checked) false ⟨#[], #[.slice none 0 0], []⟩ 8 (by kernel_rfl) (by kernel_rfl) (by kernel_rfl) (by kernel_rfl)) ?_
  intro W base args ds gs before hval0 hW hcnd _
  have hval : ∀ (j : Nat) t v, Try.f5.params[j]? = some t → args[j]? = some v → Value.okWide Try.prog W .any base t v := hval0
  have hW' := hW
  obtain ⟨p, q, hA0, hV, rfl, hfz, hnd⟩ := hW
  have hA : DataW.TrodAll enc Try.prog W 0 (fun _ => true) true Try.f5.params.toList args.toList ds p := hA0
  rw [Try.params5] at hA hval
  obtain ⟨v0, vs0, d0, ds0, p0, q0, hargs, rfl, rfl, h0, r0⟩ := trodAll_cons hA
  obtain ⟨rfl, rfl, rfl⟩ := trodAll_nil r0
  obtain rfl : args = #[v0] := by cases args; simp_all
  obtain ⟨rfl, rfl⟩ := trodVars_none hV
  obtain ⟨a0, len0, cap0, rfl⟩ := okWide_slice Try.underlying52 (hval 0 52 v0 rfl rfl)
  have k0 := h0
  have lt0 : ∀ x ∈ p0, x.block < W.heap.size := by obtain ⟨m, hm⟩ := k0; exact DataW.trod_lt m _ _ _ hm
  obtain ⟨l, hll, hS, hlm⟩ := scr_open h0
  clear hA0 hval0
  refine (joins_walk a0 len0 cap0 l W hll hlm hS).mono fun e W' ⟨he, bel⟩ => ?_
  subst he
  exact ⟨_, rfl, _, _, _, [], _, [], hW', trodAll_mk1 (shut_bool Try.underlying4 _), (trodAll_cons_mk (Below.trod laidOut (by kernel_rfl) (of_decide_eq_true (by kernel_rfl)) k0 bel lt0) trodAll_mk0), rfl, bel.frame _, fun h => by cases h⟩

theorem joins_over : Rows.fnAddAtJoinsLikeModelRow.holds Try.pinned (OpenSpec.ofChange Rows.fnAddAtJoinsLikeModelSpec) :=
  OpenClaim.holds_of_wide 5 Try.f5 rfl rfl rfl rfl rfl rfl rfl ⟨rfl, rfl, rfl, rfl, rfl⟩ rfl rfl rfl rfl rfl (by kernel_rfl) Try.func5 (by kernel_rfl)
    (of_decide_eq_true (by kernel_rfl)) (by unfold Func.isWrapper; first | (rw [if_pos (by decide +kernel)]; kernel_rfl) | (rw [if_neg (by decide +kernel)]; exact ⟨rfl, rfl⟩))
    (fun os started H enc _ => joins_lifted os started H enc)

theorem joins_proved : Rows.FnAddAtJoinsLikeModelSaid := joins_over

end Go.Proofs.Qxb6616208a
