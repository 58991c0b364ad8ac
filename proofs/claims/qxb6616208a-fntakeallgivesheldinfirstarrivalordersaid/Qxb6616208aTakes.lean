/-
  FnTakeAllGivesHeldInFirstArrivalOrder (7): the walk, and the row.
-/
import Derived.Test.Qxb6616208aFed
import Derived.Test.Qxb6616208aScr7
import Derived.Test.Qxb6616208aOpen
namespace Go.Proofs.Qxb6616208a
open Go.ChangeShapes Go.WideShapes Go.ChangeAt Go.RowKit
set_option linter.unusedVariables false
set_option linter.unusedSimpArgs false

set_option maxHeartbeats 4000000 in
set_option maxRecDepth 100000 in
theorem takes_walk (sa : Option Addr) (n cap : Nat) (l : List Pd) (w : World) (hl : Hid (l.length = n)) (hn : n ≤ maxLen) (hS : Hid (Scr w sa l)) :
    Calls Try.prog 7 #[.slice sa n cap] w fun e w' => e = .returned (.bool true) ∧ Below w.heap.size w w' := by
  have C16 : Hid (Calls Try.prog 24 #[.slice sa n cap] w fun e w' => AnyBool e ∧ TrueThen e (∀ x ∈ l, x.Small) ∧ w = w') := zzBytes24_any sa n cap l w hl hn hS
  have C17 : Hid (Calls Try.prog 17 #[.slice sa n cap] w fun e w' => AnyInt e ∧ w = w') := zzScriptBytes_any sa n cap l w hl hn hS
  unfold maxLen at hn
  go_enter Try.func7, Try.ntmps7
  go_wp2_with fail
  refine C16.out.mono ?_
  rintro e w' ⟨⟨r, rfl⟩, hT, rfl⟩
  cases r with
  | false =>
    go_wp2
    go_ret
    exact ⟨rfl, Below.refl _ _⟩
  | true =>
    have HSm : Hid (∀ x ∈ l, x.Small) := hT rfl
    clear hT C16
    by_cases hbig : n > 4096
    · go_wp2
      go_ret
      exact ⟨rfl, Below.refl _ _⟩
    · go_wp2_with fail
      refine C17.out.mono ?_
      rintro e w' ⟨⟨z, rfl⟩, rfl⟩
      clear C17
      by_cases hz : z > 1048576
      · go_wp2
        go_ret
        exact ⟨rfl, Below.refl _ _⟩
      · go_wp2_with fail
        refine (zzBuildAll_any sa n cap l w hl (by omega) hS HSm).mono ?_
        rintro e w2 ⟨pg, pb, rfl, hPB, hb2⟩
        have HB : Hid (FBase w2 sa n pg l (scF l) pb ∧ Below w.heap.size w w2) := ⟨⟨hS.out.below hb2, hPB, hl.out, scF_at, HSm.out⟩, hb2⟩
        clear hPB hb2
        go_wp2_with fail
        have HC := zzFeed2_any w2 (w2.alloc (.cells #[.map none, .int .i64 0, .int .i64 0, .int .i64 0, .pointer none, .pointer none] 60)) w2.heap.size sa n cap pg n l (scF l) pb (by omega) HB.out.1 ((Below.refl _ _).alloc (Nat.le_refl _) _) ⟨_, ji_fresh w2 pb 0⟩
        refine HC.mono ?_
        rintro e w3 ⟨G, ga, gc, rfl, hF⟩
        obtain ⟨M, seq, pend, hJ, hs, hSO⟩ := hF.ji
        have hGl : G.length ≤ n := hF.ai.len
        have hseq : seq ≤ 65536 := by omega
        have HTA : Hid (Calls Try.prog 22 #[.pointer (some ⟨w2.heap.size, 0, none⟩)] w3 fun e w' => ∃ ma mc, e = .returned (.slice ma G.length mc) ∧ SVs w' ma ga pg n G.length ∧ Out w' pb (elsOf (scF l)) M ma G ∧ JI w' w2.heap.size w2.heap.size 0 M pb seq pend [] ∧ Below w2.heap.size w2 w') := fed_all HB.out.1 (by omega) hJ hs hSO hF.gi hF.ai hF.b
        clear hJ hs hSO hF HC
        go_wp2_with fail
        refine HTA.out.mono ?_
        rintro e w4 ⟨ma, mc, rfl, hV, -, hJ4, hb4⟩
        have H4 : Hid (SVs w4 ma ga pg n G.length ∧ JI w4 w2.heap.size w2.heap.size 0 M pb seq pend [] ∧ Below w2.heap.size w2 w4) := ⟨hV, hJ4, hb4⟩
        clear hV hJ4 hb4 HTA
        go_wp2_with fail
        refine (zzSameList_any ma ga G.length mc gc pg n n w4 (by omega) (by omega) H4.out.1).mono ?_
        rintro e w5 ⟨rfl, hb5⟩
        have HTN : Hid (Calls Try.prog 22 #[.pointer (some ⟨w2.heap.size, 0, none⟩)] w5 fun e w' => ∃ ma mc, e = .returned (.slice ma 0 mc) ∧ Below w2.heap.size w2 w') := fed_none (H4.out.2.1.below hb5) hseq (H4.out.2.2.trans (hb5.mono H4.out.2.2.size))
        clear H4 hb5
        go_wp2_with fail
        refine HTN.out.mono ?_
        rintro e w6 ⟨ma', mc', rfl, hb6⟩
        have HF : Hid (Below w.heap.size w w6) := HB.out.2.trans (hb6.mono HB.out.2.size)
        clear HTN hb6 HB
        go_wp2
        go_ret
        exact ⟨rfl, HF⟩

theorem own : ownKnob Try.prog.godebug = none := by kernel_rfl
theorem laidOut : laidOutB Try.prog = true := by kernel_rfl

set_option maxRecDepth 100000 in
theorem takes_lifted (os : Os) (started : os.Started) (H : Type) (enc : TypeId × Value → H) :
    ReturnsInHanded {} Try.checked os 7 .any (Rows.fnTakeAllGivesHeldInFirstArrivalOrderSpec.pre6 enc Try.prog Try.f7 Rows.fnTakeAllGivesHeldInFirstArrivalOrderRow.domain false) (Rows.fnTakeAllGivesHeldInFirstArrivalOrderSpec.post enc Try.prog Try.f7 false true false false) := by
  refine returnsInHanded_of_change (C := Try.checked) own started (by kernel_rfl) Try.func7
    (ChangeSpec.witness6 (enc := enc) (C := Try.checked) false ⟨#[], #[.slice none 0 0], []⟩ 8 (by kernel_rfl) (by kernel_rfl) (by kernel_rfl) (by kernel_rfl)) ?_
  intro W base args ds gs before hval0 hW hcnd _
  have hval : ∀ (j : Nat) t v, Try.f7.params[j]? = some t → args[j]? = some v → Value.okWide Try.prog W .any base t v := hval0
  have hW' := hW
  obtain ⟨p, q, hA0, hV, rfl, hfz, hnd⟩ := hW
  have hA : DataW.TrodAll enc Try.prog W 0 (fun _ => true) true Try.f7.params.toList args.toList ds p := hA0
  rw [Try.params7] at hA hval
  obtain ⟨v0, vs0, d0, ds0, p0, q0, hargs, rfl, rfl, h0, r0⟩ := trodAll_cons hA
  obtain ⟨rfl, rfl, rfl⟩ := trodAll_nil r0
  obtain rfl : args = #[v0] := by cases args; simp_all
  obtain ⟨rfl, rfl⟩ := trodVars_none hV
  obtain ⟨a0, len0, cap0, rfl⟩ := okWide_slice Try.underlying52 (hval 0 52 v0 rfl rfl)
  have k0 := h0
  have lt0 : ∀ x ∈ p0, x.block < W.heap.size := by obtain ⟨m, hm⟩ := k0; exact DataW.trod_lt m _ _ _ hm
  obtain ⟨l, hll, hS, hlm⟩ := scr_open h0
  clear hA0 hval0
  refine (takes_walk a0 len0 cap0 l W hll hlm hS).mono fun e W' ⟨he, bel⟩ => ?_
  subst he
  exact ⟨_, rfl, _, _, _, [], _, [], hW', trodAll_mk1 (shut_bool Try.underlying4 _), (trodAll_cons_mk (Below.trod laidOut (by kernel_rfl) (of_decide_eq_true (by kernel_rfl)) k0 bel lt0) trodAll_mk0), rfl, bel.frame _, fun h => by cases h⟩

theorem takes_over : Rows.fnTakeAllGivesHeldInFirstArrivalOrderRow.holds Try.pinned (OpenSpec.ofChange Rows.fnTakeAllGivesHeldInFirstArrivalOrderSpec) :=
  OpenClaim.holds_of_wide 7 Try.f7 rfl rfl rfl rfl rfl rfl rfl ⟨rfl, rfl, rfl, rfl, rfl⟩ rfl rfl rfl rfl rfl (by kernel_rfl) Try.func7 (by kernel_rfl)
    (of_decide_eq_true (by kernel_rfl)) (by unfold Func.isWrapper; first | (rw [if_pos (by decide +kernel)]; kernel_rfl) | (rw [if_neg (by decide +kernel)]; exact ⟨rfl, rfl⟩))
    (fun os started H enc _ => takes_lifted os started H enc)

theorem takes_proved : Rows.FnTakeAllGivesHeldInFirstArrivalOrderSaid := takes_over

end Go.Proofs.Qxb6616208a
