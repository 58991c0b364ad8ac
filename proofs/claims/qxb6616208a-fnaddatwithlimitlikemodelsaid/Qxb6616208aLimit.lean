/-
  FnAddAtWithLimitLikeModel (6): the walk, and the row.
-/
import Derived.Test.Qxb6616208aFeedX
import Derived.Test.Qxb6616208aScr6
import Derived.Test.Qxb6616208aOpen
namespace Go.Proofs.Qxb6616208a
open Go.ChangeShapes Go.WideShapes Go.ChangeAt Go.RowKit
set_option linter.unusedVariables false
set_option linter.unusedSimpArgs false

/-- how many of the first k hold -/
def cntB (p : Nat → Bool) : Nat → Nat
  | 0 => 0
  | k + 1 => cntB p k + if p k then 1 else 0

theorem cntB_or (p q : Nat → Bool) (k : Nat) : cntB (fun i => p i || q i) k ≤ cntB p k + cntB q k := by
  induction k with
  | zero => simp [cntB]
  | succ k ih =>
    simp only [cntB]
    by_cases h1 : p k = true <;> by_cases h2 : q k = true <;> simp [h1, h2] <;> omega

theorem cntB_one (c : Int) (k : Nat) : cntB (fun i : Nat => decide (c = (i : Int) + 1)) k ≤ 1 ∧ (cntB (fun i : Nat => decide (c = (i : Int) + 1)) k = 1 → c ≤ (k : Int)) := by
  induction k with
  | zero => simp [cntB]
  | succ k ih =>
    simp only [cntB]
    by_cases h : c = (k : Int) + 1
    · simp only [h, decide_true, if_true]
      rw [h] at ih
      have : cntB (fun i : Nat => decide ((k : Int) + 1 = (i : Int) + 1)) k ≠ 1 := fun e => by have := ih.2 e; omega
      have := ih.1
      omega
    · simp only [h, decide_false, Bool.false_eq_true, if_false]
      exact ⟨by have := ih.1; omega, fun e => by have := ih.2 (by omega); omega⟩

theorem slotP_some (L : List (Nat × List El)) (i : Nat) : (slotP L i).isSome = L.any fun x => decide (pno x.2 = (i : Int) + 1) := by
  unfold slotP
  suffices H : ∀ (L : List (Nat × List El)) (acc : Option Nat), (L.foldl (fun acc x => if pno x.2 = (i : Int) + 1 then some x.1 else acc) acc).isSome = (acc.isSome || L.any fun x => decide (pno x.2 = (i : Int) + 1)) by
    rw [H]; rfl
  intro L
  induction L with
  | nil => intro acc; simp
  | cons x L ih =>
    intro acc
    simp only [List.foldl_cons, List.any_cons]
    rw [ih]
    by_cases h : pno x.2 = (i : Int) + 1
    · simp [h]
    · simp [h]

theorem cnt_le (L : List (Nat × List El)) (k : Nat) : cntB (fun i => (slotP L i).isSome) k ≤ L.length := by
  have e : (fun i : Nat => (slotP L i).isSome) = fun i : Nat => L.any fun x => decide (pno x.2 = (i : Int) + 1) := funext fun i => slotP_some L i
  rw [e]
  clear e
  induction L with
  | nil =>
    simp only [List.any_nil]
    induction k with
    | zero => simp [cntB]
    | succ k ih => simpa [cntB] using ih
  | cons x L ih =>
    simp only [List.any_cons, List.length_cons]
    have h1 := cntB_or (fun i : Nat => decide (pno x.2 = (i : Int) + 1)) (fun i : Nat => L.any fun x => decide (pno x.2 = (i : Int) + 1)) k
    have h2 := (cntB_one (pno x.2) k).1
    omega

theorem sumL_take_succ {G : List JG} {i : Nat} {g : JG} (h : G[i]? = some g) : sumL (G.take (i + 1)) = sumL (G.take i) + g.ix.length := by
  obtain ⟨hi, e⟩ := List.getElem?_eq_some_iff.1 h
  rw [List.take_succ_eq_append_getElem hi, e, sumL_snoc]

theorem sumL_nonneg (G : List JG) : 0 ≤ sumL G := by
  unfold sumL
  induction G with
  | nil => simp
  | cons g G ih => simp only [List.map_cons, List.sum_cons]; omega

theorem sumL_take_le (G : List JG) (i : Nat) : sumL (G.take i) ≤ sumL G := by
  have h : sumL G = sumL (G.take i) + sumL (G.drop i) := by
    have e : G = G.take i ++ G.drop i := (List.take_append_drop i G).symm
    unfold sumL
    rw [← List.sum_append, ← List.map_append, ← e]
  have := sumL_nonneg (G.drop i)
  omega

/-- a message handed out, as the count reads it -/
theorem out_cells {w : World} {pb : Nat → Nat} {els : Nat → List El} {M : Nat → Prop} {ma : Option Addr} {G : List JG} (h : Out w pb els M ma G) {i : Nat} {g : JG} (hg : G[i]? = some g) : ∃ mq q tot, ma = some ⟨mq, 0, none⟩ ∧ w.cell? ⟨mq, i, none⟩ = some (.pointer (some ⟨g.m, 0, none⟩)) ∧ w.cell? ⟨g.m, 0, none⟩ = some (.slice (some ⟨q, 0, none⟩) tot tot) ∧ (tot : Int) = g.key.tot ∧ NRow w q tot (slotP (partsL pb els g.ix)) := by
  obtain ⟨mq, q, rfl, ⟨c, h1, h2⟩, hG⟩ := h.at_ i g hg
  obtain ⟨tot, o, n, e1, e2, hN⟩ := hG.row
  exact ⟨mq, q, tot, rfl, (cell_of_row _ _ _ _ _ _ h1).trans h2, cell_of_row _ _ _ _ _ _ e2, e1, hN⟩

theorem jx_fresh (w : World) (pb : Nat → Nat) (lim : Int) : JX (w.alloc (.cells #[.map none, .int .i64 0, .int .i64 lim, .int .i64 0, .pointer none, .pointer none] 60)) w.heap.size w.heap.size lim 0 [] (fun _ => False) pb 0 none [] := by
  have h : (w.alloc (.cells #[.map none, .int .i64 0, .int .i64 lim, .int .i64 0, .pointer none, .pointer none] 60)).heap[w.heap.size]? = some (jrow none 0 lim 0 none none) := heap_alloc_new _ _
  exact ⟨ji_fresh w pb lim, ⟨cell_of_row _ _ _ _ _ _ h, ⟨cell_of_row _ _ _ _ _ _ h, cell_of_row _ _ _ _ _ _ h, fun i m hm => by simp at hm, fun i m hm => by simp at hm, List.nodup_nil⟩, fun m hm => (by cases hm), fun m hm => hm.elim⟩⟩

set_option maxHeartbeats 1000000 in
theorem newJoiner_any (lim : Int) (w : World) : Calls Try.prog 21 #[.int .i64 lim] w fun e w' => e = .returned (.pointer (some ⟨w.heap.size, 0, none⟩)) ∧ w.alloc (.cells #[.map none, .int .i64 0, .int .i64 lim, .int .i64 0, .pointer none, .pointer none] 60) = w' := by
  go_enter Try.func21, Try.ntmps21
  go_wp2
  go_ret
  exact ⟨rfl, rfl⟩

set_option maxHeartbeats 4000000 in
set_option maxRecDepth 100000 in
theorem limit_walk (lim : Int) (sa : Option Addr) (n cap : Nat) (l : List Pd) (w : World) (hl : Hid (l.length = n)) (hn : n ≤ maxLen) (hS : Hid (Scr w sa l)) :
    Calls Try.prog 6 #[.int .i64 lim, .slice sa n cap] w fun e w' => e = .returned (.bool true) ∧ Below w.heap.size w w' := by
  have C16 : Hid (Calls Try.prog 20 #[.int .i64 lim, .slice sa n cap] w fun e w' => AnyBool e ∧ TrueThen e (∀ x ∈ l, x.Small) ∧ w = w') := zzBytes20_any lim sa n cap l w hl hn hS
  have C17 : Hid (Calls Try.prog 17 #[.slice sa n cap] w fun e w' => AnyInt e ∧ w = w') := zzScriptBytes_any sa n cap l w hl hn hS
  unfold maxLen at hn
  go_enter Try.func6, Try.ntmps6
  go_wp2_with fail
  refine C16.out.mono ?_
  rintro e w' ⟨⟨r, rfl⟩, hT, rfl⟩
  cases r with
  | false =>
    go_wp2
    go_ret
    exact ⟨rfl, Below.refl _ _⟩
  | true =>
    have HSm : Hid (∀ x ∈ l, x.Small) := hT rfl
    clear hT C16
    by_cases hbig : n > 4096
    · go_wp2
      go_ret
      exact ⟨rfl, Below.refl _ _⟩
    · go_wp2_with fail
      refine C17.out.mono ?_
      rintro e w' ⟨⟨z, rfl⟩, rfl⟩
      clear C17
      by_cases hz : z > 1048576
      · go_wp2
        go_ret
        exact ⟨rfl, Below.refl _ _⟩
      · by_cases hlim : lim < 1
        · go_wp2
          go_ret
          exact ⟨rfl, Below.refl _ _⟩
        · by_cases hlu : lim > 65536
          · go_wp2
            go_ret
            exact ⟨rfl, Below.refl _ _⟩
          · have HBA := zzBuildAll_any sa n cap l w hl (by omega) hS HSm
            go_wp2_with fail
            refine HBA.mono ?_
            rintro e w2 ⟨pg, pb, rfl, hPB, hb2⟩
            have HB : Hid (FBase w2 sa n pg l (scF l) pb ∧ Below w.heap.size w w2) := ⟨⟨hS.out.below hb2, hPB, hl.out, scF_at, HSm.out⟩, hb2⟩
            clear hPB hb2 HBA
            have HNJ : Hid (Calls Try.prog 21 #[.int .i64 lim] w2 fun e w' => e = .returned (.pointer (some ⟨w2.heap.size, 0, none⟩)) ∧ w2.alloc (.cells #[.map none, .int .i64 0, .int .i64 lim, .int .i64 0, .pointer none, .pointer none] 60) = w') := newJoiner_any lim w2
            go_wp2_with fail
            refine HNJ.out.mono ?_
            rintro e w' ⟨rfl, rfl⟩
            clear HNJ
            have HC : Hid (Calls Try.prog 19 #[.pointer (some ⟨w2.heap.size, 0, none⟩), .int .i64 lim, .slice sa n cap, .slice (some ⟨pg, 0, none⟩) n n, .bool true] (w2.alloc (.cells #[.map none, .int .i64 0, .int .i64 lim, .int .i64 0, .pointer none, .pointer none] 60)) fun e w' => ∃ G ga gc O hd, e = .returned (.tuple #[.slice ga G.length gc, .bool true]) ∧ FIX w2 w2.heap.size lim (scF l) pb (w2.alloc (.cells #[.map none, .int .i64 0, .int .i64 lim, .int .i64 0, .pointer none, .pointer none] 60)).heap.size w' n G ga gc O hd) :=
              zzFeedX_any lim (by omega) (by omega) w2 (w2.alloc (.cells #[.map none, .int .i64 0, .int .i64 lim, .int .i64 0, .pointer none, .pointer none] 60)) w2.heap.size sa n cap pg n l (scF l) pb (by omega) HB.out.1 ((Below.refl _ _).alloc (Nat.le_refl _) _) ⟨_, jx_fresh w2 pb lim⟩
            go_wp2_with fail
            refine HC.out.mono ?_
            rintro e w3 ⟨G, ga, gc, O, hd, rfl, hF⟩
            obtain ⟨M, seq, pend, hJ, hs, hSO⟩ := hF.ji
            have hGl : G.length ≤ n := hF.ax.ai.len
            have hseq : seq ≤ 65536 := by omega
            have HSUM : Hid (sumL G ≤ lim) := by
              show _ ≤ _
              rw [← hF.ax.sum]
              exact hF.le
            have HSM : Hid (∀ g ∈ G, g.key.tot < 256) := hF.ax.ai.small
            have HTA : Hid (Calls Try.prog 22 #[.pointer (some ⟨w2.heap.size, 0, none⟩)] w3 fun e w' => ∃ ma mc, e = .returned (.slice ma G.length mc) ∧ SVs w' ma ga pg n G.length ∧ Out w' pb (elsOf (scF l)) M ma G ∧ JI w' w2.heap.size w2.heap.size lim M pb seq pend [] ∧ Below w2.heap.size w2 w') := fed_all HB.out.1 (by omega) hJ.toJI hs hSO hF.gi hF.ax.ai hF.b
            clear hJ hs hSO hF HC
            go_wp2_with fail
            refine HTA.out.mono ?_
            rintro e w4 ⟨ma, mc, rfl, hV, hOut, hJ4, hb4⟩
            have H4 : Hid (SVs w4 ma ga pg n G.length ∧ Out w4 pb (elsOf (scF l)) M ma G ∧ Below w2.heap.size w2 w4) := ⟨hV, hOut, hb4⟩
            clear hV hJ4 hb4 HTA hOut
            have HSLst := zzSameList_any ma ga G.length mc gc pg n n w4 (by omega) (by omega) H4.out.1
            go_wp2_with fail
            refine HSLst.mono ?_
            rintro e w5 ⟨rfl, hb5⟩
            have HOut : Hid (Out w5 pb (elsOf (scF l)) M ma G) := ⟨fun i g hg => by
              obtain ⟨mq, q, e1, ⟨c, h1, h2⟩, hG⟩ := H4.out.2.1.at_ i g hg
              obtain ⟨tot, o, nn, f1, f2, hN⟩ := hG.row
              exact ⟨mq, q, e1, ⟨c, (hb5.block _ (Array.getElem?_eq_some_iff.1 h1).1).trans h1, h2⟩, hG.inM, tot, o, nn, f1, (hb5.block _ (Array.getElem?_eq_some_iff.1 f2).1).trans f2, hN.block (hb5.block _ hN.lt)⟩⟩
            have HF : Hid (Below w.heap.size w w5) := HB.out.2.trans ((H4.out.2.2.trans (hb5.mono H4.out.2.2.size)).mono HB.out.2.size)
            clear H4 hb5 HSLst HB hl hS HSm
            go_wp2
            go_loopw [10, 11, 12] (fun v i _ wr => ∃ (k j : Nat), j ≤ G.length ∧ i = .int .i64 j ∧ v = .int .i64 k ∧ (k : Int) ≤ sumL (G.take j) ∧ Hid (w5 = wr)) (fun _ i _ _ => G.length - (intOf i).toNat)
            case atStart => exact ⟨0, 0, Nat.zero_le _, rfl, rfl, by simp [sumL], rfl⟩
            case round =>
              obtain ⟨k, j, hj, rfl, rfl, hk, HW⟩ := hrel
              obtain rfl := HW.out
              clear HW
              by_cases hlt : j < G.length
              · obtain ⟨g, hg⟩ : ∃ g, G[j]? = some g := ⟨_, List.getElem?_eq_getElem hlt⟩
                obtain ⟨mq, q, tot, rfl, cM, cS, htot, hN⟩ := out_cells HOut.out hg
                have hjn : (j : Int) < G.length := by omega
                have htl : tot ≤ 255 := by have := HSM.out g (List.mem_of_getElem? hg); omega
                have HN : Hid (NRow w5 q tot (slotP (partsL pb (elsOf (scF l)) g.ix))) := hN
                have hsu := sumL_take_succ hg
                have hle1 := sumL_take_le G (j + 1)
                have hle2 := HSUM.out
                have hkb : (k : Int) + g.ix.length ≤ 65536 := by omega
                have HC1 : Hid (∀ i, cntB (fun i => (slotP (partsL pb (elsOf (scF l)) g.ix) i).isSome) i ≤ g.ix.length) := fun i => by
                  have := cnt_le (partsL pb (elsOf (scF l)) g.ix) i
                  simpa [partsL] using this
                have HK : Hid ((k : Int) ≤ sumL (G.take j) ∧ sumL (G.take (j + 1)) = sumL (G.take j) + g.ix.length) := ⟨hk, hsu⟩
                clear hk hsu hle1 hle2 hg hN
                go_wp2
                go_loopw [10, 12] (fun v i wr => ∃ (k1 j1 : Nat), j1 ≤ tot ∧ i = .int .i64 j1 ∧ v = .int .i64 k1 ∧ k1 ≤ k + cntB (fun i => (slotP (partsL pb (elsOf (scF l)) g.ix) i).isSome) j1 ∧ Hid (w5 = wr)) (fun _ i _ => tot - (intOf i).toNat)
                case atStart => exact ⟨k, 0, Nat.zero_le _, rfl, rfl, by simp [cntB], rfl⟩
                case round =>
                  obtain ⟨k1, j1, hj1, rfl, rfl, hk1, HW⟩ := hrel
                  obtain rfl := HW.out
                  clear HW
                  have hcl := HC1.out j1
                  have hk1b : k1 ≤ 65536 := by omega
                  by_cases hlt1 : j1 < tot
                  · have hjt : (j1 : Int) < tot := by omega
                    have cN := HN.out.cell hlt1
                    cases hsl : slotP (partsL pb (elsOf (scF l)) g.ix) j1 with
                    | none =>
                      rw [hsl] at cN
                      have cN' : w5.cell? ⟨q, j1, none⟩ = some (.pointer none) := cN
                      have hk2 : k1 ≤ k + cntB (fun i => (slotP (partsL pb (elsOf (scF l)) g.ix) i).isSome) (j1 + 1) := by
                        simp only [cntB, hsl]
                        simp
                        exact hk1
                      have HK2 : Hid (k1 ≤ k + cntB (fun i => (slotP (partsL pb (elsOf (scF l)) g.ix) i).isSome) (j1 + 1)) := hk2
                      have hnn := neq32_nil
                      clear cN hsl hk1 hk2 hcl
                      go_wp2
                      go_roundw
                      case rel => exact ⟨k1, j1 + 1, by omega, by go_num, rfl, HK2.out, by first | exact rfl | exact trivial⟩
                      case measure => simp [intOf]; omega
                    | some p =>
                      rw [hsl] at cN
                      have cN' : w5.cell? ⟨q, j1, none⟩ = some (.pointer (some ⟨p, 0, none⟩)) := cN
                      have hk2 : k1 + 1 ≤ k + cntB (fun i => (slotP (partsL pb (elsOf (scF l)) g.ix) i).isSome) (j1 + 1) := by
                        simp only [cntB, hsl]
                        simp
                        omega
                      have HK2 : Hid (k1 + 1 ≤ k + cntB (fun i => (slotP (partsL pb (elsOf (scF l)) g.ix) i).isSome) (j1 + 1)) := hk2
                      clear cN hsl hk1 hk2 hcl
                      go_wp2
                      go_roundw
                      case rel => exact ⟨k1 + 1, j1 + 1, by omega, by go_num, by go_num, HK2.out, by first | exact rfl | exact trivial⟩
                      case measure => simp [intOf]; omega
                  · have hk3 : Hid ((k1 : Int) ≤ sumL (G.take (j + 1))) := by
                      show _ ≤ _
                      have h1 := HK.out.1
                      have h2 := HK.out.2
                      omega
                    clear hk1 hcl
                    go_wp2
                    go_roundw
                    case rel => exact ⟨k1, j + 1, by omega, by go_num, rfl, hk3.out, by first | exact rfl | exact trivial⟩
                    case measure => simp [intOf]; omega
              · have hkl : (k : Int) ≤ lim := by
                  have h1 := sumL_take_le G j
                  have h2 := HSUM.out
                  omega
                clear hk
                go_wp2
                go_ret
                exact ⟨by simp [hkl], HF⟩

theorem own : ownKnob Try.prog.godebug = none := by kernel_rfl
theorem laidOut : laidOutB Try.prog = true := by kernel_rfl

set_option maxRecDepth 100000 in
theorem limit_lifted (os : Os) (started : os.Started) (H : Type) (enc : TypeId × Value → H) :
    ReturnsInHanded {} Try.checked os 6 .any (Rows.fnAddAtWithLimitLikeModelSpec.pre6 enc Try.prog Try.f6 Rows.fnAddAtWithLimitLikeModelRow.domain false) (Rows.fnAddAtWithLimitLikeModelSpec.post enc Try.prog Try.f6 false true false false) := by
  refine returnsInHanded_of_change (C := Try.checked) own started (by kernel_rfl) Try.func6
    (ChangeSpec.witness6 (enc := enc) (C := Try.checked) false ⟨#[], #[.int .i64 0, .slice none 0 0], []⟩ 8 (by kernel_rfl) (by kernel_rfl) (by kernel_rfl) (by kernel_rfl)) ?_
  intro W base args ds gs before hval0 hW hcnd _
  have hval : ∀ (j : Nat) t v, Try.f6.params[j]? = some t → args[j]? = some v → Value.okWide Try.prog W .any base t v := hval0
  have hW' := hW
  obtain ⟨p, q, hA0, hV, rfl, hfz, hnd⟩ := hW
  have hA : DataW.TrodAll enc Try.prog W 0 (fun _ => true) true Try.f6.params.toList args.toList ds p := hA0
  rw [Try.params6] at hA hval
  obtain ⟨v0, vs0, d0, ds0, p0, q0, hargs, rfl, rfl, h0, r0⟩ := trodAll_cons hA
  obtain ⟨v1, vs1, d1, ds1, p1, q1, rfl, rfl, rfl, h1, r1⟩ := trodAll_cons r0
  obtain ⟨rfl, rfl, rfl⟩ := trodAll_nil r1
  obtain rfl : args = #[v0, v1] := by cases args; simp_all
  obtain ⟨rfl, rfl⟩ := trodVars_none hV
  obtain ⟨z0, rfl, rfl, rfl, wz⟩ := open_int Try.underlying3 (hval 0 3 v0 rfl rfl) h0
  obtain ⟨a0, len0, cap0, rfl⟩ := okWide_slice Try.underlying52 (hval 1 52 v1 rfl rfl)
  have k0 := h1
  have lt0 : ∀ x ∈ p1, x.block < W.heap.size := by obtain ⟨m, hm⟩ := k0; exact DataW.trod_lt m _ _ _ hm
  obtain ⟨l, hll, hS, hlm⟩ := scr_open h1
  clear hA0 hval0
  refine (limit_walk z0 a0 len0 cap0 l W hll hlm hS).mono fun e W' ⟨he, bel⟩ => ?_
  subst he
  exact ⟨_, rfl, _, _, _, [], _, [], hW', trodAll_mk1 (shut_bool Try.underlying4 _), (trodAll_cons_mk (shut_int Try.underlying3 wz) (trodAll_cons_mk (Below.trod laidOut (by kernel_rfl) (of_decide_eq_true (by kernel_rfl)) k0 bel lt0) trodAll_mk0)), rfl, bel.frame _, fun h => by cases h⟩

theorem limit_over : Rows.fnAddAtWithLimitLikeModelRow.holds Try.pinned (OpenSpec.ofChange Rows.fnAddAtWithLimitLikeModelSpec) :=
  OpenClaim.holds_of_wide 6 Try.f6 rfl rfl rfl rfl rfl rfl rfl ⟨rfl, rfl, rfl, rfl, rfl⟩ rfl rfl rfl rfl rfl (by kernel_rfl) Try.func6 (by kernel_rfl)
    (of_decide_eq_true (by kernel_rfl)) (by unfold Func.isWrapper; first | (rw [if_pos (by decide +kernel)]; kernel_rfl) | (rw [if_neg (by decide +kernel)]; exact ⟨rfl, rfl⟩))
    (fun os started H enc _ => limit_lifted os started H enc)

theorem limit_proved : Rows.FnAddAtWithLimitLikeModelSaid := limit_over

end Go.Proofs.Qxb6616208a
