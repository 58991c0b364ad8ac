/-
  FnTakeByReferenceSplitsHeld (8): the walk, and the row.
-/
import Derived.Test.Qxb6616208aSplit
import Derived.Test.Qxb6616208aScr8
import Derived.Test.Qxb6616208aOpen
namespace Go.Proofs.Qxb6616208a
open Go.ChangeShapes Go.WideShapes Go.ChangeAt Go.RowKit
set_option linter.unusedVariables false
set_option linter.unusedSimpArgs false

/-- what stands behind the feed -/
structure F8 (w0 w3 : World) (lim : Int) (sc : Nat → Pd) (pb : Nat → Nat) (n : Nat) (G : List JG) (ga : Option Addr) (gc : Nat) (lg : List GR) (M : Nat → Prop) (seq : Int) (pend : Option Nat) : Prop where
  ji : JI w3 w0.heap.size w0.heap.size lim M pb seq pend G
  so : SO G seq
  gw : GW w3 w0.heap.size ga gc lg (G.map (JG.con sc))
  kt : lg.map GR.kt = G.map JG.touch
  ai : AI sc G n
  b : Below w0.heap.size w0 w3

/-- the two rows read back -/
theorem take8 {w0 w3 w4 : World} {lim : Int} {sa : Option Addr} {n pg : Nat} {l : List Pd} {sc : Nat → Pd} {pb : Nat → Nat} {G : List JG} {ga wa ra : Option Addr} {gc wc rc : Nat} {lg : List GR} {M : Nat → Prop} {seq : Int} {pend : Option Nat} (hB : FBase w0 sa n pg l sc pb) (hn : n ≤ 4096) (hs : seq ≤ 65536) (h : F8 w0 w3 lim sc pb n G ga gc lg M seq pend) (ref : Int) (hw : W8 w3 w4 lg (fun x => dpR ref x.key) lg.length wa ra wc rc) :
    Calls Try.prog 26 #[.pointer (some ⟨w0.heap.size, 0, none⟩), .int .i64 ref] w4 fun e w5 => ∃ ma mc, e = .returned (.slice ma (lg.filter fun x => dpR ref x.key).length mc) ∧ SVs w5 ma wa pg n (lg.filter fun x => dpR ref x.key).length ∧
      ∀ w6, Below w5.heap.size w5 w6 → Calls Try.prog 22 #[.pointer (some ⟨w0.heap.size, 0, none⟩)] w6 fun e w7 => ∃ ma' mc', e = .returned (.slice ma' (lg.filter fun x => !dpR ref x.key).length mc') ∧ SVs w7 ma' ra pg n (lg.filter fun x => !dpR ref x.key).length ∧ Below w0.heap.size w0 w7 := by
  have hb4 : Below w0.heap.size w0 w4 := h.b.trans (hw.b.mono h.b.size)
  have hGl : G.length ≤ n := h.ai.len
  have hgw4 : GW w4 w0.heap.size ga gc lg (G.map (JG.con sc)) := h.gw.keep fun k o e _ => (hw.b.block k (Array.getElem?_eq_some_iff.1 e).1).trans e
  have hW4 := hw.want
  have hR4 := hw.rest
  rw [List.take_length] at hW4 hR4
  refine (takeRef_any w0.heap.size w0.heap.size lim M pb (elsOf sc) seq pend G ref w4 (h.ji.below hw.b) h.so hs hb4.size (tok_of hB hb4 h.ai) (by omega)).mono ?_
  rintro e w5 ⟨ma, mc, rfl, hO, hJ5, hF5⟩
  have hb5 : Below w0.heap.size w0 w5 := hb4.trans (hF5.below hb4.size)
  have hgw5 : GW w5 w0.heap.size ga gc lg (G.map (JG.con sc)) := hgw4.keep fun k o e hg => hF5.keep e (isG_not_isJ hg)
  obtain ⟨s1, s2⟩ := side hB hb5 h.ai hgw5 h.kt (dpR ref) (hW4.fr hF5) hO
  refine ⟨ma, mc, by rw [s1], by rw [s1]; exact s2, fun w6 hb6 => ?_⟩
  have hb06 : Below w0.heap.size w0 w6 := hb5.trans (hb6.mono hb5.size)
  have hgw6 : GW w6 w0.heap.size ga gc lg (G.map (JG.con sc)) := hgw5.keep fun k o e _ => (hb6.block k (Array.getElem?_eq_some_iff.1 e).1).trans e
  have hlr : (G.filter fun g => !dpR ref g.key).length ≤ 65536 := Nat.le_trans (List.length_filter_le _ _) (by omega)
  refine (takeAll_any w0.heap.size w0.heap.size lim M pb (elsOf sc) seq pend (G.filter fun g => !dpR ref g.key) w6 (hJ5.below hb6) (h.so.filter _) hs hb06.size (fun g hg => tok_of hB hb06 h.ai g (List.mem_filter.1 hg).1) hlr).mono ?_
  rintro e w7 ⟨ma', mc', rfl, hO7, hJ7, hF7⟩
  have hb7 : Below w0.heap.size w0 w7 := hb06.trans (hF7.below hb06.size)
  have hgw7 : GW w7 w0.heap.size ga gc lg (G.map (JG.con sc)) := hgw6.keep fun k o e hg => hF7.keep e (isG_not_isJ hg)
  obtain ⟨t1, t2⟩ := side hB hb7 h.ai hgw7 h.kt (fun k => !dpR ref k) (((hR4.fr hF5).below hb6).fr hF7) hO7
  exact ⟨ma', mc', by rw [t1], by rw [t1]; exact t2, hb7⟩

set_option maxHeartbeats 4000000 in
set_option maxRecDepth 100000 in
theorem refs_walk (ref : Int) (sa : Option Addr) (n cap : Nat) (l : List Pd) (w : World) (hl : Hid (l.length = n)) (hn : n ≤ maxLen) (hS : Hid (Scr w sa l)) :
    Calls Try.prog 8 #[.int .i64 ref, .slice sa n cap] w fun e w' => e = .returned (.bool true) ∧ Below w.heap.size w w' := by
  have C16 : Hid (Calls Try.prog 25 #[.int .i64 ref, .slice sa n cap] w fun e w' => AnyBool e ∧ TrueThen e (∀ x ∈ l, x.Small) ∧ w = w') := zzBytes25_any ref sa n cap l w hl hn hS
  have C17 : Hid (Calls Try.prog 17 #[.slice sa n cap] w fun e w' => AnyInt e ∧ w = w') := zzScriptBytes_any sa n cap l w hl hn hS
  unfold maxLen at hn
  go_enter Try.func8, Try.ntmps8
  go_wp2_with fail
  refine C16.out.mono ?_
  rintro e w' ⟨⟨r, rfl⟩, hT, rfl⟩
  cases r with
  | false =>
    go_wp2
    go_ret
    exact ⟨rfl, Below.refl _ _⟩
  | true =>
    have HSm : Hid (∀ x ∈ l, x.Small) := hT rfl
    clear hT C16
    by_cases hbig : n > 4096
    · go_wp2
      go_ret
      exact ⟨rfl, Below.refl _ _⟩
    · go_wp2_with fail
      refine C17.out.mono ?_
      rintro e w' ⟨⟨z, rfl⟩, rfl⟩
      clear C17
      by_cases hz : z > 1048576
      · go_wp2
        go_ret
        exact ⟨rfl, Below.refl _ _⟩
      · go_wp2_with fail
        refine (zzBuildAll_any sa n cap l w hl (by omega) hS HSm).mono ?_
        rintro e w2 ⟨pg, pb, rfl, hPB, hb2⟩
        have HB : Hid (FBase w2 sa n pg l (scF l) pb ∧ Below w.heap.size w w2) := ⟨⟨hS.out.below hb2, hPB, hl.out, scF_at, HSm.out⟩, hb2⟩
        clear hPB hb2
        go_wp2_with fail
        have HC := zzFeed2_any w2 (w2.alloc (.cells #[.map none, .int .i64 0, .int .i64 0, .int .i64 0, .pointer none, .pointer none] 60)) w2.heap.size sa n cap pg n l (scF l) pb (by omega) HB.out.1 ((Below.refl _ _).alloc (Nat.le_refl _) _) ⟨_, ji_fresh w2 pb 0⟩
        refine HC.mono ?_
        rintro e w3 ⟨G, ga, gc, rfl, hF⟩
        obtain ⟨M, seq, pend, hJ, hs, hSO⟩ := hF.ji
        obtain ⟨lg, hgw, hkt⟩ := hF.gi
        have hlg : lg.length = G.length := by have := congrArg List.length hkt; simpa using this
        have hGl : lg.length ≤ n := by rw [hlg]; exact hF.ai.len
        have hseq : seq ≤ 65536 := by omega
        have HF : Hid (F8 w2 w3 0 (scF l) pb n G ga gc lg M seq pend) := ⟨hJ, hSO, hgw, hkt, hF.ai, hF.b⟩
        have HGR : Hid (GRow w3 w2.heap.size ga gc lg) := hgw.row
        rw [← hlg]
        clear hJ hs hSO hF HC hgw hkt hlg
        obtain ⟨i76, z76, hi76, hz76, hs76, hb76, hc76⟩ := Try.g76
        have H76 : Hid (Try.prog.info? 76 = some i76 ∧ i76.zero = some z76 ∧ i76.size = 9 ∧ i76.bytes = 104 ∧ z76.cells.size = 9) := ⟨hi76, hz76, hs76, hb76, hc76⟩
        clear hi76 hz76 hs76 hb76 hc76
        go_wp2
        go_loopw [9, 10, 11] (fun v u i wr => ∃ (k : Nat) (wa ra : Option Addr) (wc rc : Nat), k ≤ lg.length ∧ i = .int .i64 k ∧ v = .slice wa ((lg.take k).filter fun x => dpR ref x.key).length wc ∧ u = .slice ra ((lg.take k).filter fun x => !dpR ref x.key).length rc ∧ Hid (W8 w3 wr lg (fun x => dpR ref x.key) k wa ra wc rc)) (fun _ _ i _ => lg.length - (intOf i).toNat)
        case atStart => exact ⟨0, none, none, 0, 0, Nat.zero_le _, rfl, rfl, rfl, ⟨Below.refl _ _, World.ownsRow_nil _ _ _ _, World.ownsRow_nil _ _ _ _, Or.inl rfl⟩⟩
        case round =>
          obtain ⟨k, wa, ra, wc, rc, hk, rfl, rfl, rfl, HW⟩ := hrel
          by_cases hlt : k < lg.length
          · obtain ⟨x, hd⟩ : ∃ x, lg[k]? = some x := ⟨_, List.getElem?_eq_getElem hlt⟩
            have hkn : (k : Int) < (lg.length : Nat) := by omega
            obtain ⟨gq, rfl, hgl, hgB, hrg⟩ := HGR.out.at hd
            have HR : Hid (wr.rangeAt gq (k * 9) x.cells) := fun jj v hv => (HW.out.b.cell (by exact hgl)).trans (hrg jj v hv)
            obtain ⟨c0, c1, c2, c3, c4, c5, c6, c7, c8⟩ := GR.c HR.out
            have HD : Hid (lg[k]? = some x) := hd
            have hl1 : ((lg.take k).filter fun x => dpR ref x.key).length ≤ k := Nat.le_trans (List.length_filter_le _ _) (List.length_take_le _ _)
            have hl2 : ((lg.take k).filter fun x => !dpR ref x.key).length ≤ k := Nat.le_trans (List.length_filter_le _ _) (List.length_take_le _ _)
            have HWa : Hid (W8 w3 (wr.alloc (.cells x.cells.toArray 76)) lg (fun x => dpR ref x.key) k wa ra wc rc) := HW.out.alloc _
            clear hrg hd HR HW
            cases hdk : (x.key.ref == ref) with
            | true =>
              have HDK : Hid (dpR ref x.key = true) := hdk
              have HO : Hid ((wr.alloc (.cells x.cells.toArray 76)).ownsRow w3.heap.size 76 9 (.slice wa ((lg.take k).filter fun x => dpR ref x.key).length wc) ((lg.take k).filter fun x => dpR ref x.key).length (flat ((lg.take k).filter fun x => dpR ref x.key))) := HWa.out.want
              generalize hEe : ((lg.take k).filter fun x => dpR ref x.key) = E at *
              go_wp2_with (refine wpList_append_own_at (P := Try.prog) _ rfl (.tmp 46) (.tmp 51) 61 rfl w3.heap.size 76 i76 z76 9 104 Try.underlying61 H76.out.1 H76.out.2.1 H76.out.2.2.1 H76.out.2.2.2.1 H76.out.2.2.2.2 (by decide) (.slice wa E.length wc) E.length (flat E) rfl (by exact HO.out) ⟨wr.heap.size, 0, none⟩ 1 1 x.cells rfl rfl (by exact cells_new wr x.cells 76) (gr_one x) (by unfold maxLen; omega) (by omega) (by exact HWa.out.b.size) ?_; intro v' w4 hown' hgrow hnil hat')
              obtain ⟨wa', wc', rfl⟩ := grow_slice hown'
              have HN : Hid (W8 w3 w4 lg (fun x => dpR ref x.key) (k + 1) wa' ra wc' rc ∧ ((lg.take (k + 1)).filter fun x => dpR ref x.key).length = E.length + 1 ∧ ((lg.take (k + 1)).filter fun x => !dpR ref x.key) = ((lg.take k).filter fun x => !dpR ref x.key)) := by
                subst hEe
                refine ⟨HWa.out.addW HD.out HDK.out hown' hgrow hat', ?_, ?_⟩
                · rw [filter_snoc HD.out, if_pos HDK.out, List.length_append]; rfl
                · rw [filter_snoc HD.out, if_neg (by simp [HDK.out]), List.append_nil]
              clear hown' hgrow hnil hat' HO HWa c0 c1 c2 c3 c4 c5 c6 c7 c8
              go_wp2
              go_roundw
              case rel => exact ⟨k + 1, wa', ra, wc', rc, by omega, by go_num, by rw [HN.out.2.1], by rw [HN.out.2.2], HN.out.1⟩
              case measure => simp [intOf]; omega
            | false =>
              have HDK : Hid (dpR ref x.key = false) := hdk
              have HO : Hid ((wr.alloc (.cells x.cells.toArray 76)).ownsRow w3.heap.size 76 9 (.slice ra ((lg.take k).filter fun x => !dpR ref x.key).length rc) ((lg.take k).filter fun x => !dpR ref x.key).length (flat ((lg.take k).filter fun x => !dpR ref x.key))) := HWa.out.rest
              generalize hEe : ((lg.take k).filter fun x => !dpR ref x.key) = E at *
              go_wp2_with (refine wpList_append_own_at (P := Try.prog) _ rfl (.tmp 53) (.tmp 58) 61 rfl w3.heap.size 76 i76 z76 9 104 Try.underlying61 H76.out.1 H76.out.2.1 H76.out.2.2.1 H76.out.2.2.2.1 H76.out.2.2.2.2 (by decide) (.slice ra E.length rc) E.length (flat E) rfl (by exact HO.out) ⟨wr.heap.size, 0, none⟩ 1 1 x.cells rfl rfl (by exact cells_new wr x.cells 76) (gr_one x) (by unfold maxLen; omega) (by omega) (by exact HWa.out.b.size) ?_; intro v' w4 hown' hgrow hnil hat')
              obtain ⟨ra', rc', rfl⟩ := grow_slice hown'
              have HN : Hid (W8 w3 w4 lg (fun x => dpR ref x.key) (k + 1) wa ra' wc rc' ∧ ((lg.take (k + 1)).filter fun x => dpR ref x.key) = ((lg.take k).filter fun x => dpR ref x.key) ∧ ((lg.take (k + 1)).filter fun x => !dpR ref x.key).length = E.length + 1) := by
                subst hEe
                refine ⟨HWa.out.addR HD.out HDK.out hown' hgrow hat', ?_, ?_⟩
                · rw [filter_snoc HD.out, if_neg (by simp [HDK.out]), List.append_nil]
                · rw [filter_snoc HD.out, if_pos (by simp [HDK.out]), List.length_append]; rfl
              clear hown' hgrow hnil hat' HO HWa c0 c1 c2 c3 c4 c5 c6 c7 c8
              go_wp2
              go_roundw
              case rel => exact ⟨k + 1, wa, ra', wc, rc', by omega, by go_num, by rw [HN.out.2.1], by rw [HN.out.2.2], HN.out.1⟩
              case measure => simp [intOf]; omega
          · obtain rfl : k = lg.length := by omega
            have HT := take8 HB.out.1 (by omega) hseq HF.out ref HW.out
            have HT' : Hid (Calls Try.prog 26 #[.pointer (some ⟨w2.heap.size, 0, none⟩), .int .i64 ref] wr fun e w5 => ∃ ma mc, e = .returned (.slice ma (lg.filter fun x => dpR ref x.key).length mc) ∧ SVs w5 ma wa pg n (lg.filter fun x => dpR ref x.key).length ∧ ∀ w6, Below w5.heap.size w5 w6 → Calls Try.prog 22 #[.pointer (some ⟨w2.heap.size, 0, none⟩)] w6 fun e w7 => ∃ ma' mc', e = .returned (.slice ma' (lg.filter fun x => !dpR ref x.key).length mc') ∧ SVs w7 ma' ra pg n (lg.filter fun x => !dpR ref x.key).length ∧ Below w2.heap.size w2 w7) := HT
            clear HT HF HGR HW
            rw [List.take_length]
            have hn1 : (lg.filter fun x => dpR ref x.key).length ≤ 65536 := Nat.le_trans (List.length_filter_le _ _) (by omega)
            have hn2 : (lg.filter fun x => !dpR ref x.key).length ≤ 65536 := Nat.le_trans (List.length_filter_le _ _) (by omega)
            generalize (lg.filter fun x => dpR ref x.key).length = N1 at *
            generalize (lg.filter fun x => !dpR ref x.key).length = N2 at *
            go_wp2_with fail
            refine HT'.out.mono ?_
            rintro e w5 ⟨ma, mc, rfl, hV5, hK5⟩
            have H5 : Hid (SVs w5 ma wa pg n N1) := hV5
            have HK5 : Hid (∀ w6, Below w5.heap.size w5 w6 → Calls Try.prog 22 #[.pointer (some ⟨w2.heap.size, 0, none⟩)] w6 fun e w7 => ∃ ma' mc', e = .returned (.slice ma' N2 mc') ∧ SVs w7 ma' ra pg n N2 ∧ Below w2.heap.size w2 w7) := hK5
            clear hV5 hK5 HT'
            go_wp2_with fail
            refine (zzSameList_any ma wa N1 mc wc pg n n w5 (by omega) (by omega) H5.out).mono ?_
            rintro e w6 ⟨rfl, hb6⟩
            go_wp2_with fail
            refine (HK5.out w6 hb6).mono ?_
            rintro e w7 ⟨ma', mc', rfl, hV7, hb7⟩
            have H7 : Hid (SVs w7 ma' ra pg n N2 ∧ Below w2.heap.size w2 w7) := ⟨hV7, hb7⟩
            clear hV7 hb7 hb6 H5 HK5
            go_wp2_with fail
            refine (zzSameList_any ma' ra N2 mc' rc pg n n w7 (by omega) (by omega) H7.out.1).mono ?_
            rintro e w8 ⟨rfl, hb8⟩
            have HFF : Hid (Below w.heap.size w w8) := HB.out.2.trans ((H7.out.2.trans (hb8.mono H7.out.2.size)).mono HB.out.2.size)
            clear hb8 H7 HB
            go_wp2
            go_ret
            exact ⟨rfl, HFF⟩

theorem own : ownKnob Try.prog.godebug = none := by kernel_rfl
theorem laidOut : laidOutB Try.prog = true := by kernel_rfl

set_option maxRecDepth 100000 in
theorem refs_lifted (os : Os) (started : os.Started) (H : Type) (enc : TypeId × Value → H) :
    ReturnsInHanded {} Try.checked os 8 .any (Rows.fnTakeByReferenceSplitsHeldSpec.pre6 enc Try.prog Try.f8 Rows.fnTakeByReferenceSplitsHeldRow.domain false) (Rows.fnTakeByReferenceSplitsHeldSpec.post enc Try.prog Try.f8 false true false false) := by
  refine returnsInHanded_of_change (C := Try.checked) own started (by kernel_rfl) Try.func8
    (ChangeSpec.witness6 (enc := enc) (C := Try.checked) false ⟨#[], #[.int .i64 0, .slice none 0 0], []⟩ 8 (by kernel_rfl) (by kernel_rfl) (by kernel_rfl) (by kernel_rfl)) ?_
  intro W base args ds gs before hval0 hW hcnd _
  have hval : ∀ (j : Nat) t v, Try.f8.params[j]? = some t → args[j]? = some v → Value.okWide Try.prog W .any base t v := hval0
  have hW' := hW
  obtain ⟨p, q, hA0, hV, rfl, hfz, hnd⟩ := hW
  have hA : DataW.TrodAll enc Try.prog W 0 (fun _ => true) true Try.f8.params.toList args.toList ds p := hA0
  rw [Try.params8] at hA hval
  obtain ⟨v0, vs0, d0, ds0, p0, q0, hargs, rfl, rfl, h0, r0⟩ := trodAll_cons hA
  obtain ⟨v1, vs1, d1, ds1, p1, q1, rfl, rfl, rfl, h1, r1⟩ := trodAll_cons r0
  obtain ⟨rfl, rfl, rfl⟩ := trodAll_nil r1
  obtain rfl : args = #[v0, v1] := by cases args; simp_all
  obtain ⟨rfl, rfl⟩ := trodVars_none hV
  obtain ⟨z0, rfl, rfl, rfl, wz⟩ := open_int Try.underlying3 (hval 0 3 v0 rfl rfl) h0
  obtain ⟨a0, len0, cap0, rfl⟩ := okWide_slice Try.underlying52 (hval 1 52 v1 rfl rfl)
  have k0 := h1
  have lt0 : ∀ x ∈ p1, x.block < W.heap.size := by obtain ⟨m, hm⟩ := k0; exact DataW.trod_lt m _ _ _ hm
  obtain ⟨l, hll, hS, hlm⟩ := scr_open h1
  clear hA0 hval0
  refine (refs_walk z0 a0 len0 cap0 l W hll hlm hS).mono fun e W' ⟨he, bel⟩ => ?_
  subst he
  exact ⟨_, rfl, _, _, _, [], _, [], hW', trodAll_mk1 (shut_bool Try.underlying4 _), (trodAll_cons_mk (shut_int Try.underlying3 wz) (trodAll_cons_mk (Below.trod laidOut (by kernel_rfl) (of_decide_eq_true (by kernel_rfl)) k0 bel lt0) trodAll_mk0)), rfl, bel.frame _, fun h => by cases h⟩

theorem refs_over : Rows.fnTakeByReferenceSplitsHeldRow.holds Try.pinned (OpenSpec.ofChange Rows.fnTakeByReferenceSplitsHeldSpec) :=
  OpenClaim.holds_of_wide 8 Try.f8 rfl rfl rfl rfl rfl rfl rfl ⟨rfl, rfl, rfl, rfl, rfl⟩ rfl rfl rfl rfl rfl (by kernel_rfl) Try.func8 (by kernel_rfl)
    (of_decide_eq_true (by kernel_rfl)) (by unfold Func.isWrapper; first | (rw [if_pos (by decide +kernel)]; kernel_rfl) | (rw [if_neg (by decide +kernel)]; exact ⟨rfl, rfl⟩))
    (fun os started H enc _ => refs_lifted os started H enc)

theorem refs_proved : Rows.FnTakeByReferenceSplitsHeldSaid := refs_over

end Go.Proofs.Qxb6616208a
