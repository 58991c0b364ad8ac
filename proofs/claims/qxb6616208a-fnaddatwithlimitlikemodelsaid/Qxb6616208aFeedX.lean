/-
  zzFeed (19) at a limit, with the check.
-/
import Derived.Test.Qxb6616208aCheckX
namespace Go.Proofs.Qxb6616208a
open Go.RowKit
set_option linter.unusedVariables false
set_option linter.unusedSimpArgs false

/-- behind st steps -/
structure FIX (w0 : World) (j : Nat) (lim : Int) (sc : Nat → Pd) (pb : Nat → Nat) (tb : Nat) (wr : World) (st : Nat) (G : List JG) (ga : Option Addr) (gc : Nat) (O : List Nat) (hd : Int) : Prop where
  ji : ∃ M seq pend, JX wr w0.heap.size j lim hd O M pb seq pend G ∧ (0 ≤ seq ∧ seq ≤ st) ∧ SO G seq
  gi : GI wr w0.heap.size ga gc (G.map JG.touch) (G.map (JG.con sc))
  ax : AX sc G O hd st
  le : hd ≤ lim
  b : Below w0.heap.size w0 wr
  t : wr.heap[tb]? = some (.cells #[.int .u64 0, .int .i64 0, .pointer none] 39)

/-- what AddAt leaves in the feed -/
structure FAX (w0 : World) (j : Nat) (lim : Int) (sc : Nat → Pd) (pb : Nat → Nat) (tb : Nat) (w : World) (st : Nat) (G : List JG) (O : List Nat) (hd : Int) (G' : List JG) (O' : List Nat) (hd' : Int) (ga : Option Addr) (gc : Nat) (res : ResX) (got : Option Addr) : Prop where
  rel : RelX sc lim G O hd st G' O' hd' res
  ji : ∃ M seq pend, JX w w0.heap.size j lim hd' O' M pb seq pend G' ∧ (0 ≤ seq ∧ seq ≤ (st : Int) + 1) ∧ SO G' seq
  gi : GI w w0.heap.size ga gc (G.map JG.touch) (G.map (JG.con sc))
  b : Below w0.heap.size w0 w
  t : w.heap[tb]? = some (.cells #[.int .u64 0, .int .i64 0, .pointer none] 39)
  m : RMsgX w pb (elsOf sc) st got res

theorem fax_of {w0 wr : World} {j : Nat} {lim : Int} {sa : Option Addr} {n pg : Nat} {l : List Pd} {sc : Nat → Pd} {pb : Nat → Nat} {tb st : Nat} {G : List JG} {O : List Nat} {hd : Int} {ga : Option Addr} {gc : Nat} (hlim : 1 ≤ lim) (hlu : lim ≤ 65536) (hB : FBase w0 sa n pg l sc pb) (h : FIX w0 j lim sc pb tb wr st G ga gc O hd) (hst : st < n) (hn : n ≤ 4096) :
    Calls Try.prog 29 (addArgs j (pb st)) wr.drew fun e w' => ∃ G' O' hd' res got, e = .returned (.pointer got) ∧ FAX w0 j lim sc pb tb w' st G O hd G' O' hd' ga gc res got := by
  obtain ⟨M, seq, pend, hJ, ⟨hs0, hs1⟩, hSO⟩ := h.ji
  have hx := hB.at hst
  obtain ⟨b, off, ea, ec, _, _, _, hE, hok, _⟩ := hB.scr st _ hx
  have hbd : Below w0.heap.size w0 wr.drew := h.b.drew
  refine (add_x sc lim w0.heap.size j M pb seq pend G O hd st wr.drew (by have := h.b.size; exact this) (by omega) hlim hlu h.le (hJ.keep fun k o e _ => e) h.ax ((hB.pbs.at_ st _ hst hx).below hbd) hok (els_bytes hE) (fun a ha => hB.good hbd (by omega)) (fun a ha W hW => (hB.pbs.at_ a _ (by omega) (hB.at (by omega))).below (hbd.trans hW)) ⟨hs0, hs1⟩ hSO).mono ?_
  rintro e w' ⟨M', seq', pend', G', O', hd', res, got, rfl, R, hJ', hs', hSO', hF, hm⟩
  obtain ⟨lg, hGW, hkt⟩ := h.gi
  refine ⟨G', O', hd', res, got, rfl, R, ⟨M', seq', pend', hJ', hs', hSO'⟩, ⟨lg, hGW.keep fun k o e hg => hF.keep e (isG_not_isJ hg), hkt⟩, hbd.trans (hF.below (by have := h.b.size; exact this)), ?_, hm⟩
  exact hF.keep h.t (by rintro (⟨c, fr, h | h | h⟩ | ⟨es, c, h⟩) <;> simp at h)

theorem FIX.keep {w0 wr w' : World} {j : Nat} {lim : Int} {sc : Nat → Pd} {pb : Nat → Nat} {tb st : Nat} {G : List JG} {O : List Nat} {hd : Int} {ga : Option Addr} {gc : Nat} (h : FIX w0 j lim sc pb tb wr st G ga gc O hd) (hk : ∀ (k : Nat) (o : Obj), wr.heap[k]? = some o → (isJ o ∨ isG o) → w'.heap[k]? = some o) (hb : Below w0.heap.size w0 w') (ht : w'.heap[tb]? = some (.cells #[.int .u64 0, .int .i64 0, .pointer none] 39)) : FIX w0 j lim sc pb tb w' st G ga gc O hd := by
  obtain ⟨M, seq, pend, hJ, hs⟩ := h.ji
  obtain ⟨lg, hGW, hkt⟩ := h.gi
  exact ⟨⟨M, seq, pend, hJ.keep fun k o e h => hk k o e (Or.inl h), hs⟩, ⟨lg, hGW.keep fun k o e h => hk k o e (Or.inr h), hkt⟩, h.ax, h.le, hb, ht⟩

theorem FIX.below {w0 wr w' : World} {j : Nat} {lim : Int} {sc : Nat → Pd} {pb : Nat → Nat} {tb st : Nat} {G : List JG} {O : List Nat} {hd : Int} {ga : Option Addr} {gc : Nat} (h : FIX w0 j lim sc pb tb wr st G ga gc O hd) (hb : Below wr.heap.size wr w') : FIX w0 j lim sc pb tb w' st G ga gc O hd :=
  h.keep (fun k o e _ => (hb.block k (Array.getElem?_eq_some_iff.1 e).1).trans e) (h.b.trans (hb.mono h.b.size)) ((hb.block _ (Array.getElem?_eq_some_iff.1 h.t).1).trans h.t)

theorem fsx_of {w0 wr wc : World} {j : Nat} {lim : Int} {sa : Option Addr} {n pg : Nat} {l : List Pd} {sc : Nat → Pd} {pb : Nat → Nat} {tb st : Nat} {G G' : List JG} {O O' : List Nat} {hd hd' : Int} {ga : Option Addr} {gc : Nat} {res : ResX} {got : Option Addr} {ea : Option Addr} (hlim : 1 ≤ lim) (hlu : lim ≤ 65536) (hB : FBase w0 sa n pg l sc pb) (hF : FAX w0 j lim sc pb tb wc st G O hd G' O' hd' ga gc res got) (hI : FIX w0 j lim sc pb tb wr st G ga gc O hd) (hst : st < n) (hn : n ≤ 4096) (hE : Els wc ea (sc st).els) (hok : (sc st).Ok) (hel : (sc st).els.length ≤ 1048576) (ec : Nat) :
    Calls Try.prog 30 #[.slice ga G.length gc, .int .i64 hd, .int .i64 lim, .agg #[.string (sc st).smsc, .int .i64 (sc st).typ, .int .u8 (sc st).fton, .int .u8 (sc st).fnpi, .string (sc st).fnum, .int .u8 (sc st).tton, .int .u8 (sc st).tnpi, .string (sc st).tnum, .slice ea (sc st).els.length ec], .int .i64 (st : Nat)] (wc.alloc (.cells #[.int .i64 0, .int .i64 0, .slice none 0 0] 83)) fun e w' => ∃ ga' gc' kind ref sa' sn so, e = .returned (stepOut ga' G'.length gc' hd' kind ref sa' sn so) ∧ FIX w0 j lim sc pb tb w' (st + 1) G' ga' gc' O' hd' ∧ RMsgX w' pb (elsOf sc) st got res ∧ ROutX w' (pnOf sc) kind ref sa' sn so res ∧ WX sc (st + 1) res ∧ w'.heap[wc.heap.size]? = some (.cells #[.int .i64 0, .int .i64 0, .slice none 0 0] 83) := by
  have hba : Below wc.heap.size wc (wc.alloc (.cells #[.int .i64 0, .int .i64 0, .slice none 0 0] 83)) := (Below.refl _ _).alloc (Nat.le_refl _) _
  obtain ⟨M0, seq0, pend0, hJ0, _⟩ := hI.ji
  obtain ⟨M, seq, pend, hJ, hs, hSO⟩ := hF.ji
  have hBw : w0.heap.size ≤ (wc.alloc (.cells #[.int .i64 0, .int .i64 0, .slice none 0 0] 83)).heap.size := by have := hF.b.size; simp; omega
  have hGa := hF.gi.below hba
  refine (step_x sc lim w0.heap.size ga gc G G' O O' hd hd' res st ea ec (wc.alloc (.cells #[.int .i64 0, .int .i64 0, .slice none 0 0] 83)) hBw (by omega) hlim hlu hI.le hGa hI.ax hJ0.toJI.dist hF.rel hel (hE.below hba) hok).mono ?_
  rintro e w' ⟨ga', gc', kind, ref, sa', sn, so, rfl, hGI, hFr, hRO⟩
  have hk : ∀ (k : Nat) (o : Obj), wc.heap[k]? = some o → ¬ isG o → w'.heap[k]? = some o := fun k o e h => hFr.keep ((hba.block k (Array.getElem?_eq_some_iff.1 e).1).trans e) h
  have hb : ∀ e ∈ (sc st).els, ∀ z ∈ e.2, 0 ≤ z ∧ z < 256 := els_bytes hE
  obtain ⟨hAX, hle⟩ := hI.ax.step hI.le hok hb hF.rel
  exact ⟨ga', gc', kind, ref, sa', sn, so, rfl, ⟨⟨M, seq, pend, hJ.keep fun k o e h => hk k o e (isJ_not_isG h), ⟨hs.1, by have := hs.2; omega⟩, hSO⟩, hGI, hAX, hle, (hF.b.trans (hba.mono hF.b.size)).trans (hFr.below hBw), hk _ _ hF.t (by rintro ⟨c, fr, h | h⟩ <;> simp at h)⟩, hF.m.keep fun k o e h => hk k o e (isJ_not_isG h), hRO, hF.rel.wx hI.ax hok hb, hFr.keep (heap_alloc_new _ _) (by rintro ⟨c, fr, h | h⟩ <;> simp at h)⟩

theorem JX.start {w0 w : World} {j : Nat} {lim : Int} {sc : Nat → Pd} {pb : Nat → Nat} {M : Nat → Prop} (h : JX w w0.heap.size j lim 0 [] M pb 0 none []) (hl : 0 ≤ lim) (hb : Below w0.heap.size w0 w) : FIX w0 j lim sc pb w.heap.size (w.alloc (.cells #[.int .u64 0, .int .i64 0, .pointer none] 39)) 0 [] none 0 [] 0 := by
  have hba : Below w.heap.size w (w.alloc (.cells #[.int .u64 0, .int .i64 0, .pointer none] 39)) := (Below.refl _ _).alloc (Nat.le_refl _) _
  refine ⟨⟨M, 0, none, h.below hba, ⟨Int.le_refl _, by omega⟩, SO.nil _⟩, ⟨[], ⟨World.ownsRow_nil _ _ _ _, rfl, fun i x d hx => by simp at hx, fun i j x y hx => by simp at hx⟩, rfl⟩, ⟨⟨by simp, by simp, by simp, by simp, by simp, by simp⟩, by simp, by simp, by simp, by simp, by simp, rfl⟩, hl, hb.trans (hba.mono hb.size), heap_alloc_new _ _⟩

set_option maxHeartbeats 4000000 in
set_option maxRecDepth 100000 in
theorem zzFeedX_any (lim : Int) (hlim : 1 ≤ lim) (hlu : lim ≤ 65536) (w0 w : World) (j : Nat) (sa : Option Addr) (n cap pg pc : Nat) (l : List Pd) (sc : Nat → Pd) (pb : Nat → Nat) (hn : n ≤ 4096) (hB : Hid (FBase w0 sa n pg l sc pb)) (hb : Hid (Below w0.heap.size w0 w)) (hJ : Hid (∃ M, JX w w0.heap.size j lim 0 [] M pb 0 none [])) :
    Calls Try.prog 19 #[.pointer (some ⟨j, 0, none⟩), .int .i64 lim, .slice sa n cap, .slice (some ⟨pg, 0, none⟩) n pc, .bool true] w fun e w' => ∃ G ga gc O hd, e = .returned (.tuple #[.slice ga G.length gc, .bool true]) ∧ FIX w0 j lim sc pb w.heap.size w' n G ga gc O hd := by
  have I0 : Hid (FIX w0 j lim sc pb w.heap.size (w.alloc (.cells #[.int .u64 0, .int .i64 0, .pointer none] 39)) 0 [] none 0 [] 0) := by
    obtain ⟨M, h⟩ := hJ.out
    exact h.start (by omega) hb.out
  go_enter Try.func19, Try.ntmps19
  go_wp2
  generalize w.alloc (.cells #[.int .u64 0, .int .i64 0, .pointer none] 39) = w1 at *
  go_loopw [13, 14, 15, 16, 17] (fun v h i _ _ wr => ∃ (st : Nat) (G : List JG) (ga : Option Addr) (gc : Nat) (O : List Nat) (z : Int), st ≤ n ∧ i = .int .i64 st ∧ h = .int .i64 z ∧ v = .slice ga G.length gc ∧ Hid (FIX w0 j lim sc pb w.heap.size wr st G ga gc O z)) (fun _ _ i _ _ _ => n - (intOf i).toNat)
  case atStart => exact ⟨0, [], none, 0, [], 0, Nat.zero_le _, rfl, rfl, rfl, I0⟩
  case round =>
    obtain ⟨st, G, ga, gc, O, z, hst, rfl, rfl, rfl, HI⟩ := hrel
    clear I0 hJ hb
    by_cases hlt : st < n
    · have hjn : (st : Int) < n := by omega
      have HAD := fax_of hlim hlu hB.out HI.out hlt hn
      have HADD : Hid (Calls Try.prog 29 #[.pointer (some ⟨j, 0, none⟩), .pointer (some ⟨pb st, 0, none⟩), .agg #[.int .u64 0, .int .i64 0, .pointer none]] wr.drew fun e w' => ∃ G' O' hd' res got, e = .returned (.pointer got) ∧ FAX w0 j lim sc pb w.heap.size w' st G O z G' O' hd' ga gc res got) := HAD
      clear HAD
      have cp : wr.cell? ⟨pg, st, none⟩ = some (.pointer (some ⟨pb st, 0, none⟩)) := hB.out.ptr HI.out.b hlt
      have t0 : wr.cell? ⟨w.heap.size, 0, none⟩ = some (.int .u64 0) := cell_of_row _ _ _ _ _ _ HI.out.t
      have t1 : wr.cell? ⟨w.heap.size, 1, none⟩ = some (.int .i64 0) := cell_of_row _ _ _ _ _ _ HI.out.t
      have t2 : wr.cell? ⟨w.heap.size, 2, none⟩ = some (.pointer none) := cell_of_row _ _ _ _ _ _ HI.out.t
      go_upto_region 7 with fail
      go_cut [16] from 18 to 53 (fun s16 wx => ∃ G' O' hd' res got, s16 = .pointer got ∧ Hid (FAX w0 j lim sc pb w.heap.size wx st G O z G' O' hd' ga gc res got))
      case first =>
        go_region_with (go_at_call 29; refine HADD.out.mono ?_; rintro e w2 ⟨G', O', hd', res, got, rfl, hFA⟩)
        all_goals
          go_wp2_with fail
          go_meet
          case rel => exact ⟨G', O', hd', res, got, rfl, hFA⟩
      case rest =>
        obtain ⟨G', O', hd', res, got, rfl, HF⟩ := hcut
        clear t0 t1 t2 cp HADD
        have hwcB' : w0.heap.size ≤ wc.heap.size := HF.out.b.size
        obtain ⟨b, off, ea, ec, esa, hbl, hz, hE, hok, hnil⟩ := (hB.out.scr.below HF.out.b) st (sc st) (hB.out.at hlt)
        subst esa
        obtain ⟨c0, c1, c2, c3, c4, c5, c6, c7, c8⟩ := hz
        have d0 : ∀ o, (wc.alloc o).cell? ⟨b, off + st * 9, none⟩ = some (.string (sc st).smsc) := fun o => (World.cell?_alloc_lt _ _ _ (by exact hbl)).trans c0
        have d1 : ∀ o, (wc.alloc o).cell? ⟨b, off + st * 9 + 1, none⟩ = some (.int .i64 (sc st).typ) := fun o => (World.cell?_alloc_lt _ _ _ (by exact hbl)).trans c1
        have d2 : ∀ o, (wc.alloc o).cell? ⟨b, off + st * 9 + 2, none⟩ = some (.int .u8 (sc st).fton) := fun o => (World.cell?_alloc_lt _ _ _ (by exact hbl)).trans c2
        have d3 : ∀ o, (wc.alloc o).cell? ⟨b, off + st * 9 + 3, none⟩ = some (.int .u8 (sc st).fnpi) := fun o => (World.cell?_alloc_lt _ _ _ (by exact hbl)).trans c3
        have d4 : ∀ o, (wc.alloc o).cell? ⟨b, off + st * 9 + 4, none⟩ = some (.string (sc st).fnum) := fun o => (World.cell?_alloc_lt _ _ _ (by exact hbl)).trans c4
        have d5 : ∀ o, (wc.alloc o).cell? ⟨b, off + st * 9 + 5, none⟩ = some (.int .u8 (sc st).tton) := fun o => (World.cell?_alloc_lt _ _ _ (by exact hbl)).trans c5
        have d6 : ∀ o, (wc.alloc o).cell? ⟨b, off + st * 9 + 6, none⟩ = some (.int .u8 (sc st).tnpi) := fun o => (World.cell?_alloc_lt _ _ _ (by exact hbl)).trans c6
        have d7 : ∀ o, (wc.alloc o).cell? ⟨b, off + st * 9 + 7, none⟩ = some (.string (sc st).tnum) := fun o => (World.cell?_alloc_lt _ _ _ (by exact hbl)).trans c7
        have d8 : ∀ o, (wc.alloc o).cell? ⟨b, off + st * 9 + 8, none⟩ = some (.slice ea (sc st).els.length ec) := fun o => (World.cell?_alloc_lt _ _ _ (by exact hbl)).trans c8
        have hsmall := hB.out.small _ (List.mem_of_getElem? (hB.out.at hlt))
        have HST : Hid (Calls Try.prog 30 #[.slice ga G.length gc, .int .i64 z, .int .i64 lim, .agg #[.string (sc st).smsc, .int .i64 (sc st).typ, .int .u8 (sc st).fton, .int .u8 (sc st).fnpi, .string (sc st).fnum, .int .u8 (sc st).tton, .int .u8 (sc st).tnpi, .string (sc st).tnum, .slice ea (sc st).els.length ec], .int .i64 (st : Nat)] (wc.alloc (.cells #[.int .i64 0, .int .i64 0, .slice none 0 0] 83)) fun e w' => ∃ ga' gc' kind ref sa' sn so, e = .returned (stepOut ga' G'.length gc' hd' kind ref sa' sn so) ∧ FIX w0 j lim sc pb w.heap.size w' (st + 1) G' ga' gc' O' hd' ∧ RMsgX w' pb (elsOf sc) st got res ∧ ROutX w' (pnOf sc) kind ref sa' sn so res ∧ WX sc (st + 1) res ∧ w'.heap[wc.heap.size]? = some (.cells #[.int .i64 0, .int .i64 0, .slice none 0 0] 83)) := fsx_of hlim hlu hB.out HF.out HI.out hlt hn hE hok hsmall.1 ec
        clear hE hok hnil hsmall c0 c1 c2 c3 c4 c5 c6 c7 c8 HF HI
        go_wp2_with fail
        refine HST.out.mono ?_
        rintro e w3 ⟨ga', gc', kind, ref, sa', sn, so, rfl, hFI, hRM, hRO, hWh, hob⟩
        have H3 : Hid (FIX w0 j lim sc pb w.heap.size w3 (st + 1) G' ga' gc' O' hd' ∧ RMsgX w3 pb (elsOf sc) st got res ∧ ROutX w3 (pnOf sc) kind ref sa' sn so res ∧ WX sc (st + 1) res ∧ w3.heap[wc.heap.size]? = some (.cells #[.int .i64 0, .int .i64 0, .slice none 0 0] 83)) := ⟨hFI, hRM, hRO, hWh, hob⟩
        have s0 : w3.cell? ⟨wc.heap.size, 0, none⟩ = some (.int .i64 0) := cell_of_row _ _ _ _ _ _ hob
        have s1 : w3.cell? ⟨wc.heap.size, 1, none⟩ = some (.int .i64 0) := cell_of_row _ _ _ _ _ _ hob
        have s2 : w3.cell? ⟨wc.heap.size, 2, none⟩ = some (.slice none 0 0) := cell_of_row _ _ _ _ _ _ hob
        have sf : ∀ k, w3.frozen? ⟨wc.heap.size, k, none⟩ = false := fun k => cell_frozen hob
        clear hFI hRM hRO hWh hob HST d0 d1 d2 d3 d4 d5 d6 d7 d8
        simp only [stepOut]
        go_wp2_with fail
        have H4 : Hid (FIX w0 j lim sc pb w.heap.size (((w3.setCell ⟨wc.heap.size, 0, none⟩ (.int .i64 kind)).setCell ⟨wc.heap.size, 1, none⟩ (.int .i64 ref)).setCell ⟨wc.heap.size, 2, none⟩ (.slice sa' sn so)) (st + 1) G' ga' gc' O' hd' ∧ RMsgX (((w3.setCell ⟨wc.heap.size, 0, none⟩ (.int .i64 kind)).setCell ⟨wc.heap.size, 1, none⟩ (.int .i64 ref)).setCell ⟨wc.heap.size, 2, none⟩ (.slice sa' sn so)) pb (elsOf sc) st got res ∧ ROutX (((w3.setCell ⟨wc.heap.size, 0, none⟩ (.int .i64 kind)).setCell ⟨wc.heap.size, 1, none⟩ (.int .i64 ref)).setCell ⟨wc.heap.size, 2, none⟩ (.slice sa' sn so)) (pnOf sc) kind ref sa' sn so res ∧ WX sc (st + 1) res) := by
          obtain ⟨hFI, hRM, hRO, hWh, hob⟩ := H3.out
          have hk : ∀ (k : Nat) (o : Obj), w3.heap[k]? = some o → (∀ c fr, o ≠ .cells c 83 fr) → (((w3.setCell ⟨wc.heap.size, 0, none⟩ (.int .i64 kind)).setCell ⟨wc.heap.size, 1, none⟩ (.int .i64 ref)).setCell ⟨wc.heap.size, 2, none⟩ (.slice sa' sn so)).heap[k]? = some o := fun k o e hne => by
            have hkb : k ≠ wc.heap.size := fun e2 => by subst e2; rw [hob] at e; cases e; exact hne _ _ rfl
            rw [Below.heap_setCell _ _ _ _ (by exact hkb), Below.heap_setCell _ _ _ _ (by exact hkb), Below.heap_setCell _ _ _ _ (by exact hkb)]
            exact e
          refine ⟨hFI.keep (fun k o e h => hk k o e ?_) ?_ (hk _ _ hFI.t (by simp)), hRM.keep (fun k o e h => hk k o e ?_), hRO.below (fun k c e => hk k _ e (by simp)), hWh⟩
          · rcases h with h | h
            · rcases h with ⟨c, fr, h | h | h⟩ | ⟨es, c, h⟩ <;> (subst h; simp)
            · obtain ⟨c, fr, h | h⟩ := h <;> (subst h; simp)
          · exact ((hFI.b.setCell (by exact hwcB') _).setCell (by exact hwcB') _).setCell (by exact hwcB') _
          · rcases h with ⟨c, fr, h | h | h⟩ | ⟨es, c, h⟩ <;> (subst h; simp)
        clear H3
        have HCK := check_x sc pb st n pg pc got kind ref sa' sn so res _ hlt hn (fun a ha => hB.out.ptr H4.out.1.b ha) H4.out.2.1 H4.out.2.2.1 H4.out.2.2.2
        refine HCK.mono ?_
        rintro e w5 ⟨rfl, hb5⟩
        have H5 : Hid (FIX w0 j lim sc pb w.heap.size w5 (st + 1) G' ga' gc' O' hd') := H4.out.1.below hb5
        clear HCK H4 hb5 s0 s1 s2 sf
        go_wp2
        go_roundw
        case rel => exact ⟨st + 1, G', ga', gc', O', hd', by omega, by go_num, rfl, rfl, H5⟩
        case measure => simp [intOf]; omega
    · go_wp2
      go_ret2
      exact ⟨G, ga, gc, O, z, rfl, (show st = n by omega) ▸ HI.out⟩

end Go.Proofs.Qxb6616208a
