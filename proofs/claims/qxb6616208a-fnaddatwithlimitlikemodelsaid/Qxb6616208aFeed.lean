/-
  zzFeed (19) at limit 0, with the check.
-/
import Derived.Test.Qxb6616208aFeedA
import Derived.Test.Qxb6616208aStep
import Derived.Test.Qxb6616208aAdd
import Derived.Test.Qxb6616208aAll
namespace Go.Proofs.Qxb6616208a
open Go.RowKit
set_option linter.unusedVariables false
set_option linter.unusedSimpArgs false

/-- what the feed stands on: the script, and the PDUs built of it -/
structure FBase (w0 : World) (sa : Option Addr) (n pg : Nat) (l : List Pd) (sc : Nat → Pd) (pb : Nat → Nat) : Prop where
  scr : Scr w0 sa l
  pbs : PB w0 pg n l pb n
  len : l.length = n
  sc : ∀ (i : Nat) (x : Pd), l[i]? = some x → sc i = x
  small : ∀ x ∈ l, x.Small

theorem FBase.at {w0 : World} {sa : Option Addr} {n pg : Nat} {l : List Pd} {sc : Nat → Pd} {pb : Nat → Nat} (h : FBase w0 sa n pg l sc pb) {a : Nat} (ha : a < n) : l[a]? = some (sc a) := by
  have e := List.getElem?_eq_getElem (l := l) (i := a) (by rw [h.len]; exact ha)
  rw [e, h.sc a _ e]

theorem FBase.good {w0 w : World} {sa : Option Addr} {n pg : Nat} {l : List Pd} {sc : Nat → Pd} {pb : Nat → Nat} (h : FBase w0 sa n pg l sc pb) (hb : Below w0.heap.size w0 w) {a : Nat} (ha : a < n) : Good w0.heap.size w (pb a, elsOf sc a) := by
  have hx := h.at ha
  obtain ⟨b, off, ea, ec, _, _, _, hE, _⟩ := h.scr a _ hx
  exact ⟨fun W hW => ((h.pbs.at_ a _ ha hx).below (hb.trans hW)).el, pno_ok (els_bytes hE)⟩

theorem FBase.ptr {w0 w : World} {sa : Option Addr} {n pg : Nat} {l : List Pd} {sc : Nat → Pd} {pb : Nat → Nat} (h : FBase w0 sa n pg l sc pb) (hb : Below w0.heap.size w0 w) {a : Nat} (ha : a < n) : w.cell? ⟨pg, a, none⟩ = some (.pointer (some ⟨pb a, 0, none⟩)) := by
  obtain ⟨cs, h1, h2, h3, _⟩ := h.pbs.blk
  rw [hb.cell (by exact h.pbs.lt), cell_of_row _ _ _ _ _ _ h1]
  exact h3 a ha

/-- behind st steps -/
structure FI (w0 : World) (j : Nat) (sc : Nat → Pd) (pb : Nat → Nat) (tb : Nat) (wr : World) (st : Nat) (G : List JG) (ga : Option Addr) (gc : Nat) : Prop where
  ji : ∃ M seq pend, JI wr w0.heap.size j 0 M pb seq pend G ∧ 0 ≤ seq ∧ seq ≤ st
  gi : GI wr w0.heap.size ga gc (G.map JG.touch) (G.map (JG.con sc))
  ai : AI sc G st
  b : Below w0.heap.size w0 wr
  t : wr.heap[tb]? = some (.cells #[.int .u64 0, .int .i64 0, .pointer none] 39)

theorem JI.dist {w : World} {B j : Nat} {lim : Int} {M : Nat → Prop} {pb : Nat → Nat} {seq : Int} {pend : Option Nat} {G : List JG} (h : JI w B j lim M pb seq pend G) : Dist G := fun i i' g g' hne h1 h2 => (h.ap i i' g g' hne h1 h2).2.2

/-- what AddAt leaves in the feed -/
structure FA (w0 : World) (j : Nat) (sc : Nat → Pd) (pb : Nat → Nat) (tb : Nat) (w : World) (st : Nat) (G G' : List JG) (ga : Option Addr) (gc : Nat) (res : Res) (got : Option Addr) : Prop where
  rel : Rel sc G st G' res
  ji : ∃ M seq pend, JI w w0.heap.size j 0 M pb seq pend G' ∧ 0 ≤ seq ∧ seq ≤ (st : Int) + 1
  gi : GI w w0.heap.size ga gc (G.map JG.touch) (G.map (JG.con sc))
  b : Below w0.heap.size w0 w
  t : w.heap[tb]? = some (.cells #[.int .u64 0, .int .i64 0, .pointer none] 39)
  m : RMsg w pb (elsOf sc) st got res

theorem fa_of {w0 wr : World} {j : Nat} {sa : Option Addr} {n pg : Nat} {l : List Pd} {sc : Nat → Pd} {pb : Nat → Nat} {tb st : Nat} {G : List JG} {ga : Option Addr} {gc : Nat} (hB : FBase w0 sa n pg l sc pb) (h : FI w0 j sc pb tb wr st G ga gc) (hst : st < n) (hn : n ≤ 4096) :
    Calls Try.prog 29 (addArgs j (pb st)) wr.drew fun e w' => ∃ G' res got, e = .returned (.pointer got) ∧ FA w0 j sc pb tb w' st G G' ga gc res got := by
  obtain ⟨M, seq, pend, hJ, hs0, hs1⟩ := h.ji
  have hx := hB.at hst
  obtain ⟨b, off, ea, ec, _, _, _, hE, hok, _⟩ := hB.scr st _ hx
  have hbd : Below w0.heap.size w0 wr.drew := h.b.drew
  refine (add_any sc w0.heap.size j M pb seq pend G st wr.drew (by have := h.b.size; exact this) (by omega) (hJ.keep fun k o e _ => e) h.ai ((hB.pbs.at_ st _ hst hx).below hbd) hok (els_bytes hE) (fun a ha => hB.good hbd (by omega)) ⟨hs0, hs1⟩).mono ?_
  rintro e w' ⟨M', seq', pend', G', res, got, rfl, R, hJ', hs', hF, hm⟩
  obtain ⟨lg, hGW, hkt⟩ := h.gi
  refine ⟨G', res, got, rfl, R, ⟨M', seq', pend', hJ', hs'⟩, ⟨lg, hGW.keep fun k o e hg => hF.keep e (isG_not_isJ hg), hkt⟩, hbd.trans (hF.below (by have := h.b.size; exact this)), ?_, hm⟩
  exact hF.keep h.t (by rintro (⟨c, fr, h | h | h⟩ | ⟨es, c, h⟩) <;> simp at h)

theorem FI.keep {w0 wr w' : World} {j : Nat} {sc : Nat → Pd} {pb : Nat → Nat} {tb st : Nat} {G : List JG} {ga : Option Addr} {gc : Nat} (h : FI w0 j sc pb tb wr st G ga gc) (hk : ∀ (k : Nat) (o : Obj), wr.heap[k]? = some o → (isJ o ∨ isG o) → w'.heap[k]? = some o) (hb : Below w0.heap.size w0 w') (ht : w'.heap[tb]? = some (.cells #[.int .u64 0, .int .i64 0, .pointer none] 39)) : FI w0 j sc pb tb w' st G ga gc := by
  obtain ⟨M, seq, pend, hJ, hs⟩ := h.ji
  obtain ⟨lg, hGW, hkt⟩ := h.gi
  exact ⟨⟨M, seq, pend, hJ.keep fun k o e h => hk k o e (Or.inl h), hs⟩, ⟨lg, hGW.keep fun k o e h => hk k o e (Or.inr h), hkt⟩, h.ai, hb, ht⟩

theorem FI.below {w0 wr w' : World} {j : Nat} {sc : Nat → Pd} {pb : Nat → Nat} {tb st : Nat} {G : List JG} {ga : Option Addr} {gc : Nat} (h : FI w0 j sc pb tb wr st G ga gc) (hb : Below wr.heap.size wr w') : FI w0 j sc pb tb w' st G ga gc :=
  h.keep (fun k o e _ => (hb.block k (Array.getElem?_eq_some_iff.1 e).1).trans e) (h.b.trans (hb.mono h.b.size)) ((hb.block _ (Array.getElem?_eq_some_iff.1 h.t).1).trans h.t)

theorem fs_of {w0 wr wc : World} {j : Nat} {sa : Option Addr} {n pg : Nat} {l : List Pd} {sc : Nat → Pd} {pb : Nat → Nat} {tb st : Nat} {G G' : List JG} {ga : Option Addr} {gc : Nat} {res : Res} {got : Option Addr} {ea : Option Addr} (hB : FBase w0 sa n pg l sc pb) (hF : FA w0 j sc pb tb wc st G G' ga gc res got) (hI : FI w0 j sc pb tb wr st G ga gc) (hst : st < n) (hn : n ≤ 4096) (hE : Els wc ea (sc st).els) (hok : (sc st).Ok) (hel : (sc st).els.length ≤ 1048576) (ec : Nat) (z : Int) :
    Calls Try.prog 30 #[.slice ga G.length gc, .int .i64 z, .int .i64 0, .agg #[.string (sc st).smsc, .int .i64 (sc st).typ, .int .u8 (sc st).fton, .int .u8 (sc st).fnpi, .string (sc st).fnum, .int .u8 (sc st).tton, .int .u8 (sc st).tnpi, .string (sc st).tnum, .slice ea (sc st).els.length ec], .int .i64 (st : Nat)] (wc.alloc (.cells #[.int .i64 0, .int .i64 0, .slice none 0 0] 83)) fun e w' => ∃ ga' gc' h' kind ref sa' sn so, e = .returned (stepOut ga' G'.length gc' h' kind ref sa' sn so) ∧ FI w0 j sc pb tb w' (st + 1) G' ga' gc' ∧ RMsg w' pb (elsOf sc) st got res ∧ ROut w' (pnOf sc) kind ref sa' sn so res ∧ (∀ key ix, res = .msg key ix → Whole (pnOf sc) (st + 1) key ix) ∧ w'.heap[wc.heap.size]? = some (.cells #[.int .i64 0, .int .i64 0, .slice none 0 0] 83) := by
  have hba : Below wc.heap.size wc (wc.alloc (.cells #[.int .i64 0, .int .i64 0, .slice none 0 0] 83)) := (Below.refl _ _).alloc (Nat.le_refl _) _
  obtain ⟨M0, seq0, pend0, hJ0, _⟩ := hI.ji
  obtain ⟨M, seq, pend, hJ, hs⟩ := hF.ji
  have hBw : w0.heap.size ≤ (wc.alloc (.cells #[.int .i64 0, .int .i64 0, .slice none 0 0] 83)).heap.size := by have := hF.b.size; simp; omega
  have hGa := hF.gi.below hba
  refine (step_any sc w0.heap.size ga gc G G' res z st ea ec (wc.alloc (.cells #[.int .i64 0, .int .i64 0, .slice none 0 0] 83)) hBw (by omega) hGa hI.ai hJ0.dist hF.rel hel (hE.below hba) hok).mono ?_
  rintro e w' ⟨ga', gc', h', kind, ref, sa', sn, so, rfl, hGI, hFr, hRO⟩
  have hk : ∀ (k : Nat) (o : Obj), wc.heap[k]? = some o → ¬ isG o → w'.heap[k]? = some o := fun k o e h => hFr.keep ((hba.block k (Array.getElem?_eq_some_iff.1 e).1).trans e) h
  have hb : ∀ e ∈ (sc st).els, ∀ z ∈ e.2, 0 ≤ z ∧ z < 256 := els_bytes hE
  refine ⟨ga', gc', h', kind, ref, sa', sn, so, rfl, ⟨⟨M, seq, pend, hJ.keep fun k o e h => hk k o e (isJ_not_isG h), hs.1, by have := hs.2; omega⟩, hGI, hI.ai.step hok hb hF.rel, (hF.b.trans (hba.mono hF.b.size)).trans (hFr.below hBw), hk _ _ hF.t (by rintro ⟨c, fr, h | h⟩ <;> simp at h)⟩, hF.m.keep fun k o e h => hk k o e (isJ_not_isG h), hRO, fun key ix e => ?_, hFr.keep (heap_alloc_new _ _) (by rintro ⟨c, fr, h | h⟩ <;> simp at h)⟩
  have R := hF.rel
  rw [e] at R
  exact R.whole hI.ai hok hb

set_option maxHeartbeats 4000000 in
set_option maxRecDepth 100000 in
theorem zzFeed_any (w0 w : World) (j : Nat) (sa : Option Addr) (n cap pg pc : Nat) (l : List Pd) (sc : Nat → Pd) (pb : Nat → Nat) (hn : n ≤ 4096) (hB : Hid (FBase w0 sa n pg l sc pb)) (hb : Hid (Below w0.heap.size w0 w)) (hJ : Hid (∃ M, JI w w0.heap.size j 0 M pb 0 none [])) :
    Calls Try.prog 19 #[.pointer (some ⟨j, 0, none⟩), .int .i64 0, .slice sa n cap, .slice (some ⟨pg, 0, none⟩) n pc, .bool true] w fun e w' => (∃ ga m gc, e = .returned (.tuple #[.slice ga m gc, .bool true])) ∧ Below w0.heap.size w0 w' := by
  have I0 : Hid (FI w0 j sc pb w.heap.size (w.alloc (.cells #[.int .u64 0, .int .i64 0, .pointer none] 39)) 0 [] none 0) := by
    obtain ⟨M, h⟩ := hJ.out
    have hba : Below w.heap.size w (w.alloc (.cells #[.int .u64 0, .int .i64 0, .pointer none] 39)) := (Below.refl _ _).alloc (Nat.le_refl _) _
    refine ⟨⟨M, 0, none, h.below hba, Int.le_refl _, by omega⟩, ⟨[], ⟨World.ownsRow_nil _ _ _ _, rfl, fun i x d hx => by simp at hx, fun i j x y hx => by simp at hx⟩, rfl⟩, ⟨by simp, by simp, by simp, by simp, by simp, by simp⟩, hb.out.trans (hba.mono hb.out.size), heap_alloc_new _ _⟩
  go_enter Try.func19, Try.ntmps19
  go_wp2
  generalize w.alloc (.cells #[.int .u64 0, .int .i64 0, .pointer none] 39) = w1 at *
  go_loopw [13, 14, 15, 16, 17] (fun v h i _ _ wr => ∃ (st : Nat) (G : List JG) (ga : Option Addr) (gc : Nat) (z : Int), st ≤ n ∧ i = .int .i64 st ∧ h = .int .i64 z ∧ v = .slice ga G.length gc ∧ Hid (FI w0 j sc pb w.heap.size wr st G ga gc)) (fun _ _ i _ _ _ => n - (intOf i).toNat)
  case atStart => exact ⟨0, [], none, 0, 0, Nat.zero_le _, rfl, rfl, rfl, I0⟩
  case round =>
    obtain ⟨st, G, ga, gc, z, hst, rfl, rfl, rfl, HI⟩ := hrel
    clear I0 hJ hb
    by_cases hlt : st < n
    · have hjn : (st : Int) < n := by omega
      have HAD := fa_of hB.out HI.out hlt hn
      have HADD : Hid (Calls Try.prog 29 #[.pointer (some ⟨j, 0, none⟩), .pointer (some ⟨pb st, 0, none⟩), .agg #[.int .u64 0, .int .i64 0, .pointer none]] wr.drew fun e w' => ∃ G' res got, e = .returned (.pointer got) ∧ FA w0 j sc pb w.heap.size w' st G G' ga gc res got) := HAD
      clear HAD
      have cp : wr.cell? ⟨pg, st, none⟩ = some (.pointer (some ⟨pb st, 0, none⟩)) := hB.out.ptr HI.out.b hlt
      have t0 : wr.cell? ⟨w.heap.size, 0, none⟩ = some (.int .u64 0) := cell_of_row _ _ _ _ _ _ HI.out.t
      have t1 : wr.cell? ⟨w.heap.size, 1, none⟩ = some (.int .i64 0) := cell_of_row _ _ _ _ _ _ HI.out.t
      have t2 : wr.cell? ⟨w.heap.size, 2, none⟩ = some (.pointer none) := cell_of_row _ _ _ _ _ _ HI.out.t
      go_upto_region 7 with fail
      go_cut [16] from 18 to 53 (fun s16 wx => ∃ G' res got, s16 = .pointer got ∧ Hid (FA w0 j sc pb w.heap.size wx st G G' ga gc res got))
      case first =>
        go_region_with (go_at_call 29; refine HADD.out.mono ?_; rintro e w2 ⟨G', res, got, rfl, hFA⟩)
        all_goals
          go_wp2_with fail
          go_meet
          case rel => exact ⟨G', res, got, rfl, hFA⟩
      case rest =>
        obtain ⟨G', res, got, rfl, HF⟩ := hcut
        clear t0 t1 t2 cp HADD
        have hwcB' : w0.heap.size ≤ wc.heap.size := HF.out.b.size
        obtain ⟨b, off, ea, ec, esa, hbl, hz, hE, hok, hnil⟩ := (hB.out.scr.below HF.out.b) st (sc st) (hB.out.at hlt)
        subst esa
        obtain ⟨c0, c1, c2, c3, c4, c5, c6, c7, c8⟩ := hz
        have d0 : ∀ o, (wc.alloc o).cell? ⟨b, off + st * 9, none⟩ = some (.string (sc st).smsc) := fun o => (World.cell?_alloc_lt _ _ _ (by exact hbl)).trans c0
        have d1 : ∀ o, (wc.alloc o).cell? ⟨b, off + st * 9 + 1, none⟩ = some (.int .i64 (sc st).typ) := fun o => (World.cell?_alloc_lt _ _ _ (by exact hbl)).trans c1
        have d2 : ∀ o, (wc.alloc o).cell? ⟨b, off + st * 9 + 2, none⟩ = some (.int .u8 (sc st).fton) := fun o => (World.cell?_alloc_lt _ _ _ (by exact hbl)).trans c2
        have d3 : ∀ o, (wc.alloc o).cell? ⟨b, off + st * 9 + 3, none⟩ = some (.int .u8 (sc st).fnpi) := fun o => (World.cell?_alloc_lt _ _ _ (by exact hbl)).trans c3
        have d4 : ∀ o, (wc.alloc o).cell? ⟨b, off + st * 9 + 4, none⟩ = some (.string (sc st).fnum) := fun o => (World.cell?_alloc_lt _ _ _ (by exact hbl)).trans c4
        have d5 : ∀ o, (wc.alloc o).cell? ⟨b, off + st * 9 + 5, none⟩ = some (.int .u8 (sc st).tton) := fun o => (World.cell?_alloc_lt _ _ _ (by exact hbl)).trans c5
        have d6 : ∀ o, (wc.alloc o).cell? ⟨b, off + st * 9 + 6, none⟩ = some (.int .u8 (sc st).tnpi) := fun o => (World.cell?_alloc_lt _ _ _ (by exact hbl)).trans c6
        have d7 : ∀ o, (wc.alloc o).cell? ⟨b, off + st * 9 + 7, none⟩ = some (.string (sc st).tnum) := fun o => (World.cell?_alloc_lt _ _ _ (by exact hbl)).trans c7
        have d8 : ∀ o, (wc.alloc o).cell? ⟨b, off + st * 9 + 8, none⟩ = some (.slice ea (sc st).els.length ec) := fun o => (World.cell?_alloc_lt _ _ _ (by exact hbl)).trans c8
        have hsmall := hB.out.small _ (List.mem_of_getElem? (hB.out.at hlt))
        have HST : Hid (Calls Try.prog 30 #[.slice ga G.length gc, .int .i64 z, .int .i64 0, .agg #[.string (sc st).smsc, .int .i64 (sc st).typ, .int .u8 (sc st).fton, .int .u8 (sc st).fnpi, .string (sc st).fnum, .int .u8 (sc st).tton, .int .u8 (sc st).tnpi, .string (sc st).tnum, .slice ea (sc st).els.length ec], .int .i64 (st : Nat)] (wc.alloc (.cells #[.int .i64 0, .int .i64 0, .slice none 0 0] 83)) fun e w' => ∃ ga' gc' h' kind ref sa' sn so, e = .returned (stepOut ga' G'.length gc' h' kind ref sa' sn so) ∧ FI w0 j sc pb w.heap.size w' (st + 1) G' ga' gc' ∧ RMsg w' pb (elsOf sc) st got res ∧ ROut w' (pnOf sc) kind ref sa' sn so res ∧ (∀ key ix, res = .msg key ix → Whole (pnOf sc) (st + 1) key ix) ∧ w'.heap[wc.heap.size]? = some (.cells #[.int .i64 0, .int .i64 0, .slice none 0 0] 83)) := fs_of hB.out HF.out HI.out hlt hn hE hok hsmall.1 ec z
        clear hE hok hnil hsmall c0 c1 c2 c3 c4 c5 c6 c7 c8 HF HI
        go_wp2_with fail
        refine HST.out.mono ?_
        rintro e w3 ⟨ga', gc', h', kind, ref, sa', sn, so, rfl, hFI, hRM, hRO, hWh, hob⟩
        have H3 : Hid (FI w0 j sc pb w.heap.size w3 (st + 1) G' ga' gc' ∧ RMsg w3 pb (elsOf sc) st got res ∧ ROut w3 (pnOf sc) kind ref sa' sn so res ∧ (∀ key ix, res = .msg key ix → Whole (pnOf sc) (st + 1) key ix) ∧ w3.heap[wc.heap.size]? = some (.cells #[.int .i64 0, .int .i64 0, .slice none 0 0] 83)) := ⟨hFI, hRM, hRO, hWh, hob⟩
        have s0 : w3.cell? ⟨wc.heap.size, 0, none⟩ = some (.int .i64 0) := cell_of_row _ _ _ _ _ _ hob
        have s1 : w3.cell? ⟨wc.heap.size, 1, none⟩ = some (.int .i64 0) := cell_of_row _ _ _ _ _ _ hob
        have s2 : w3.cell? ⟨wc.heap.size, 2, none⟩ = some (.slice none 0 0) := cell_of_row _ _ _ _ _ _ hob
        have sf : ∀ k, w3.frozen? ⟨wc.heap.size, k, none⟩ = false := fun k => cell_frozen hob
        clear hFI hRM hRO hWh hob HST d0 d1 d2 d3 d4 d5 d6 d7 d8
        simp only [stepOut]
        go_wp2_with fail
        have H4 : Hid (FI w0 j sc pb w.heap.size (((w3.setCell ⟨wc.heap.size, 0, none⟩ (.int .i64 kind)).setCell ⟨wc.heap.size, 1, none⟩ (.int .i64 ref)).setCell ⟨wc.heap.size, 2, none⟩ (.slice sa' sn so)) (st + 1) G' ga' gc' ∧ RMsg (((w3.setCell ⟨wc.heap.size, 0, none⟩ (.int .i64 kind)).setCell ⟨wc.heap.size, 1, none⟩ (.int .i64 ref)).setCell ⟨wc.heap.size, 2, none⟩ (.slice sa' sn so)) pb (elsOf sc) st got res ∧ ROut (((w3.setCell ⟨wc.heap.size, 0, none⟩ (.int .i64 kind)).setCell ⟨wc.heap.size, 1, none⟩ (.int .i64 ref)).setCell ⟨wc.heap.size, 2, none⟩ (.slice sa' sn so)) (pnOf sc) kind ref sa' sn so res ∧ (∀ key ix, res = .msg key ix → Whole (pnOf sc) (st + 1) key ix)) := by
          obtain ⟨hFI, hRM, hRO, hWh, hob⟩ := H3.out
          have hk : ∀ (k : Nat) (o : Obj), w3.heap[k]? = some o → (∀ c fr, o ≠ .cells c 83 fr) → (((w3.setCell ⟨wc.heap.size, 0, none⟩ (.int .i64 kind)).setCell ⟨wc.heap.size, 1, none⟩ (.int .i64 ref)).setCell ⟨wc.heap.size, 2, none⟩ (.slice sa' sn so)).heap[k]? = some o := fun k o e hne => by
            have hkb : k ≠ wc.heap.size := fun e2 => by subst e2; rw [hob] at e; cases e; exact hne _ _ rfl
            rw [Below.heap_setCell _ _ _ _ (by exact hkb), Below.heap_setCell _ _ _ _ (by exact hkb), Below.heap_setCell _ _ _ _ (by exact hkb)]
            exact e
          refine ⟨hFI.keep (fun k o e h => hk k o e ?_) ?_ (hk _ _ hFI.t (by simp)), hRM.keep (fun k o e h => hk k o e ?_), hRO.below (fun k c e => hk k _ e (by simp)), hWh⟩
          · rcases h with h | h
            · rcases h with ⟨c, fr, h | h | h⟩ | ⟨es, c, h⟩ <;> (subst h; simp)
            · obtain ⟨c, fr, h | h⟩ := h <;> (subst h; simp)
          · exact ((hFI.b.setCell (by exact hwcB') _).setCell (by exact hwcB') _).setCell (by exact hwcB') _
          · rcases h with ⟨c, fr, h | h | h⟩ | ⟨es, c, h⟩ <;> (subst h; simp)
        clear H3
        have HCK := check_any sc pb st n pg pc got kind ref sa' sn so res _ hlt hn (fun a ha => hB.out.ptr H4.out.1.b ha) H4.out.2.1 H4.out.2.2.1 H4.out.2.2.2
        refine HCK.mono ?_
        rintro e w5 ⟨rfl, hb5⟩
        have H5 : Hid (FI w0 j sc pb w.heap.size w5 (st + 1) G' ga' gc') := H4.out.1.below hb5
        clear HCK H4 hb5 s0 s1 s2 sf
        go_wp2
        go_roundw
        case rel => exact ⟨st + 1, G', ga', gc', h', by omega, by go_num, rfl, rfl, H5⟩
        case measure => simp [intOf]; omega
    · go_wp2
      go_ret2
      exact ⟨⟨ga, G.length, gc, rfl⟩, HI.out.b⟩

end Go.Proofs.Qxb6616208a
