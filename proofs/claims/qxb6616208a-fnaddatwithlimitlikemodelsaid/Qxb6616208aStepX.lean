/-
  zzStep (30), whole, at a limit.
-/
import Derived.Test.Qxb6616208aRelX
import Derived.Test.Qxb6616208aStepXA
import Derived.Test.Qxb6616208aStepXB
import Derived.Test.Qxb6616208aStepXC
import Derived.Test.Qxb6616208aStepXM
import Derived.Test.Qxb6616208aStepXN
import Derived.Test.Qxb6616208aStepXE
import Derived.Test.Qxb6616208aStepXF
namespace Go.Proofs.Qxb6616208a
open Go.RowKit
set_option linter.unusedVariables false
set_option linter.unusedSimpArgs false

def ROutX (w : World) (pn : Nat → Int) (kind ref : Int) (sa : Option Addr) (sn sc : Nat) : ResX → Prop
  | none => kind = 0 ∧ ref = 0 ∧ sa = none ∧ sn = 0 ∧ sc = 0
  | some none => kind = 1 ∧ ref = 0 ∧ sa = none ∧ sn = 0 ∧ sc = 0
  | some (some (_, key, ix)) => kind = 2 ∧ ref = key.ref ∧ ∃ q, sa = some ⟨q, 0, none⟩ ∧ (sn : Int) = key.tot ∧ sc = sn ∧ SRow w q sn (slotF (ix.map fun b => (pn b, (b : Int))))

theorem con_zip (sc : Nat → Pd) (g : JG) : (g.con sc).1.zip (g.con sc).2 = g.ix.map fun b => (pnOf sc b, (b : Int)) := by
  simp only [JG.con, cont]
  rw [List.zip_map']

theorem step_x (sc : Nat → Pd) (lim : Int) (B : Nat) (ga : Option Addr) (gc : Nat) (G G' : List JG) (O O' : List Nat) (hd hd' : Int) (res : ResX) (s : Nat) (ea : Option Addr) (ec : Nat) (W : World) (hBW : B ≤ W.heap.size) (hs : s ≤ 4096) (hlim : 1 ≤ lim) (hlu : lim ≤ 65536) (hle : hd ≤ lim) (hG : GI W B ga gc (G.map JG.touch) (G.map (JG.con sc))) (hA : AX sc G O hd s) (hD : Dist G) (R : RelX sc lim G O hd s G' O' hd' res)
    (hel : (sc s).els.length ≤ 1048576) (hE : Els W ea (sc s).els) (hok : (sc s).Ok) :
    Calls Try.prog 30 #[.slice ga G.length gc, .int .i64 hd, .int .i64 lim, .agg #[.string (sc s).smsc, .int .i64 (sc s).typ, .int .u8 (sc s).fton, .int .u8 (sc s).fnpi, .string (sc s).fnum, .int .u8 (sc s).tton, .int .u8 (sc s).tnpi, .string (sc s).tnum, .slice ea (sc s).els.length ec], .int .i64 (s : Nat)] W
      fun e w' => ∃ ga' gc' kind ref sa sn sc', e = .returned (stepOut ga' G'.length gc' hd' kind ref sa sn sc') ∧ GI w' B ga' gc' (G'.map JG.touch) (G'.map (JG.con sc)) ∧ Fr isG B W w' ∧ ROutX w' (pnOf sc) kind ref sa sn sc' res := by
  obtain ⟨l, hGW, hkt⟩ := hG
  have hb := els_bytes hE
  have h0 := hA.pos
  have hhd : 0 ≤ hd ∧ hd < 1000000 := ⟨h0, by omega⟩
  have hl : l.length = G.length := by have := congrArg List.length hkt; simpa using this
  have hGl : G.length ≤ 4096 := Nat.le_trans hA.ai.len hs
  have first : ∀ {i : Nat} {g : JG} {k : Key}, G[i]? = some g → g.key = k → ∀ j z, j < i → l[j]? = some z → z.key ≠ k := fun {i g k} hi hg j z hj hz e => by
    obtain ⟨g2, h1, h2⟩ := touch_back hkt hz
    exact hD i j g g2 (by omega) hi h1 (by rw [hg, ← h2, e])
  have dlen : ∀ {i : Nat} {g : JG}, G[i]? = some g → (g.con sc).1.length ≤ 4096 ∧ (g.con sc).2.length ≤ 4096 ∧ (g.con sc).1.length = g.ix.length := fun {i g} hi => by
    have h1 := hA.ai.lt g (List.mem_of_getElem? hi)
    have h2 := hA.ai.small g (List.mem_of_getElem? hi)
    have e1 : (g.con sc).1.length = g.ix.length := by simp [JG.con, cont]
    have e2 : (g.con sc).2.length = g.ix.length := by simp [JG.con, cont]
    exact ⟨by omega, by omega, e1⟩
  have dat : ∀ {i : Nat} {g : JG}, G[i]? = some g → (G.map (JG.con sc))[i]? = some (g.con sc) := fun hi => by rw [List.getElem?_map, hi]; rfl
  have newk : ∀ {k : Key}, (∀ g ∈ G, g.key ≠ k) → ∀ z ∈ l, z.key ≠ k := fun hnew z hz e => by
    obtain ⟨i, hi⟩ := List.mem_iff_getElem?.1 hz
    obtain ⟨g2, h1, h2⟩ := touch_back hkt hi
    exact hnew g2 (List.mem_of_getElem? h1) (h2.symm.trans e)
  -- what is given up, of the groups behind the part
  have evf : ∀ {G1 : List JG} {O1 : List Nat} {i2 : Nat} {g2 : JG}, Mid sc G O s G1 O1 → G1[i2]? = some g2 → O1[0]? = some g2.m → ∃ tot : Nat, g2.key.tot = tot ∧ tot ≤ 255 ∧ (G1.map JG.touch)[i2]? = some (g2.key, ((g2.lt : Nat) : Int)) ∧ (∀ (i : Nat) (x : Key × Int), (G1.map JG.touch)[i]? = some x → i ≠ i2 → ((g2.lt : Nat) : Int) < x.2) ∧ (G1.map (JG.con sc))[i2]? = some (g2.con sc) ∧ (g2.con sc).1.length = (g2.con sc).2.length ∧ (g2.con sc).1.length ≤ 4097 ∧ (∀ q ∈ (g2.con sc).1, 1 ≤ q ∧ q ≤ tot) ∧ (g2.con sc).1.length = g2.ix.length := fun {G1 O1 i2 g2} M hi ho => by
    have hm := hA.mid hok hb M
    have hg2 := List.mem_of_getElem? hi
    have h1 := hm.ai.lt g2 hg2
    have h2 := hm.ai.small g2 hg2
    have e1 : (g2.con sc).1.length = g2.ix.length := by simp [JG.con, cont]
    have e2 : (g2.con sc).2.length = g2.ix.length := by simp [JG.con, cont]
    obtain ⟨tot, htot⟩ : ∃ tot : Nat, g2.key.tot = tot := ⟨g2.key.tot.toNat, by omega⟩
    refine ⟨tot, htot, by omega, by rw [List.getElem?_map, hi]; rfl, hm.least hi ho, by rw [List.getElem?_map, hi]; rfl, by omega, by omega, fun q hq => ?_, e1⟩
    simp only [JG.con, cont, List.mem_map] at hq
    obtain ⟨a, ha, rfl⟩ := hq
    have := (hm.ai.mem g2 hg2 a ha).2
    rw [htot] at this
    exact this
  rcases R with ⟨hk, rfl, rfl, rfl, rfl⟩ | ⟨i, g, k, p, hk, hi, hg, hh, rfl, rfl, rfl, rfl⟩ | ⟨i, g, k, p, hk, hi, hg, hh, hnt, rfl, rfl, rfl, rfl⟩ | ⟨k, p, hk, hnew, hnt, rfl, rfl, rfl, rfl⟩ | ⟨G1, O1, M, hl1, rfl, rfl, rfl, rfl⟩ | ⟨G1, O1, i2, g2, M, hl1, hi2, ho, rfl, rfl, rfl, rfl⟩
  · skip
    refine (step_alone_x lim ga G.length gc hd s (sc s) ea (sc s).els.length ec W rfl hel hE hk).mono ?_
    rintro e w' ⟨rfl, hbw⟩
    exact ⟨ga, gc, 1, 0, none, 0, 0, rfl, ⟨l, hGW.below hbw, hkt⟩, Fr.of_below hbw, rfl, rfl, rfl, rfl, rfl⟩
  · skip
    obtain ⟨y, hy, hyk⟩ := touch_at hkt hi
    refine (step_dup_x lim B ga G.length gc l _ hd s (sc s) ea (sc s).els.length ec k p W hl hGl hs hBW hGW rfl hel hE hk i y (g.con sc) hy (dat hi) (hyk.trans hg) (first hi hg) (dlen hi).1 hh).mono ?_
    rintro e w' ⟨rfl, hbw⟩
    exact ⟨ga, gc, 0, 0, none, 0, 0, rfl, ⟨l, hGW.below hbw, hkt⟩, Fr.of_below hbw, rfl, rfl, rfl, rfl, rfl⟩
  · skip
    obtain ⟨y, hy, hyk⟩ := touch_at hkt hi
    obtain ⟨ko, hp, p1, p2⟩ := key_ok hok hb hk
    have hyn := (hGW.ok i y _ hy (dat hi)).1
    have hgG := List.mem_of_getElem? hi
    obtain ⟨tot, htot⟩ : ∃ tot : Nat, k.tot = tot := ⟨k.tot.toNat, by have := ko.tot; omega⟩
    have ht := ko.tot
    refine (step_full_x lim B ga G.length gc l _ hd s (sc s) ea (sc s).els.length ec k p W hl hGl hs hBW hGW rfl hel hE hk i y (g.con sc) hy (dat hi) (hyk.trans hg) (first hi hg) (dlen hi).1 (dlen hi).2.1 (by show _ = _; simp [JG.con, cont]) hh tot htot (by omega) (by show _ = _; rw [hyn, (dlen hi).2.2]; exact hnt) (fun v hv => ?_) hhd).mono ?_
    · simp only [JG.con, cont, List.mem_append, List.mem_map, List.mem_singleton] at hv
      rcases hv with ⟨a, ha, rfl⟩ | rfl
      · have := hA.ai.mem g hgG a ha
        rw [hg, htot] at this
        exact this.2
      · rw [htot] at p2; exact ⟨p1, p2⟩
    · rintro e w' ⟨⟨h', ga', gc', q, rfl, rfl, hGI, hq, hS⟩, hF⟩
      have hlen : (G.eraseIdx i).length = G.length - 1 := by rw [List.length_eraseIdx, if_pos (List.getElem?_eq_some_iff.1 hi).1]
      refine ⟨ga', gc', 2, k.ref, some ⟨q, 0, none⟩, tot, tot, by rw [hlen, hyn, (dlen hi).2.2], ?_, hF, rfl, rfl, q, rfl, htot.symm, rfl, ?_⟩
      · rw [ChangeMaps.map_eraseIdx, ChangeMaps.map_eraseIdx, ← hkt]
        exact hGI
      · have e1 : ((g.con sc).1 ++ [p]).zip ((g.con sc).2 ++ [(s : Int)]) = (g.ix ++ [s]).map fun b => (pnOf sc b, (b : Int)) := by
          have e2 : (g.con sc).1 ++ [p] = (g.ix ++ [s]).map (pnOf sc) := by rw [hp]; simp [JG.con, cont, pnOf]
          have e3 : (g.con sc).2 ++ [(s : Int)] = (g.ix ++ [s]).map fun (b : Nat) => (b : Int) := by simp [JG.con, cont]
          rw [e2, e3, List.zip_map']
        rw [e1] at hS
        exact hS
  · skip
    obtain ⟨ko, hp, p1, p2⟩ := key_ok hok hb hk
    refine (step_new1_x lim B ga G.length gc l _ hd s (sc s) ea (sc s).els.length ec k p W hl hGl hs hBW hGW rfl hel hE hk (newk hnew) hnt.symm ⟨p1, by rw [hnt]; exact p2⟩ hhd).mono ?_
    rintro e w' ⟨⟨h', ga', gc', q, tot, rfl, rfl, htt, hGI, hq, hS⟩, hF⟩
    refine ⟨ga', gc', 2, k.ref, some ⟨q, 0, none⟩, tot, tot, rfl, by rw [← hkt]; exact hGI, hF, rfl, rfl, q, rfl, by rw [htt, ← hnt]; rfl, rfl, ?_⟩
    have e1 : [s].map (fun b => (pnOf sc b, (b : Int))) = [(p, (s : Int))] := by simp [hp, pnOf]
    rw [e1]
    exact hS
  · skip
    rcases M with ⟨i, g, k, p, q, c, hk, hi, hg, hh, hnt, rfl, rfl⟩ | ⟨k, p, g', hk, hnew, hnt, hgk, hix, hmO, rfl, rfl⟩
    · skip
      obtain ⟨y, hy, hyk⟩ := touch_at hkt hi
      obtain ⟨ko, hp, p1, p2⟩ := key_ok hok hb hk
      have hyn := (hGW.ok i y _ hy (dat hi)).1
      refine (step_add_x lim B ga G.length gc l _ hd s (sc s) ea (sc s).els.length ec k p W hl hGl hs hBW hGW rfl hel hE hk i y (g.con sc) hy (dat hi) (hyk.trans hg) (first hi hg) (dlen hi).1 (dlen hi).2.1 hh (by rw [hyn, (dlen hi).2.2]; exact hnt) hhd hlim hl1).mono ?_
      rintro e w' ⟨rfl, hGI, hF⟩
      refine ⟨ga, gc, 0, 0, none, 0, 0, by rw [List.length_set], ?_, hF, rfl, rfl, rfl, rfl, rfl⟩
      rw [List.map_set, List.map_set, con_snoc sc g q c s p hp.symm, touch_snoc, hg, ← hkt]
      exact hGI
    · skip
      obtain ⟨ko, hp, p1, p2⟩ := key_ok hok hb hk
      refine (step_new_x lim B ga G.length gc l _ hd s (sc s) ea (sc s).els.length ec k p W hl hGl hs hBW hGW rfl hel hE hk (newk hnew) hnt hhd hlim hl1).mono ?_
      rintro e w' ⟨⟨ga', gc', rfl, hGI⟩, hF⟩
      refine ⟨ga', gc', 0, 0, none, 0, 0, by simp, ?_, hF, rfl, rfl, rfl, rfl, rfl⟩
      rw [List.map_append, List.map_append, ← hkt]
      have e1 : [g'].map JG.touch = [(k, (s : Int))] := by simp [JG.touch, hgk, hix]
      have e2 : [g'].map (JG.con sc) = [([p], [(s : Int)])] := by simp [JG.con, cont, hix, hp, pnOf]
      rw [e1, e2]
      exact hGI
  · skip
    obtain ⟨tot, htot, ht, hTE, hTm, hDE, hd3, hdl, hrE, hcl⟩ := evf M hi2 ho
    have hlen : (G1.eraseIdx i2).length = G1.length - 1 := by rw [List.length_eraseIdx, if_pos (List.getElem?_eq_some_iff.1 hi2).1]
    rcases M with ⟨i, g, k, p, q, c, hk, hi, hg, hh, hnt, rfl, rfl⟩ | ⟨k, p, g', hk, hnew, hnt, hgk, hix, hmO, rfl, rfl⟩
    · skip
      obtain ⟨y, hy, hyk⟩ := touch_at hkt hi
      obtain ⟨ko, hp, p1, p2⟩ := key_ok hok hb hk
      have hyn := (hGW.ok i y _ hy (dat hi)).1
      have eT : (G.set i { g with q := q, cap := c, ix := g.ix ++ [s] }).map JG.touch = (l.map GR.kt).set i (k, (s : Int)) := by rw [List.map_set, touch_snoc, hg, ← hkt]
      have eD : (G.set i { g with q := q, cap := c, ix := g.ix ++ [s] }).map (JG.con sc) = (G.map (JG.con sc)).set i ((g.con sc).1 ++ [p], (g.con sc).2 ++ [(s : Int)]) := by rw [List.map_set, con_snoc sc g q c s p hp.symm]
      refine (step_add_ev lim B ga G.length gc l _ hd s (sc s) ea (sc s).els.length ec k p W hl hGl hs hBW hGW rfl hel hE hk i y (g.con sc) hy (dat hi) (hyk.trans hg) (first hi hg) (dlen hi).1 (dlen hi).2.1 hh (by rw [hyn, (dlen hi).2.2]; exact hnt) hhd hlim (by omega) i2 tot g2.key ((g2.lt : Nat) : Int) (g2.con sc) (by show _ = _; rw [← eT]; exact hTE) (by show ∀ _, _; rw [← eT]; exact hTm) (by show _ = _; rw [← eD]; exact hDE) hd3 hdl htot ht hrE).mono ?_
      rintro e w' ⟨⟨h', ref', ga', gc', q', rfl, rfl, rfl, hGI, hq, hS⟩, hF⟩
      refine ⟨ga', gc', 2, g2.key.ref, some ⟨q', 0, none⟩, tot, tot, by rw [hlen, hcl, List.length_set], ?_, hF, rfl, rfl, q', rfl, htot.symm, rfl, ?_⟩
      · rw [ChangeMaps.map_eraseIdx, ChangeMaps.map_eraseIdx, eT, eD]
        exact hGI
      · rw [con_zip] at hS
        exact hS
    · skip
      obtain ⟨ko, hp, p1, p2⟩ := key_ok hok hb hk
      have e1 : [g'].map JG.touch = [(k, (s : Int))] := by simp [JG.touch, hgk, hix]
      have e2 : [g'].map (JG.con sc) = [([p], [(s : Int)])] := by simp [JG.con, cont, hix, hp, pnOf]
      have eT : (G ++ [g']).map JG.touch = l.map GR.kt ++ [(k, (s : Int))] := by rw [List.map_append, e1, ← hkt]
      have eD : (G ++ [g']).map (JG.con sc) = G.map (JG.con sc) ++ [([p], [(s : Int)])] := by rw [List.map_append, e2]
      refine (step_new_ev lim B ga G.length gc l _ hd s (sc s) ea (sc s).els.length ec k p W hl hGl hs hBW hGW rfl hel hE hk (newk hnew) hnt hhd hlim (by omega) i2 tot g2.key ((g2.lt : Nat) : Int) (g2.con sc) (by show _ = _; rw [← eT]; exact hTE) (by show ∀ _, _; rw [← eT]; exact hTm) (by show _ = _; rw [← eD]; exact hDE) hd3 hdl htot ht hrE).mono ?_
      rintro e w' ⟨⟨h', ref', ga', gc', q', rfl, rfl, rfl, hGI, hq, hS⟩, hF⟩
      refine ⟨ga', gc', 2, g2.key.ref, some ⟨q', 0, none⟩, tot, tot, by rw [hlen, hcl, List.length_append]; rfl, ?_, hF, rfl, rfl, q', rfl, htot.symm, rfl, ?_⟩
      · rw [ChangeMaps.map_eraseIdx, ChangeMaps.map_eraseIdx, eT, eD]
        exact hGI
      · rw [con_zip] at hS
        exact hS

end Go.Proofs.Qxb6616208a
