/-
  zzStep (30), whole, at limit 0.
-/
import Derived.Test.Qxb6616208aRel
import Derived.Test.Qxb6616208aStepM
namespace Go.Proofs.Qxb6616208a
open Go.RowKit
set_option linter.unusedVariables false
set_option linter.unusedSimpArgs false

/-- keys differ -/
def Dist (G : List JG) : Prop := ∀ (i i' : Nat) (g g' : JG), i ≠ i' → G[i]? = some g → G[i']? = some g' → g.key ≠ g'.key

theorem touch_at {l : List GR} {G : List JG} (h : l.map GR.kt = G.map JG.touch) {i : Nat} {g : JG} (hg : G[i]? = some g) : ∃ y, l[i]? = some y ∧ y.key = g.key := by
  have h1 : (l.map GR.kt)[i]? = some g.touch := by rw [h, List.getElem?_map, hg]; rfl
  rw [List.getElem?_map, Option.map_eq_some_iff] at h1
  obtain ⟨y, h2, h3⟩ := h1
  exact ⟨y, h2, congrArg Prod.fst h3⟩
theorem touch_back {l : List GR} {G : List JG} (h : l.map GR.kt = G.map JG.touch) {i : Nat} {y : GR} (hy : l[i]? = some y) : ∃ g, G[i]? = some g ∧ y.key = g.key := by
  have h1 : (G.map JG.touch)[i]? = some y.kt := by rw [← h, List.getElem?_map, hy]; rfl
  rw [List.getElem?_map, Option.map_eq_some_iff] at h1
  obtain ⟨g, h2, h3⟩ := h1
  exact ⟨g, h2, (congrArg Prod.fst h3).symm⟩

theorem con_snoc (sc : Nat → Pd) (g : JG) (q c s : Nat) (p : Int) (hp : pnOf sc s = p) : JG.con sc { g with q := q, cap := c, ix := g.ix ++ [s] } = ((g.con sc).1 ++ [p], (g.con sc).2 ++ [(s : Int)]) := by
  simp [JG.con, cont, hp]
theorem touch_snoc (g : JG) (q c s : Nat) : JG.touch { g with q := q, cap := c, ix := g.ix ++ [s] } = (g.key, (s : Int)) := by
  simp [JG.touch]

theorem step_any (sc : Nat → Pd) (B : Nat) (ga : Option Addr) (gc : Nat) (G G' : List JG) (res : Res) (held : Int) (s : Nat) (ea : Option Addr) (ec : Nat) (W : World) (hBW : B ≤ W.heap.size) (hs : s ≤ 4096) (hG : GI W B ga gc (G.map JG.touch) (G.map (JG.con sc))) (hA : AI sc G s) (hD : Dist G) (R : Rel sc G s G' res)
    (hel : (sc s).els.length ≤ 1048576) (hE : Els W ea (sc s).els) (hok : (sc s).Ok) :
    Calls Try.prog 30 #[.slice ga G.length gc, .int .i64 held, .int .i64 0, .agg #[.string (sc s).smsc, .int .i64 (sc s).typ, .int .u8 (sc s).fton, .int .u8 (sc s).fnpi, .string (sc s).fnum, .int .u8 (sc s).tton, .int .u8 (sc s).tnpi, .string (sc s).tnum, .slice ea (sc s).els.length ec], .int .i64 (s : Nat)] W
      fun e w' => ∃ ga' gc' h' kind ref sa sn sc', e = .returned (stepOut ga' G'.length gc' h' kind ref sa sn sc') ∧ GI w' B ga' gc' (G'.map JG.touch) (G'.map (JG.con sc)) ∧ Fr isG B W w' ∧ ROut w' (pnOf sc) kind ref sa sn sc' res := by
  obtain ⟨l, hGW, hkt⟩ := hG
  have hb := els_bytes hE
  have hl : l.length = G.length := by have := congrArg List.length hkt; simpa using this
  have hGl : G.length ≤ 4096 := Nat.le_trans hA.len hs
  have first : ∀ {i : Nat} {g : JG} {k : Key}, G[i]? = some g → g.key = k → ∀ j z, j < i → l[j]? = some z → z.key ≠ k := fun {i g k} hi hg j z hj hz e => by
    obtain ⟨g2, h1, h2⟩ := touch_back hkt hz
    exact hD i j g g2 (by omega) hi h1 (by rw [hg, ← h2, e])
  have dlen : ∀ {i : Nat} {g : JG}, G[i]? = some g → (g.con sc).1.length ≤ 4096 ∧ (g.con sc).2.length ≤ 4096 ∧ (g.con sc).1.length = g.ix.length := fun {i g} hi => by
    have h1 := hA.lt g (List.mem_of_getElem? hi)
    have h2 := hA.small g (List.mem_of_getElem? hi)
    have e1 : (g.con sc).1.length = g.ix.length := by simp [JG.con, cont]
    have e2 : (g.con sc).2.length = g.ix.length := by simp [JG.con, cont]
    exact ⟨by omega, by omega, e1⟩
  have dat : ∀ {i : Nat} {g : JG}, G[i]? = some g → (G.map (JG.con sc))[i]? = some (g.con sc) := fun hi => by rw [List.getElem?_map, hi]; rfl
  rcases R with ⟨hk, rfl, rfl⟩ | ⟨i, g, k, p, hk, hi, hg, hh, rfl, rfl⟩ | ⟨i, g, k, p, q, c, hk, hi, hg, hh, hnt, rfl, rfl⟩ | ⟨i, g, k, p, hk, hi, hg, hh, hnt, rfl, rfl⟩ | ⟨k, p, g', hk, hnew, hnt, hgk, hix, rfl, rfl⟩ | ⟨k, p, hk, hnew, hnt, rfl, rfl⟩
  · skip
    refine (step_alone ga G.length gc held s (sc s) ea (sc s).els.length ec W rfl hel hE hk).mono ?_
    rintro e w' ⟨rfl, hbw⟩
    exact ⟨ga, gc, held, 1, 0, none, 0, 0, rfl, ⟨l, hGW.below hbw, hkt⟩, Fr.of_below hbw, rfl, rfl, rfl, rfl, rfl⟩
  · skip
    obtain ⟨y, hy, hyk⟩ := touch_at hkt hi
    refine (step_dup B ga G.length gc l _ held s (sc s) ea (sc s).els.length ec k p W hl hGl hs hBW hGW rfl hel hE hk i y (g.con sc) hy (dat hi) (hyk.trans hg) (first hi hg) (dlen hi).1 hh).mono ?_
    rintro e w' ⟨rfl, hbw⟩
    exact ⟨ga, gc, held, 0, 0, none, 0, 0, rfl, ⟨l, hGW.below hbw, hkt⟩, Fr.of_below hbw, rfl, rfl, rfl, rfl, rfl⟩
  · skip
    obtain ⟨y, hy, hyk⟩ := touch_at hkt hi
    obtain ⟨ko, hp, p1, p2⟩ := key_ok hok hb hk
    have hyn := (hGW.ok i y _ hy (dat hi)).1
    refine (step_add B ga G.length gc l _ held s (sc s) ea (sc s).els.length ec k p W hl hGl hs hBW hGW rfl hel hE hk i y (g.con sc) hy (dat hi) (hyk.trans hg) (first hi hg) (dlen hi).1 (dlen hi).2.1 hh (by rw [hyn, (dlen hi).2.2]; exact hnt)).mono ?_
    rintro e w' ⟨⟨h', rfl⟩, hGI, hF⟩
    refine ⟨ga, gc, h', 0, 0, none, 0, 0, by rw [List.length_set], ?_, hF, rfl, rfl, rfl, rfl, rfl⟩
    rw [List.map_set, List.map_set, con_snoc sc g q c s p hp.symm, touch_snoc, hg, ← hkt]
    exact hGI
  · skip
    obtain ⟨y, hy, hyk⟩ := touch_at hkt hi
    obtain ⟨ko, hp, p1, p2⟩ := key_ok hok hb hk
    have hyn := (hGW.ok i y _ hy (dat hi)).1
    have hgG := List.mem_of_getElem? hi
    obtain ⟨tot, htot⟩ : ∃ tot : Nat, k.tot = tot := ⟨k.tot.toNat, by have := ko.tot; omega⟩
    have ht := ko.tot
    refine (step_full B ga G.length gc l _ held s (sc s) ea (sc s).els.length ec k p W hl hGl hs hBW hGW rfl hel hE hk i y (g.con sc) hy (dat hi) (hyk.trans hg) (first hi hg) (dlen hi).1 (dlen hi).2.1 (by show _ = _; simp [JG.con, cont]) hh tot htot (by omega) (by show _ = _; rw [hyn, (dlen hi).2.2]; exact hnt) (fun v hv => ?_)).mono ?_
    · simp only [JG.con, cont, List.mem_append, List.mem_map, List.mem_singleton] at hv
      rcases hv with ⟨a, ha, rfl⟩ | rfl
      · have := hA.mem g hgG a ha
        rw [hg, htot] at this
        exact this.2
      · rw [htot] at p2; exact ⟨p1, p2⟩
    · rintro e w' ⟨⟨h', ga', gc', q, rfl, hGI, hq, hS⟩, hF⟩
      have hlen : (G.eraseIdx i).length = G.length - 1 := by rw [List.length_eraseIdx, if_pos (List.getElem?_eq_some_iff.1 hi).1]
      refine ⟨ga', gc', h', 2, k.ref, some ⟨q, 0, none⟩, tot, tot, by rw [hlen], ?_, hF, rfl, rfl, q, rfl, htot.symm, rfl, ?_⟩
      · rw [ChangeMaps.map_eraseIdx, ChangeMaps.map_eraseIdx, ← hkt]
        exact hGI
      · have e1 : ((g.con sc).1 ++ [p]).zip ((g.con sc).2 ++ [(s : Int)]) = (g.ix ++ [s]).map fun b => (pnOf sc b, (b : Int)) := by
          have e2 : (g.con sc).1 ++ [p] = (g.ix ++ [s]).map (pnOf sc) := by rw [hp]; simp [JG.con, cont, pnOf]
          have e3 : (g.con sc).2 ++ [(s : Int)] = (g.ix ++ [s]).map fun (b : Nat) => (b : Int) := by simp [JG.con, cont]
          rw [e2, e3, List.zip_map']
        rw [e1] at hS
        exact hS
  · skip
    obtain ⟨ko, hp, p1, p2⟩ := key_ok hok hb hk
    refine (step_new B ga G.length gc l _ held s (sc s) ea (sc s).els.length ec k p W hl hGl hs hBW hGW rfl hel hE hk (fun z hz e => ?_) hnt).mono ?_
    · obtain ⟨i, hi⟩ := List.mem_iff_getElem?.1 hz
      obtain ⟨g2, h1, h2⟩ := touch_back hkt hi
      exact hnew g2 (List.mem_of_getElem? h1) (h2.symm.trans e)
    · rintro e w' ⟨⟨h', ga', gc', rfl, hGI⟩, hF⟩
      refine ⟨ga', gc', h', 0, 0, none, 0, 0, by simp, ?_, hF, rfl, rfl, rfl, rfl, rfl⟩
      rw [List.map_append, List.map_append, ← hkt]
      have e1 : [g'].map JG.touch = [(k, (s : Int))] := by simp [JG.touch, hgk, hix]
      have e2 : [g'].map (JG.con sc) = [([p], [(s : Int)])] := by simp [JG.con, cont, hix, hp, pnOf]
      rw [e1, e2]
      exact hGI
  · skip
    obtain ⟨ko, hp, p1, p2⟩ := key_ok hok hb hk
    refine (step_new1 B ga G.length gc l _ held s (sc s) ea (sc s).els.length ec k p W hl hGl hs hBW hGW rfl hel hE hk (fun z hz e => ?_) hnt.symm ⟨p1, by rw [hnt]; exact p2⟩).mono ?_
    · obtain ⟨i, hi⟩ := List.mem_iff_getElem?.1 hz
      obtain ⟨g2, h1, h2⟩ := touch_back hkt hi
      exact hnew g2 (List.mem_of_getElem? h1) (h2.symm.trans e)
    · rintro e w' ⟨⟨h', ga', gc', q, tot, rfl, htt, hGI, hq, hS⟩, hF⟩
      refine ⟨ga', gc', h', 2, k.ref, some ⟨q, 0, none⟩, tot, tot, rfl, by rw [← hkt]; exact hGI, hF, rfl, rfl, q, rfl, by rw [htt, ← hnt]; rfl, rfl, ?_⟩
      have e1 : [s].map (fun b => (pnOf sc b, (b : Int))) = [(p, (s : Int))] := by simp [hp, pnOf]
      rw [e1]
      exact hS

end Go.Proofs.Qxb6616208a
