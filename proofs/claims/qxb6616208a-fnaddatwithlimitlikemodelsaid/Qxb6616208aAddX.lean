/-
  AddAt (29), whole, at a limit.
-/
import Derived.Test.Qxb6616208aRelX
import Derived.Test.Qxb6616208aAddXA
import Derived.Test.Qxb6616208aAddXB
import Derived.Test.Qxb6616208aAddXC
import Derived.Test.Qxb6616208aAddXN
import Derived.Test.Qxb6616208aAddXM
namespace Go.Proofs.Qxb6616208a
open Go.RowKit
set_option linter.unusedVariables false
set_option linter.unusedSimpArgs false

def RMsgX (w : World) (pb : Nat → Nat) (els : Nat → List El) (s : Nat) (got : Option Addr) : ResX → Prop
  | none => got = none
  | some none => ∃ r q, got = some ⟨r, 0, none⟩ ∧ w.heap[r]? = some (mrow (.slice (some ⟨q, 0, none⟩) 1 1) 0 0 none none) ∧ w.heap[q]? = some (.cells #[.pointer (some ⟨pb s, 0, none⟩)] 32)
  | some (some (true, key, ix)) => ∃ g : JG, got = some ⟨g.m, 0, none⟩ ∧ Forgot w pb els g ∧ g.ix = ix ∧ g.key = key
  | some (some (false, key, ix)) => ∃ (g : JG) (M : Nat → Prop) (q : Nat), got = some ⟨g.m, 0, none⟩ ∧ Given w pb els M g q ∧ g.ix = ix ∧ g.key = key

theorem eok_of {sc : Nat → Pd} {G : List JG} {O : List Nat} {hd : Int} {s B : Nat} {w : World} {pb : Nat → Nat} (hA : AX sc G O hd (s + 1)) (hGood : ∀ a, a ≤ s → Good B w (pb a, elsOf sc a)) (hPA : ∀ a, a ≤ s → ∀ W, Below B w W → PAt W (pb a) (sc a)) {g : JG} (hg : g ∈ G) : EOk sc (elsOf sc) B w pb g :=
  ⟨hA.ai.ne g hg, hA.ai.lt g hg, hA.ai.small g hg, fun a ha => by
    obtain ⟨h1, h2, h3⟩ := hA.ai.mem g hg a ha
    exact ⟨hPA a (by omega), hA.key g hg a ha, hGood a (by omega), h2, h3⟩⟩

theorem add_x (sc : Nat → Pd) (lim : Int) (B j : Nat) (M : Nat → Prop) (pb : Nat → Nat) (seq : Int) (pend : Option Nat) (G : List JG) (O : List Nat) (hd : Int) (s : Nat) (w : World) (hBw : B ≤ w.heap.size) (hs : s ≤ 4096) (hlim : 1 ≤ lim) (hlu : lim ≤ 65536) (hle : hd ≤ lim) (hJ : JX w B j lim hd O M pb seq pend G) (hA : AX sc G O hd s) (hP : PAt w (pb s) (sc s)) (hok : (sc s).Ok) (hb : ∀ e ∈ (sc s).els, ∀ z ∈ e.2, 0 ≤ z ∧ z < 256)
    (hGood : ∀ a, a ≤ s → Good B w (pb a, elsOf sc a)) (hPA : ∀ a, a ≤ s → ∀ W, Below B w W → PAt W (pb a) (sc a)) (hseq : 0 ≤ seq ∧ seq ≤ s) (hSO : SO G seq) :
    Calls Try.prog 29 (addArgs j (pb s)) w fun e w' => ∃ M' seq' pend' G' O' hd' res got, e = .returned (.pointer got) ∧ RelX sc lim G O hd s G' O' hd' res ∧ JX w' B j lim hd' O' M' pb seq' pend' G' ∧ (0 ≤ seq' ∧ seq' ≤ (s : Int) + 1) ∧ SO G' seq' ∧ Fr isJ B w w' ∧ RMsgX w' pb (elsOf sc) s got res := by
  have h0 := hA.pos
  have hhd : 0 ≤ hd ∧ hd < 1000000 := ⟨h0, by omega⟩
  cases hk : (sc s).key with
  | none =>
    refine (add_alone j (pb s) (sc s) w hP hk).mono ?_
    rintro e w' ⟨r, q, rfl, _, _, h1, h2, hbw⟩
    exact ⟨M, seq, pend, G, O, hd, .alone, _, rfl, .alone hk, hJ.below hbw, by omega, hSO, Fr.of_below hbw, r, q, rfl, h1, h2⟩
  | some kp =>
    obtain ⟨k, p⟩ := kp
    obtain ⟨ko, hp, p1, p2⟩ := key_ok hok hb hk
    have hEO : ∀ g ∈ G, EOk sc (elsOf sc) B w pb g := fun g hg => eok_of (s := s) ⟨⟨hA.ai.ne, hA.ai.lt, hA.ai.small, fun g hg a ha => by have := hA.ai.mem g hg a ha; exact ⟨by omega, this.2⟩, hA.ai.nd, by have := hA.ai.len; omega⟩, hA.key, hA.oc, hA.dm, hA.od, hA.nd, hA.sum⟩ hGood hPA hg
    have hOc : ∀ x ∈ O, ∃ g ∈ G, g.m = x := fun x hx => (hA.oc x).1 hx
    by_cases hf : ∃ g ∈ G, g.key = k
    · obtain ⟨g, hgG, hg⟩ := hf
      obtain ⟨i, hi⟩ := List.mem_iff_getElem?.1 hgG
      have hl1 := hA.ai.lt g hgG
      have hl2 := hA.ai.small g hgG
      have hlen : g.ix.length ≤ 4096 := by omega
      have hGd : ∀ a ∈ g.ix, Good B w (pb a, elsOf sc a) := fun a ha => hGood a (by have := (hA.ai.mem g hgG a ha).1; omega)
      cases hh : hasI (g.ix.map (pnOf sc)) p with
      | true =>
        refine (add_dup_x B j (pb s) lim hd O M pb (elsOf sc) seq pend G (sc s) k p s w hBw hJ hP hk rfl ko i g hi hg hlen hGd (by rw [hasP_eq]; exact hh)).mono ?_
        rintro e w' ⟨rfl, hJ', hbw⟩
        exact ⟨M, seq, pend, G, O, hd, .nil, _, rfl, .dup i g k p hk hi hg hh, hJ', by omega, hSO, Fr.of_below hbw, rfl⟩
      | false =>
        by_cases hnt : (g.ix.length : Int) + 1 = k.tot
        · refine (add_full_x B j (pb s) lim hd O M pb (elsOf sc) seq pend G (sc s) k p s w hBw hJ hP hk rfl ko i g hi hg hlen hGd (hGood s (Nat.le_refl _)) (by rw [hasP_eq]; exact hh) hnt hhd).mono ?_
          rintro e w' ⟨rfl, ⟨q5, c5, hJ', hF⟩, hFr⟩
          exact ⟨M, seq, pend, G.eraseIdx i, O.erase g.m, _, .msg k (g.ix ++ [s]), _, rfl, .full i g k p hk hi hg hh hnt, hJ', by omega, hSO.erase i, hFr, { g with q := q5, cap := c5, ix := g.ix ++ [s] }, rfl, hF, rfl, hg⟩
        · have mid : ∀ q c, Mid sc G O s (G.set i { g with q := q, cap := c, ix := g.ix ++ [s] }) (O.erase g.m ++ [g.m]) := fun q c => .add i g k p q c hk hi hg hh hnt
          refine (add_add_x sc B j (pb s) lim hd O M pb (elsOf sc) seq pend G (sc s) k p s w hBw hJ hP hk rfl ko i g hi hg hlen hGd (by rw [hasP_eq]; exact hh) hnt hlim hhd hOc hEO (fun q c => eok_of (hA.mid hok hb (mid q c)) hGood hPA (List.mem_of_getElem? (set_at hi)))).mono ?_
          rintro e w' ⟨got, rfl, ⟨q5, c5, hAO⟩, hFr⟩
          rcases hAO with ⟨hl, rfl, hJ'⟩ | ⟨hl, i2, g2, q2, hi2, ho, rfl, hJ', hGv⟩
          · exact ⟨M, seq, pend, _, _, _, .nil, _, rfl, .keep _ _ (mid q5 c5) hl, hJ', by omega, hSO.set hi _ _ _, hFr, rfl⟩
          · exact ⟨M, seq, pend, _, _, _, .part g2.key g2.ix, _, rfl, .evict _ _ i2 g2 (mid q5 c5) hl hi2 ho, hJ', by omega, (hSO.set hi _ _ _).erase i2, hFr, g2, M, q2, rfl, hGv, rfl, rfl⟩
    · have hnew : ∀ g ∈ G, g.key ≠ k := fun g hg e => hf ⟨g, hg, e⟩
      by_cases hnt : (1 : Int) = k.tot
      · refine (add_new1_x B j (pb s) lim hd O M pb (elsOf sc) seq pend G (sc s) k p s w hBw hJ hP hk rfl ko hnew (by omega) (hGood s (Nat.le_refl _)) hnt hhd).mono ?_
        rintro e w' ⟨M', mb, g', rfl, hJ', hgk, hix, hF, hFr⟩
        exact ⟨M', _, _, G, O, hd, .msg k [s], _, rfl, .new1 k p hk hnew hnt, hJ', by omega, hSO.up (by omega), hFr, g', rfl, hF, hix, hgk⟩
      · have hEn : ∀ g' : JG, g'.key = k → g'.ix = [s] → EOk sc (elsOf sc) B w pb g' := fun g' e1 e2 => by
          have ht := ko.tot
          refine ⟨by rw [e2]; simp, by rw [e2, e1]; simp; omega, by rw [e1]; exact ht.2, fun a ha => ?_⟩
          rw [e2] at ha
          simp at ha
          subst ha
          refine ⟨hPA a (Nat.le_refl _), ⟨p, by rw [hk, e1]⟩, hGood a (Nat.le_refl _), ?_, ?_⟩
          · show 1 ≤ pno (sc a).els
            rw [← hp]; exact p1
          · show pno (sc a).els ≤ _
            rw [← hp, e1]; exact p2
        refine (add_new_x sc B j (pb s) lim hd O M pb (elsOf sc) seq pend G (sc s) k p s w hBw hJ hP hk rfl ko hnew (by omega) hnt hlim hhd hOc hEO hEn).mono ?_
        rintro e w' ⟨got, rfl, ⟨M', mb, g', hAO, hgk, hix, hsq, hmO⟩, hFr⟩
        have mid : Mid sc G O s (G ++ [g']) (O ++ [g'.m]) := .new k p g' hk hnew hnt hgk hix hmO
        rcases hAO with ⟨hl, rfl, hJ'⟩ | ⟨hl, i2, g2, q2, hi2, ho, rfl, hJ', hGv⟩
        · exact ⟨M', _, _, _, _, _, .nil, _, rfl, .keep _ _ mid hl, hJ', by omega, hSO.snoc hseq.1 g' hsq, hFr, rfl⟩
        · exact ⟨M', _, _, _, _, _, .part g2.key g2.ix, _, rfl, .evict _ _ i2 g2 mid hl hi2 ho, hJ', by omega, (hSO.snoc hseq.1 g' hsq).erase i2, hFr, g2, M', q2, rfl, hGv, rfl, rfl⟩

end Go.Proofs.Qxb6616208a
