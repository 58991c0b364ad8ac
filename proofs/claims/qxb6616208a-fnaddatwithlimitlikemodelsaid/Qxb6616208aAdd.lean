/-
  AddAt (29), whole, at limit 0.
-/
import Derived.Test.Qxb6616208aRel
import Derived.Test.Qxb6616208aAddC
import Derived.Test.Qxb6616208aAddM
namespace Go.Proofs.Qxb6616208a
open Go.RowKit
set_option linter.unusedVariables false
set_option linter.unusedSimpArgs false

theorem hasP_eq (sc : Nat → Pd) (pb : Nat → Nat) (ix : List Nat) (p : Int) : hasP (partsL pb (elsOf sc) ix) p = hasI (ix.map (pnOf sc)) p := by
  simp [hasP, hasI, partsL, List.any_map, Function.comp_def, pnOf, elsOf]

theorem add_any (sc : Nat → Pd) (B j : Nat) (M : Nat → Prop) (pb : Nat → Nat) (seq : Int) (pend : Option Nat) (G : List JG) (s : Nat) (w : World) (hBw : B ≤ w.heap.size) (hs : s ≤ 4096) (hJ : JI w B j 0 M pb seq pend G) (hA : AI sc G s) (hP : PAt w (pb s) (sc s)) (hok : (sc s).Ok) (hb : ∀ e ∈ (sc s).els, ∀ z ∈ e.2, 0 ≤ z ∧ z < 256)
    (hGood : ∀ a, a ≤ s → Good B w (pb a, elsOf sc a)) (hseq : 0 ≤ seq ∧ seq ≤ s) :
    Calls Try.prog 29 (addArgs j (pb s)) w fun e w' => ∃ M' seq' pend' G' res got, e = .returned (.pointer got) ∧ Rel sc G s G' res ∧ JI w' B j 0 M' pb seq' pend' G' ∧ (0 ≤ seq' ∧ seq' ≤ (s : Int) + 1) ∧ Fr isJ B w w' ∧ RMsg w' pb (elsOf sc) s got res := by
  cases hk : (sc s).key with
  | none =>
    refine (add_alone j (pb s) (sc s) w hP hk).mono ?_
    rintro e w' ⟨r, q, rfl, _, _, h1, h2, hbw⟩
    exact ⟨M, seq, pend, G, .alone, _, rfl, .alone hk, hJ.below hbw, by omega, Fr.of_below hbw, r, q, rfl, h1, h2⟩
  | some kp =>
    obtain ⟨k, p⟩ := kp
    obtain ⟨ko, hp, p1, p2⟩ := key_ok hok hb hk
    by_cases hf : ∃ g ∈ G, g.key = k
    · obtain ⟨g, hgG, hg⟩ := hf
      obtain ⟨i, hi⟩ := List.mem_iff_getElem?.1 hgG
      have hl1 := hA.lt g hgG
      have hl2 := hA.small g hgG
      have hlen : g.ix.length ≤ 4096 := by omega
      have hGd : ∀ a ∈ g.ix, Good B w (pb a, elsOf sc a) := fun a ha => hGood a (by have := (hA.mem g hgG a ha).1; omega)
      cases hh : hasI (g.ix.map (pnOf sc)) p with
      | true =>
        refine (add_dup B j (pb s) M pb (elsOf sc) seq pend G (sc s) k p s w hBw hJ hP hk rfl ko i g hi hg hlen hGd (by rw [hasP_eq]; exact hh)).mono ?_
        rintro e w' ⟨rfl, hJ', hbw⟩
        exact ⟨M, seq, pend, G, .nil, _, rfl, .dup i g k p hk hi hg hh, hJ', by omega, Fr.of_below hbw, rfl⟩
      | false =>
        by_cases hnt : (g.ix.length : Int) + 1 = k.tot
        · refine (add_full B j (pb s) M pb (elsOf sc) seq pend G (sc s) k p s w hBw hJ hP hk rfl ko i g hi hg hlen hGd (hGood s (Nat.le_refl _)) (by rw [hasP_eq]; exact hh) hnt).mono ?_
          rintro e w' ⟨rfl, ⟨q5, c5, hJ', hF⟩, hFr⟩
          exact ⟨M, seq, pend, G.eraseIdx i, .msg k (g.ix ++ [s]), _, rfl, .full i g k p hk hi hg hh hnt, hJ', by omega, hFr, { g with q := q5, cap := c5, ix := g.ix ++ [s] }, rfl, hF, rfl, hg⟩
        · refine (add_add B j (pb s) M pb (elsOf sc) seq pend G (sc s) k p s w hBw hJ hP hk rfl ko i g hi hg hlen hGd (by rw [hasP_eq]; exact hh) hnt).mono ?_
          rintro e w' ⟨rfl, ⟨q5, c5, hJ'⟩, hFr⟩
          exact ⟨M, seq, pend, _, .nil, _, rfl, .add i g k p q5 c5 hk hi hg hh hnt, hJ', by omega, hFr, rfl⟩
    · have hnew : ∀ g ∈ G, g.key ≠ k := fun g hg e => hf ⟨g, hg, e⟩
      by_cases hnt : (1 : Int) = k.tot
      · refine (add_new1 B j (pb s) M pb (elsOf sc) seq pend G (sc s) k p s w hBw hJ hP hk rfl ko hnew (by omega) (hGood s (Nat.le_refl _)) hnt).mono ?_
        rintro e w' ⟨M', mb, g', rfl, hJ', hgk, hix, hF, hFr⟩
        exact ⟨M', _, _, G, .msg k [s], _, rfl, .new1 k p hk hnew hnt, hJ', by omega, hFr, g', rfl, hF, hix, hgk⟩
      · refine (add_new B j (pb s) M pb (elsOf sc) seq pend G (sc s) k p s w hBw hJ hP hk rfl ko hnew (by omega) hnt).mono ?_
        rintro e w' ⟨rfl, ⟨M', mb, g', hJ', hgk, hix, _⟩, hFr⟩
        exact ⟨M', _, _, _, .nil, _, rfl, .new k p g' hk hnew hnt hgk hix, hJ', by omega, hFr, rfl⟩

end Go.Proofs.Qxb6616208a
