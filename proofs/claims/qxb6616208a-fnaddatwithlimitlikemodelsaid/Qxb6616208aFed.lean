/-
  Behind the feed: what ZZtakeAll hands out agrees with the law's groups.
-/
import Derived.Test.Qxb6616208aSvs
namespace Go.Proofs.Qxb6616208a
open Go.RowKit
set_option linter.unusedVariables false
set_option linter.unusedSimpArgs false

/-- the script as a function -/
def scF (l : List Pd) (i : Nat) : Pd := (l[i]?).getD ⟨ByteArray.empty, 0, 0, 0, ByteArray.empty, 0, 0, ByteArray.empty, []⟩
theorem scF_at {l : List Pd} (i : Nat) (x : Pd) (h : l[i]? = some x) : scF l i = x := by simp [scF, h]

/-- a new joiner holds nothing -/
theorem ji_fresh (w : World) (pb : Nat → Nat) (lim : Int) : JI (w.alloc (.cells #[.map none, .int .i64 0, .int .i64 lim, .int .i64 0, .pointer none, .pointer none] 60)) w.heap.size w.heap.size lim (fun _ => False) pb 0 none [] := by
  have h : (w.alloc (.cells #[.map none, .int .i64 0, .int .i64 lim, .int .i64 0, .pointer none, .pointer none] 60)).heap[w.heap.size]? = some (jrow none 0 lim 0 none none) := heap_alloc_new _ _
  exact ⟨⟨⟨_, _, _, _, _, _, h, PtrIn.none _, PtrIn.none _⟩, fun m hm => hm.elim⟩, ⟨_, _, _, h⟩, Nat.le_refl _, fun m hm => hm.elim, Or.inl ⟨rfl, rfl⟩, fun g hg => (by cases hg), fun i i' g g' _ hg => (by simp at hg)⟩

section
variable {w0 w : World} {j : Nat} {lim : Int} {sa : Option Addr} {n pg : Nat} {l : List Pd} {sc : Nat → Pd} {pb : Nat → Nat} {G : List JG} {ga : Option Addr} {gc : Nat}

theorem tok_of (hB : FBase w0 sa n pg l sc pb) (hb : Below w0.heap.size w0 w) (hA : AI sc G n) : TOk w w0.heap.size pb (elsOf sc) G := fun g hg =>
  ⟨hA.lt g hg, hA.small g hg, fun a ha => ⟨hB.good hb (hA.mem g hg a ha).1, (hA.mem g hg a ha).2⟩⟩

/-- the groups of the law, as they are read -/
theorem gi_view (h : GI w w0.heap.size ga gc (G.map JG.touch) (G.map (JG.con sc))) : ∃ lg : List GR, RowV w ga lg ∧ lg.length = G.length ∧ ∀ (i : Nat) (x : GR) (g : JG), lg[i]? = some x → G[i]? = some g → GV w sc x g := by
  obtain ⟨lg, hW, hk⟩ := h
  exact ⟨lg, hW.row.view, by have := congrArg List.length hk; simpa using this, fun i x g hx hg => gv_of hW hk hx hg⟩

theorem GI.fr (h : GI w w0.heap.size ga gc (G.map JG.touch) (G.map (JG.con sc))) {w' : World} {B : Nat} (hf : Fr isJ B w w') : GI w' w0.heap.size ga gc (G.map JG.touch) (G.map (JG.con sc)) := by
  obtain ⟨lg, hW, hk⟩ := h
  exact ⟨lg, hW.keep fun k o e hg => hf.keep e (isG_not_isJ hg), hk⟩

theorem ai_bounds {F : List JG} (hA : AI sc G n) (hF : ∀ g ∈ F, g ∈ G) : ∀ g ∈ F, (g.ix.length : Int) < g.key.tot ∧ g.key.tot < 256 ∧ ∀ a ∈ g.ix, a < n ∧ 1 ≤ pnOf sc a ∧ pnOf sc a ≤ g.key.tot := fun g hg =>
  ⟨hA.lt g (hF g hg), hA.small g (hF g hg), fun a ha => hA.mem g (hF g hg) a ha⟩

/-- ZZtakeAll behind the feed -/
theorem fed_all (hB : FBase w0 sa n pg l sc pb) (hn : n ≤ 4096) {M : Nat → Prop} {seq : Int} {pend : Option Nat} (hJ : JI w w0.heap.size j lim M pb seq pend G) (hs : 0 ≤ seq ∧ seq ≤ n) (hSO : SO G seq) (hG : GI w w0.heap.size ga gc (G.map JG.touch) (G.map (JG.con sc))) (hA : AI sc G n) (hb : Below w0.heap.size w0 w) :
    Calls Try.prog 22 #[.pointer (some ⟨j, 0, none⟩)] w fun e w' => ∃ ma mc, e = .returned (.slice ma G.length mc) ∧ SVs w' ma ga pg n G.length ∧ Out w' pb (elsOf sc) M ma G ∧ JI w' w0.heap.size j lim M pb seq pend [] ∧ Below w0.heap.size w0 w' := by
  have hGl : G.length ≤ n := hA.len
  refine (takeAll_any w0.heap.size j lim M pb (elsOf sc) seq pend G w hJ hSO (by omega) hb.size (tok_of hB hb hA) (by omega)).mono ?_
  rintro e w' ⟨ma, mc, rfl, hO, hJ', hF⟩
  have hb' : Below w0.heap.size w0 w' := hb.trans (hF.below hb.size)
  obtain ⟨lg, h1, h2, h3⟩ := gi_view (hG.fr hF)
  exact ⟨ma, mc, rfl, svs_of h1 h2 h3 hO (ai_bounds hA fun g hg => hg) (fun W hW a ha => hB.ptr (hb'.trans (hW.mono hb'.size)) ha), hO, hJ', hb'⟩

/-- ZZtakeAll once more: nothing -/
theorem fed_none {M : Nat → Prop} {seq : Int} {pend : Option Nat} (hJ : JI w w0.heap.size j lim M pb seq pend []) (hs : seq ≤ 65536) (hb : Below w0.heap.size w0 w) :
    Calls Try.prog 22 #[.pointer (some ⟨j, 0, none⟩)] w fun e w' => ∃ ma mc, e = .returned (.slice ma 0 mc) ∧ Below w0.heap.size w0 w' := by
  refine (takeAll_any w0.heap.size j lim M pb (fun _ => []) seq pend [] w hJ (SO.nil _) hs hb.size (fun g hg => by cases hg) (by simp)).mono ?_
  rintro e w' ⟨ma, mc, rfl, hO, hJ', hF⟩
  exact ⟨ma, mc, rfl, hb.trans (hF.below hb.size)⟩
end

end Go.Proofs.Qxb6616208a
