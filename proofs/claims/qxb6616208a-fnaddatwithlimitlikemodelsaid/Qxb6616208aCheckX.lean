/-
  zzCheck (31) says true of what the two hand out at a limit.
-/
import Derived.Test.Qxb6616208aFed
import Derived.Test.Qxb6616208aAddX
import Derived.Test.Qxb6616208aStepX
namespace Go.Proofs.Qxb6616208a
open Go.RowKit
set_option linter.unusedVariables false
set_option linter.unusedSimpArgs false

set_option maxHeartbeats 2000000 in
theorem check2p_any (r q cap sq sc pg n pc tot : Nat) (ref s : Int) (w : World) (ht : tot ≤ 1048576) (hn : n ≤ 1048576) (c0 : w.cell? ⟨r, 0, none⟩ = some (.slice (some ⟨q, 0, none⟩) tot cap)) (c1 : w.cell? ⟨r, 1, none⟩ = some (.int .i64 ref)) (hA : Hid (Agree2 w q sq pg tot n)) :
    Calls Try.prog 31 #[.pointer (some ⟨r, 0, none⟩), .agg #[.int .i64 2, .int .i64 ref, .slice (some ⟨sq, 0, none⟩) tot sc], .slice (some ⟨pg, 0, none⟩) n pc, .int .i64 s] w fun e w' => e = .returned (.bool true) ∧ Below w.heap.size w w' := by
  have hl : ∀ {b : Nat} {o : Nat} {v : Value} (ob : Obj), w.cell? ⟨b, o, none⟩ = some v → (w.alloc ob).cell? ⟨b, o, none⟩ = some v := fun ob h => (World.cell?_alloc_lt _ _ _ (by exact World.block_lt_of_cell? _ _ h)).trans h
  have HC : Hid (∀ ob, Calls Try.prog 34 #[.pointer (some ⟨r, 0, none⟩), .int .i64 ref, .slice (some ⟨sq, 0, none⟩) tot sc, .slice (some ⟨pg, 0, none⟩) n pc] (w.alloc ob) fun e w' => e = .returned (.bool true) ∧ Below w.heap.size w w') := fun ob =>
    (zzSame2_any r q cap sq sc pg n pc tot ref (w.alloc ob) ht hn (hl ob c0) (hl ob c1) (fun i hi => by
      rcases hA.out i hi with ⟨a, p, h1, h2, h3, h4⟩ | ⟨h1, h2⟩
      · exact Or.inl ⟨a, p, h1, hl ob h2, hl ob h3, hl ob h4⟩
      · exact Or.inr ⟨hl ob h1, hl ob h2⟩)).mono fun e w' h => ⟨h.1, ((Below.refl _ _).alloc (Nat.le_refl _) _).trans (h.2.mono (by simp))⟩
  clear hl hA c0 c1
  go_enter Try.func31, Try.ntmps31
  go_wp2_with fail
  refine (HC.out _).mono ?_
  rintro e w' ⟨rfl, hb⟩
  clear HC
  go_wp2
  go_ret
  exact ⟨rfl, hb⟩

/-- what a message handed out must be -/
def WX (sc : Nat → Pd) (n : Nat) : ResX → Prop
  | none => True
  | some none => True
  | some (some (true, key, ix)) => Whole (pnOf sc) n key ix
  | some (some (false, key, ix)) => key.tot < 256 ∧ ∀ a ∈ ix, a < n

theorem agree2_of {w : World} {sc : Nat → Pd} {pb : Nat → Nat} {M : Nat → Prop} {g : JG} {q sq pg tot n : Nat} (hN : NRow w q tot (slotP (partsL pb (elsOf sc) g.ix))) (hS : SRow w sq tot (slotF (g.ix.map fun b => (pnOf sc b, (b : Int))))) (hlt : ∀ a ∈ g.ix, a < n) (hpg : ∀ a, a < n → w.cell? ⟨pg, a, none⟩ = some (.pointer (some ⟨pb a, 0, none⟩))) : Agree2 w q sq pg tot n := by
  intro i hi
  have h1 := hN.cell hi
  have h2 := hS.cell hi
  rcases slot_two sc pb g.ix i with ⟨a, ha, s1, s2⟩ | ⟨s1, s2⟩
  · refine Or.inl ⟨a, pb a, hlt a ha, ?_, ?_, hpg a (hlt a ha)⟩
    · rw [h2, s1]
    · rw [h1, s2]; rfl
  · refine Or.inr ⟨?_, ?_⟩
    · rw [h2, s1]
    · rw [h1, s2]; rfl

theorem check_x (sc : Nat → Pd) (pb : Nat → Nat) (s n pg pc : Nat) (got : Option Addr) (kind ref : Int) (sa : Option Addr) (sn so : Nat) (res : ResX) (w : World) (hs : s < n) (hn : n ≤ 4096) (hpg : ∀ a, a < n → w.cell? ⟨pg, a, none⟩ = some (.pointer (some ⟨pb a, 0, none⟩)))
    (hR : RMsgX w pb (elsOf sc) s got res) (hO : ROutX w (pnOf sc) kind ref sa sn so res) (hW : WX sc (s + 1) res) :
    Calls Try.prog 31 #[.pointer got, .agg #[.int .i64 kind, .int .i64 ref, .slice sa sn so], .slice (some ⟨pg, 0, none⟩) n pc, .int .i64 (s : Nat)] w fun e w' => e = .returned (.bool true) ∧ Below w.heap.size w w' := by
  rcases res with _ | _ | ⟨_ | _, key, ix⟩
  · skip
    obtain ⟨rfl, rfl, rfl, rfl, rfl⟩ := hO
    have hR' : got = none := hR
    subst hR'
    exact check0_any _ _ _ _ _ _ _
  · skip
    obtain ⟨rfl, rfl, rfl, rfl, rfl⟩ := hO
    obtain ⟨r, q, rfl, h1, h2⟩ := hR
    exact check1_any r q 1 pg n pc s (pb s) 0 none 0 0 w hs (by omega) (cell_of_row _ _ _ _ _ _ h1) (cell_of_row _ _ _ _ _ _ h1) (cell_of_row _ _ _ _ _ _ h2) (hpg s hs)
  · skip
    obtain ⟨rfl, rfl, q, rfl, htot, rfl, hS⟩ := hO
    obtain ⟨g, M, q2, rfl, hG, rfl, rfl⟩ := hR
    obtain ⟨h1, h2⟩ : g.key.tot < 256 ∧ ∀ a ∈ g.ix, a < s + 1 := hW
    obtain ⟨tot, o, nn, e1, e2, hN⟩ := hG.row
    have hts : tot = so := by omega
    subst hts
    exact check2p_any g.m q2 tot q tot pg n pc tot g.key.ref s w (by omega) (by omega) (cell_of_row _ _ _ _ _ _ e2) (cell_of_row _ _ _ _ _ _ e2) (agree2_of (M := M) hN hS (fun a ha => by have := h2 a ha; omega) hpg)
  · skip
    obtain ⟨rfl, rfl, q, rfl, htot, rfl, hS⟩ := hO
    obtain ⟨g, rfl, hF, rfl, rfl⟩ := hR
    have W : Whole (pnOf sc) (s + 1) g.key g.ix := hW
    have W' : Whole (pnOf sc) n g.key g.ix := ⟨W.len, W.small, W.nd, W.rng, fun a ha => by have := W.lt a ha; omega⟩
    obtain ⟨o, nn, hrow⟩ := hF.row
    have htl : so = g.ix.length := by have := W.len; omega
    subst htl
    exact check2_any g.m g.q g.cap q g.ix.length pg n pc g.ix.length g.key.ref s w (by have := W.small; omega) (by omega) (cell_of_row _ _ _ _ _ _ hrow) (cell_of_row _ _ _ _ _ _ hrow) (agree_of (fun a => rfl) hF W' htot hS hpg)

theorem RMsgX.keep {w w' : World} {pb : Nat → Nat} {els : Nat → List El} {s : Nat} {got : Option Addr} {res : ResX} (h : RMsgX w pb els s got res) (hk : ∀ (k : Nat) (o : Obj), w.heap[k]? = some o → isJ o → w'.heap[k]? = some o) : RMsgX w' pb els s got res := by
  rcases res with _ | _ | ⟨_ | _, key, ix⟩
  · exact h
  · skip
    obtain ⟨r, q, e, h1, h2⟩ := h
    exact ⟨r, q, e, hk _ _ h1 (Or.inl ⟨_, _, Or.inr (Or.inl rfl)⟩), hk _ _ h2 (Or.inl ⟨_, _, Or.inr (Or.inr rfl)⟩)⟩
  · skip
    obtain ⟨g, M, q, e, ⟨hM, tot, o, n, h1, h2, cs, h3, h4⟩, e1, e2⟩ := h
    exact ⟨g, M, q, e, ⟨hM, tot, o, n, h1, hk _ _ h2 (Or.inl ⟨_, _, Or.inr (Or.inl rfl)⟩), cs, hk _ _ h3 (Or.inl ⟨_, _, Or.inr (Or.inr rfl)⟩), h4⟩, e1, e2⟩
  · skip
    obtain ⟨g, e, ⟨⟨o, n, h1⟩, L', cur', h2, h3, h4, h5⟩, e1, e2⟩ := h
    exact ⟨g, e, ⟨⟨o, n, hk _ _ h1 (Or.inl ⟨_, _, Or.inr (Or.inl rfl)⟩)⟩, L', cur', h2, h3, hk _ _ h4 (Or.inl ⟨_, _, Or.inr (Or.inr rfl)⟩), h5⟩, e1, e2⟩

theorem ROutX.below {w w' : World} {pn : Nat → Int} {kind ref : Int} {sa : Option Addr} {sn so : Nat} {res : ResX} (h : ROutX w pn kind ref sa sn so res) (hk : ∀ (k : Nat) (c : Array Value), w.heap[k]? = some (.cells c 3 (0, 0)) → w'.heap[k]? = some (.cells c 3 (0, 0))) : ROutX w' pn kind ref sa sn so res := by
  rcases res with _ | _ | ⟨_ | _, key, ix⟩
  · exact h
  · exact h
  · skip
    obtain ⟨e1, e2, q, e3, e4, e5, cs, h1, h2⟩ := h
    exact ⟨e1, e2, q, e3, e4, e5, cs, hk _ _ h1, h2⟩
  · skip
    obtain ⟨e1, e2, q, e3, e4, e5, cs, h1, h2⟩ := h
    exact ⟨e1, e2, q, e3, e4, e5, cs, hk _ _ h1, h2⟩

theorem RelX.wx {sc : Nat → Pd} {lim : Int} {G G' : List JG} {O O' : List Nat} {hd hd' : Int} {s : Nat} {res : ResX} (h : AX sc G O hd s) (hok : (sc s).Ok) (hb : ∀ e ∈ (sc s).els, ∀ z ∈ e.2, 0 ≤ z ∧ z < 256) (R : RelX sc lim G O hd s G' O' hd' res) : WX sc (s + 1) res := by
  rcases R with ⟨hk, rfl, rfl, rfl, rfl⟩ | ⟨i, g, k, p, hk, hi, hg, hh, rfl, rfl, rfl, rfl⟩ | ⟨i, g, k, p, hk, hi, hg, hh, hnt, rfl, rfl, rfl, rfl⟩ | ⟨k, p, hk, hnew, hnt, rfl, rfl, rfl, rfl⟩ | ⟨G1, O1, M, hl, rfl, rfl, rfl, rfl⟩ | ⟨G1, O1, i2, g2, M, hl, hi, h0, rfl, rfl, rfl, rfl⟩
  · trivial
  · trivial
  · exact Rel.whole h.ai hok hb (.full i g k p hk hi hg hh hnt)
  · exact Rel.whole h.ai hok hb (.new1 k p hk hnew hnt)
  · trivial
  · skip
    have hm := h.mid hok hb M
    have hg := List.mem_of_getElem? hi
    exact ⟨hm.ai.small g2 hg, fun a ha => (hm.ai.mem g2 hg a ha).1⟩

end Go.Proofs.Qxb6616208a
