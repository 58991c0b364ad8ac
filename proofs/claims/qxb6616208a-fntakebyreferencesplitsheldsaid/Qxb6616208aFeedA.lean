/-
  zzCheck (31) says true of what the two hand out.
-/
import Derived.Test.Qxb6616208aRel
namespace Go.Proofs.Qxb6616208a
open Go.RowKit
set_option linter.unusedVariables false
set_option linter.unusedSimpArgs false

theorem check_any (sc : Nat → Pd) (pb : Nat → Nat) (s n pg pc : Nat) (got : Option Addr) (kind ref : Int) (sa : Option Addr) (sn so : Nat) (res : Res) (w : World) (hs : s < n) (hn : n ≤ 4096) (hpg : ∀ a, a < n → w.cell? ⟨pg, a, none⟩ = some (.pointer (some ⟨pb a, 0, none⟩)))
    (hR : RMsg w pb (elsOf sc) s got res) (hO : ROut w (pnOf sc) kind ref sa sn so res) (hW : ∀ key ix, res = .msg key ix → Whole (pnOf sc) (s + 1) key ix) :
    Calls Try.prog 31 #[.pointer got, .agg #[.int .i64 kind, .int .i64 ref, .slice sa sn so], .slice (some ⟨pg, 0, none⟩) n pc, .int .i64 (s : Nat)] w fun e w' => e = .returned (.bool true) ∧ Below w.heap.size w w' := by
  rcases res with _ | _ | ⟨key, ix⟩
  · skip
    obtain ⟨rfl, rfl, rfl, rfl, rfl⟩ := hO
    have hR' : got = none := hR
    subst hR'
    exact check0_any _ _ _ _ _ _ _
  · skip
    obtain ⟨rfl, rfl, rfl, rfl, rfl⟩ := hO
    obtain ⟨r, q, rfl, h1, h2⟩ := hR
    exact check1_any r q 1 pg n pc s (pb s) 0 none 0 0 w hs (by omega) (cell_of_row _ _ _ _ _ _ h1) (cell_of_row _ _ _ _ _ _ h1) (cell_of_row _ _ _ _ _ _ h2) (hpg s hs)
  · skip
    obtain ⟨rfl, rfl, q, rfl, htot, rfl, hS⟩ := hO
    obtain ⟨g, rfl, hF, rfl, rfl⟩ := hR
    have W := hW _ _ rfl
    have W' : Whole (pnOf sc) n g.key g.ix := ⟨W.len, W.small, W.nd, W.rng, fun a ha => by have := W.lt a ha; omega⟩
    obtain ⟨o, nn, hrow⟩ := hF.row
    have htl : so = g.ix.length := by have := W.len; omega
    subst htl
    exact check2_any g.m g.q g.cap q g.ix.length pg n pc g.ix.length g.key.ref s w (by have := W.small; omega) (by omega) (cell_of_row _ _ _ _ _ _ hrow) (cell_of_row _ _ _ _ _ _ hrow) (agree_of (fun a => rfl) hF W' htot hS hpg)

/-- what was handed out stays over the law's own step -/
theorem RMsg.keep {w w' : World} {pb : Nat → Nat} {els : Nat → List El} {s : Nat} {got : Option Addr} {res : Res} (h : RMsg w pb els s got res) (hk : ∀ (k : Nat) (o : Obj), w.heap[k]? = some o → isJ o → w'.heap[k]? = some o) : RMsg w' pb els s got res := by
  rcases res with _ | _ | ⟨key, ix⟩
  · exact h
  · skip
    obtain ⟨r, q, e, h1, h2⟩ := h
    exact ⟨r, q, e, hk _ _ h1 (Or.inl ⟨_, _, Or.inr (Or.inl rfl)⟩), hk _ _ h2 (Or.inl ⟨_, _, Or.inr (Or.inr rfl)⟩)⟩
  · skip
    obtain ⟨g, e, ⟨⟨o, n, h1⟩, L', cur', h2, h3, h4, h5⟩, e1, e2⟩ := h
    exact ⟨g, e, ⟨⟨o, n, hk _ _ h1 (Or.inl ⟨_, _, Or.inr (Or.inl rfl)⟩)⟩, L', cur', h2, h3, hk _ _ h4 (Or.inl ⟨_, _, Or.inr (Or.inr rfl)⟩), h5⟩, e1, e2⟩

theorem ROut.below {w w' : World} {pn : Nat → Int} {kind ref : Int} {sa : Option Addr} {sn so : Nat} {res : Res} (h : ROut w pn kind ref sa sn so res) (hk : ∀ (k : Nat) (c : Array Value), w.heap[k]? = some (.cells c 3 (0, 0)) → w'.heap[k]? = some (.cells c 3 (0, 0))) : ROut w' pn kind ref sa sn so res := by
  rcases res with _ | _ | ⟨key, ix⟩
  · exact h
  · exact h
  · skip
    obtain ⟨e1, e2, q, e3, e4, e5, cs, h1, h2⟩ := h
    exact ⟨e1, e2, q, e3, e4, e5, cs, hk _ _ h1, h2⟩

theorem isJ_not_isG {o : Obj} (h : isJ o) : ¬ isG o := by
  rintro ⟨c, fr, h2 | h2⟩
  · subst h2
    rcases h with ⟨c', fr', h | h | h⟩ | ⟨es, c', h⟩ <;> simp at h
  · subst h2
    rcases h with ⟨c', fr', h | h | h⟩ | ⟨es, c', h⟩ <;> simp at h
theorem isG_not_isJ {o : Obj} (h : isG o) : ¬ isJ o := fun h2 => isJ_not_isG h2 h

end Go.Proofs.Qxb6616208a
