/-
  zzStep (30) at a limit, the count exact: what is given up (no walk).
-/
import Derived.Test.Qxb6616208aStepM
namespace Go.Proofs.Qxb6616208a
open Go.RowKit
set_option linter.unusedVariables false
set_option linter.unusedSimpArgs false

theorem slots_at {w W : World} {B gc ev tot : Nat} {ga : Option Addr} {l : List GR} {D : List (List Int × List Int)} {y : GR} {d : List Int × List Int} (hG : GW w B ga gc l D) (hy : l[ev]? = some y) (hd : D[ev]? = some d) (hl3 : d.1.length = d.2.length) (hlen : d.1.length ≤ 4097) (htot : y.key.tot = tot) (ht : tot ≤ 255) (hr : ∀ q ∈ d.1, 1 ≤ q ∧ q ≤ tot) (hW : Below w.heap.size w W) :
    Calls Try.prog 35 #[.agg #[.int .i64 y.key.typ, .int .u8 y.key.ton, .int .u8 y.key.npi, .string y.key.num, .int .i64 y.key.ref, .int .i64 y.key.tot, .slice y.pa y.n y.pc, .slice y.ia y.m y.ic, .int .i64 y.t]] W
      fun e w' => ∃ q, e = .returned (.slice (some ⟨q, 0, none⟩) tot tot) ∧ W.heap.size ≤ q ∧ SRow w' q tot (slotF (d.1.zip d.2)) ∧ Below W.heap.size W w' := by
  have GWW := hG.below hW
  obtain ⟨n1, n2, op, oi⟩ := GWW.ok ev y d hy hd
  have e1 : (d.1.zip d.2).map (·.1) = d.1 := by rw [List.map_fst_zip]; omega
  have e2 : (d.1.zip d.2).map (·.2) = d.2 := by rw [List.map_snd_zip]; omega
  have em : y.m = y.n := by omega
  have h := zzSlots_any y.key y.t y.pa y.ia y.n y.pc y.ic tot (d.1.zip d.2) W htot (by omega) (by rw [List.length_zip]; omega) (by omega)
    (by show IRow _ _ _; rw [e1]; exact own_irow op) (by show IRow _ _ _; rw [e2]; exact own_irow oi) (fun v hv => hr v.1 (by rw [← e1]; exact List.mem_map_of_mem hv))
  rw [em]
  exact h

theorem remove_at {w W : World} {B gc ev n : Nat} {ga : Option Addr} {l : List GR} {D : List (List Int × List Int)} (hG : GW w B ga gc l D) (hl : l.length = n) (hn : n ≤ 4097) (hev : ev < n) (hW : Below w.heap.size w W) (hB : B ≤ w.heap.size) :
    Calls Try.prog 47 #[.slice ga n gc, .int .i64 (ev : Nat)] W fun e w' => ∃ ga' gc', e = .returned (.slice ga' (n - 1) gc') ∧ GI w' B ga' gc' ((l.map GR.kt).eraseIdx ev) (D.eraseIdx ev) ∧ Below w.heap.size w w' ∧ Below W.heap.size W w' := by
  have GWW := hG.below hW
  have hBW : B ≤ W.heap.size := Nat.le_trans hB hW.size
  refine (zzRemove_any B ga n gc ev l W hl (by omega) hev GWW.row).mono ?_
  rintro e w' ⟨ga', gc', rfl, row', hb'⟩
  have hl' : (l.eraseIdx ev).length = n - 1 := by rw [List.length_eraseIdx, hl, if_pos hev]
  exact ⟨ga', gc', by rw [hl'], ⟨_, GWW.erase ev hBW row' hb', ChangeMaps.map_eraseIdx _ _ _⟩, hW.trans (hb'.mono hW.size), hb'⟩

theorem ev_unique {l : List GR} {T : List (Key × Int)} (hT : l.map GR.kt = T) {ev ev' : Nat} {kE : Key} {tE : Int} (hE : T[ev]? = some (kE, tE)) (hmin : ∀ (i : Nat) (x : Key × Int), T[i]? = some x → i ≠ ev → tE < x.2) {z' : GR} (hz' : l[ev']? = some z') (hle : ∀ (i : Nat) (z : GR), l[i]? = some z → z'.t ≤ z.t) : ev' = ev ∧ z'.key = kE := by
  have h1 : T[ev']? = some z'.kt := by rw [← hT, List.getElem?_map, hz']; rfl
  have he : ev' = ev := by
    apply Decidable.byContradiction
    intro hne
    have h2 := hmin ev' _ h1 hne
    rw [← hT, List.getElem?_map, Option.map_eq_some_iff] at hE
    obtain ⟨z, hz, e⟩ := hE
    have h3 := hle ev z hz
    have h4 : z.t = tE := congrArg Prod.snd e
    simp only [GR.kt] at h2
    omega
  subst he
  rw [hE] at h1
  exact ⟨rfl, (congrArg Prod.fst (Option.some.inj h1)).symm⟩

end Go.Proofs.Qxb6616208a
