/-
  The law's groups in memory; zzRemove (47).
-/
import Derived.Test.Qxb6616208aZslots
import Derived.Maps.AppendAt
import Derived.Deep.MidRow
namespace Go.Proofs.Qxb6616208a
open Go.RowKit
set_option linter.unusedVariables false
set_option linter.unusedSimpArgs false

/-- a group as it lies in the row: the key, the two slices, the step -/
structure GR where
  key : Key
  n : Nat
  pa : Option Addr
  pc : Nat
  m : Nat
  ia : Option Addr
  ic : Nat
  t : Int

def GR.cells (g : GR) : List Value := [.int .i64 g.key.typ, .int .u8 g.key.ton, .int .u8 g.key.npi, .string g.key.num, .int .i64 g.key.ref, .int .i64 g.key.tot, .slice g.pa g.n g.pc, .slice g.ia g.m g.ic, .int .i64 g.t]

def flat (l : List GR) : List Value := l.flatMap GR.cells
theorem flat_append (a b : List GR) : flat (a ++ b) = flat a ++ flat b := by simp [flat]
theorem flat_one (a : GR) : flat [a] = a.cells := by simp [flat]
theorem flat_len (c : List GR) : (flat c).length = c.length * 9 := by
  induction c with
  | nil => rfl
  | cons x c ih => simp only [flat, List.flatMap_cons, List.length_append, List.length_cons] at *; rw [ih]; simp [GR.cells]; omega
theorem flat_get (c : List GR) (i j : Nat) (x : GR) (hx : c[i]? = some x) (hj : j < 9) : (flat c)[i * 9 + j]? = x.cells[j]? := by
  induction c generalizing i with
  | nil => simp at hx
  | cons y c ih =>
    have e : flat (y :: c) = y.cells ++ flat c := by simp [flat]
    rw [e]
    cases i with
    | zero =>
      simp at hx; subst hx
      rw [List.getElem?_append_left (by simp [GR.cells]; omega)]
      simp
    | succ i =>
      rw [List.getElem?_append_right (by simp [GR.cells]; omega)]
      rw [← ih i (by simpa using hx)]
      congr 1
      simp [GR.cells]; omega

/-- the row of groups -/
def GRow (w : World) (B : Nat) (ga : Option Addr) (gc : Nat) (l : List GR) : Prop := w.ownsRow B 76 9 (.slice ga l.length gc) l.length (flat l)

theorem GRow.at {w : World} {B : Nat} {ga : Option Addr} {gc : Nat} {l : List GR} (h : GRow w B ga gc l) {i : Nat} {x : GR} (hx : l[i]? = some x) :
    ∃ g, ga = some ⟨g, 0, none⟩ ∧ g < w.heap.size ∧ B ≤ g ∧ w.rangeAt g (i * 9) x.cells := by
  have hi : i < l.length := (List.getElem?_eq_some_iff.1 hx).1
  rcases h.2 with ⟨e, h0⟩ | ⟨g, cap, cur, e, hB, hg, _⟩
  · omega
  · simp only [Value.slice.injEq] at e
    obtain ⟨rfl, -, rfl⟩ := e
    refine ⟨g, rfl, (Array.getElem?_eq_some_iff.1 hg).1, hB, fun j v hv => ?_⟩
    have hj : j < 9 := by
      have := (List.getElem?_eq_some_iff.1 hv).1
      simpa [GR.cells] using this
    have hc := World.ownsRow.cells (g := g) h rfl (i * 9 + j) v (by rw [flat_get l i j x hx hj]; exact hv)
    have hadd : (⟨g, 0, none⟩ : Addr).add (i * 9 + j) = ⟨g, i * 9 + j, none⟩ := by unfold Addr.add; split <;> simp_all
    rwa [hadd] at hc

theorem grow_slice {w : World} {B e z n : Nat} {v : Value} {xs : List Value} (h : w.ownsRow B e z v n xs) : ∃ a c, v = .slice a n c := by
  rcases h.2 with ⟨rfl, rfl⟩ | ⟨g, cap, cur, rfl, _⟩
  · exact ⟨_, _, rfl⟩
  · exact ⟨_, _, rfl⟩

theorem Try.size76 : (Try.prog.info? 76).map (·.size) = some 9 := by kernel_rfl
theorem Try.under76 : ∃ fs, Try.prog.underlying 76 = some (.struct fs) := ⟨_, Try.underlying76⟩
theorem gr_one (g : GR) : ∀ u ∈ g.cells, u.oneCell' = true := by
  intro v hv
  simp only [GR.cells, List.mem_cons, List.not_mem_nil, or_false] at hv
  rcases hv with h | h | h | h | h | h | h | h | h <;> (subst h; rfl)

theorem Try.g76 : ∃ i z, Try.prog.info? 76 = some i ∧ i.zero = some z ∧ i.size = 9 ∧ i.bytes = 104 ∧ z.cells.size = 9 := by
  have h : (Try.prog.info? 76).map (fun i => (i.size, i.bytes, i.zero.map (·.cells.size))) = some (9, 104, some 9) := by kernel_rfl
  cases hq : Try.prog.info? 76 with
  | none => rw [hq] at h; cases h
  | some i =>
    rw [hq] at h
    simp only [Option.map_some, Option.some.injEq, Prod.mk.injEq] at h
    obtain ⟨h1, h2, h3⟩ := h
    cases hz : i.zero with
    | none => rw [hz] at h3; cases h3
    | some z => rw [hz] at h3; exact ⟨i, z, rfl, hz, h1, h2, by simpa using h3⟩

theorem erase_step {α : Type} {l : List α} {k at_ : Nat} {x : α} (h : l[k]? = some x) (ha : at_ < l.length) : (l.take (k + 1)).eraseIdx at_ = if k = at_ then (l.take k).eraseIdx at_ else (l.take k).eraseIdx at_ ++ [x] := by
  obtain ⟨hk, e⟩ := List.getElem?_eq_some_iff.1 h
  rw [List.take_succ_eq_append_getElem hk, e]
  have hl : (l.take k).length = k := by simp; omega
  by_cases h1 : k = at_
  · subst h1
    rw [if_pos rfl, List.eraseIdx_append_of_length_le (by omega), List.eraseIdx_of_length_le (by omega : (l.take k).length ≤ k), hl]
    simp
  · rw [if_neg h1]
    by_cases h2 : at_ < k
    · rw [List.eraseIdx_append_of_lt_length (by omega)]
    · rw [List.eraseIdx_append_of_length_le (by omega), hl, List.eraseIdx_of_length_le (by simp; omega), List.eraseIdx_of_length_le (by omega : (l.take k).length ≤ at_)]

/-- what was laid in a new block -/
theorem cells_new (w : World) (cs : List Value) (t : TypeId) : ∀ j u, cs[j]? = some u → (w.alloc (.cells cs.toArray t)).cell? ((⟨w.heap.size, 0, none⟩ : Addr).add j) = some u := by
  intro j u hj
  have hadd : (⟨w.heap.size, 0, none⟩ : Addr).add j = ⟨w.heap.size, j, none⟩ := by unfold Addr.add; split <;> simp_all
  rw [hadd, cell_of_row _ _ _ _ _ _ (heap_alloc_new w _)]
  simpa using hj

theorem GR.c {w : World} {g o : Nat} {x : GR} (h : w.rangeAt g o x.cells) :
    w.cell? ⟨g, o, none⟩ = some (.int .i64 x.key.typ) ∧ w.cell? ⟨g, o + 1, none⟩ = some (.int .u8 x.key.ton) ∧ w.cell? ⟨g, o + 2, none⟩ = some (.int .u8 x.key.npi) ∧ w.cell? ⟨g, o + 3, none⟩ = some (.string x.key.num) ∧ w.cell? ⟨g, o + 4, none⟩ = some (.int .i64 x.key.ref) ∧ w.cell? ⟨g, o + 5, none⟩ = some (.int .i64 x.key.tot) ∧
    w.cell? ⟨g, o + 6, none⟩ = some (.slice x.pa x.n x.pc) ∧ w.cell? ⟨g, o + 7, none⟩ = some (.slice x.ia x.m x.ic) ∧ w.cell? ⟨g, o + 8, none⟩ = some (.int .i64 x.t) :=
  ⟨h 0 _ rfl, h 1 _ rfl, h 2 _ rfl, h 3 _ rfl, h 4 _ rfl, h 5 _ rfl, h 6 _ rfl, h 7 _ rfl, h 8 _ rfl⟩

set_option maxHeartbeats 2000000 in
set_option maxRecDepth 100000 in
theorem zzRemove_any (B : Nat) (ga : Option Addr) (n gc at_ : Nat) (l : List GR) (w : World) (hn : l.length = n) (hl : n ≤ 65536) (hat : at_ < n) (hG : Hid (GRow w B ga gc l)) :
    Calls Try.prog 47 #[.slice ga n gc, .int .i64 at_] w
      fun e w' => ∃ ga' gc', e = .returned (.slice ga' (l.eraseIdx at_).length gc') ∧ GRow w' w.heap.size ga' gc' (l.eraseIdx at_) ∧ Below w.heap.size w w' := by
  have HN : Hid (l.length = n) := hn
  clear hn
  obtain ⟨i76, z76, hi76, hz76, hs76, hb76, hc76⟩ := Try.g76
  have H76 : Hid (Try.prog.info? 76 = some i76 ∧ i76.zero = some z76 ∧ i76.size = 9 ∧ i76.bytes = 104 ∧ z76.cells.size = 9) := ⟨hi76, hz76, hs76, hb76, hc76⟩
  obtain ⟨w1, hmk, own1, gr1⟩ := run_make_own (P := Try.prog) w w.heap.size 61 76 i76 z76 9 Try.underlying61 hi76 hz76 hs76 .i64 .i64 n (by rw [hb76]; omega) (by unfold maxLen; omega) (Nat.le_refl _)
  have hb1 : Below w.heap.size w w1 := ⟨gr1.os, gr1.tape, gr1.output, gr1.size, fun k hk => gr1.block k hk (by simp)⟩
  clear hi76 hz76 hs76 hb76 hc76
  go_enter Try.func47, Try.ntmps47
  go_wp2
  have HI : Hid (GRow w1 w.heap.size (some ⟨w.heap.size, 0, none⟩) n ((l.take 0).eraseIdx at_) ∧ Below w.heap.size w w1) := ⟨own1, hb1⟩
  clear own1 gr1 hb1 hmk
  go_loopw [5, 6] (fun v i wr => ∃ (j : Nat) (oa : Option Addr) (oc : Nat), j ≤ n ∧ i = .int .i64 j ∧ v = .slice oa ((l.take j).eraseIdx at_).length oc ∧ Hid (GRow wr w.heap.size oa oc ((l.take j).eraseIdx at_) ∧ Below w.heap.size w wr)) (fun _ i _ => n - (intOf i).toNat)
  case atStart => exact ⟨0, _, _, Nat.zero_le _, rfl, rfl, HI⟩
  case round =>
    obtain ⟨j, oa, oc, hj, rfl, rfl, HI⟩ := hrel
    by_cases hlt : j < n
    · obtain ⟨x, hd⟩ : ∃ x, l[j]? = some x := ⟨_, List.getElem?_eq_getElem (by have := HN.out; omega)⟩
      have hjn : (j : Int) < n := by omega
      obtain ⟨g, rfl, hgl, hgB, hrg⟩ := hG.out.at hd
      have HR : Hid (wr.rangeAt g (j * 9) x.cells) := fun jj v hv => (HI.out.2.cell (by exact hgl)).trans (hrg jj v hv)
      have hstep := erase_step hd (by rw [HN.out]; exact hat)
      have hlen : ((l.take j).eraseIdx at_).length ≤ j := Nat.le_trans (List.length_eraseIdx_le _ _) (List.length_take_le _ _)
      by_cases hja : j = at_
      · rw [if_pos hja] at hstep
        have HS : Hid ((l.take (j + 1)).eraseIdx at_ = (l.take j).eraseIdx at_) := hstep
        have hja' : ((j : Int) != at_) = false := by simp [hja]
        clear hstep hrg hd hja
        go_wp2
        go_roundw
        case rel => exact ⟨j + 1, oa, oc, by omega, by go_num, by rw [HS.out], by rw [HS.out]; exact HI⟩
        case measure => simp [intOf]; omega
      · rw [if_neg hja] at hstep
        have HS : Hid ((l.take (j + 1)).eraseIdx at_ = (l.take j).eraseIdx at_ ++ [x]) := hstep
        have hja' : ((j : Int) != at_) = true := by simp; omega
        clear hstep hrg hd hja
        generalize hE : (l.take j).eraseIdx at_ = E at *
        clear hE
        obtain ⟨c0, c1, c2, c3, c4, c5, c6, c7, c8⟩ := GR.c HR.out
        have HO : Hid ((wr.alloc (.cells x.cells.toArray 76)).ownsRow w.heap.size 76 9 (.slice oa E.length oc) E.length (flat E)) := World.ownsRow.alloc HI.out.1 _
        have hbn : Below w.heap.size w (wr.alloc (.cells x.cells.toArray 76)) := HI.out.2.alloc HI.out.2.size _
        have HB : Hid (Below w.heap.size w (wr.alloc (.cells x.cells.toArray 76))) := hbn
        clear hbn
        go_wp2_with (refine wpList_append_own_at (P := Try.prog) _ rfl (.tmp 19) (.tmp 24) 61 rfl w.heap.size 76 i76 z76 9 104 Try.underlying61 H76.out.1 H76.out.2.1 H76.out.2.2.1 H76.out.2.2.2.1 H76.out.2.2.2.2 (by decide) (.slice oa E.length oc) E.length (flat E) rfl (by exact HO.out) ⟨wr.heap.size, 0, none⟩ 1 1 x.cells rfl rfl (by exact cells_new wr x.cells 76) (gr_one x) (by unfold maxLen; omega) (by omega) (by exact HB.out.size) ?_; intro v' w2 hown' hgrow hnil hat')
        obtain ⟨oa', oc', rfl⟩ := grow_slice hown'
        have HI2 : Hid (GRow w2 w.heap.size oa' oc' (E ++ [x]) ∧ Below w.heap.size w w2) := by
          refine ⟨?_, HB.out.grown hgrow HB.out.size fun k hk => (HO.out.lt k hk).1⟩
          show w2.ownsRow w.heap.size 76 9 (.slice oa' (E ++ [x]).length oc') (E ++ [x]).length (flat (E ++ [x]))
          rw [flat_append, flat_one, List.length_append]
          exact hown'
        clear hown' hgrow hnil hat' HI HO HB c0 c1 c2 c3 c4 c5 c6 c7 c8 HR
        go_wp2
        go_roundw
        case rel => exact ⟨j + 1, oa', oc', by omega, by go_num, by rw [HS.out, List.length_append]; rfl, by rw [HS.out]; exact HI2⟩
        case measure => simp [intOf]; omega
    · have HE : Hid ((l.take j).eraseIdx at_ = l.eraseIdx at_) := by
        show _ = _
        rw [List.take_of_length_le (by have := HN.out; omega)]
      go_wp2
      go_ret
      exact ⟨oa, oc, by rw [← HE.out]; rfl, by rw [← HE.out]; exact HI.out.1, HI.out.2⟩

end Go.Proofs.Qxb6616208a
