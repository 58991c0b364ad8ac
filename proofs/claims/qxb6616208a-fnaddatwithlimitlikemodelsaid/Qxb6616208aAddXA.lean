/-
  AddAt (29), the list and the count exact: a part there already.
-/
import Derived.Test.Qxb6616208aEv
namespace Go.Proofs.Qxb6616208a
open Go.RowKit
set_option linter.unusedVariables false
set_option linter.unusedSimpArgs false

set_option maxHeartbeats 2000000 in
set_option maxRecDepth 100000 in
theorem add_dup_x (B j pp : Nat) (lim hd : Int) (O : List Nat) (M : Nat → Prop) (pb : Nat → Nat) (els : Nat → List El) (seq : Int) (pend : Option Nat) (G : List JG) (x : Pd) (k : Key) (p : Int) (s : Nat) (w : World) (hBw : B ≤ w.heap.size) (hJ : Hid (JX w B j lim hd O M pb seq pend G)) (hP : Hid (PAt w pp x)) (hk : Hid (x.key = some (k, p))) (hpp : Hid (pb s = pp)) (hko : Hid (k.Ok)) (i : Nat) (g : JG) (hi : Hid (G[i]? = some g)) (hgk : Hid (g.key = k)) (hlen : g.ix.length ≤ 4096) (hGood : Hid (∀ a ∈ g.ix, Good B w (pb a, els a))) (hdup : hasP (partsL pb els g.ix) p = true) :
    Calls Try.prog 29 (addArgs j pp) w fun e w' => e = .returned (.pointer none) ∧ JX w' B j lim hd O M pb seq pend G ∧ Below w.heap.size w w' := by
  have HP0 : Hid (PAt (w.alloc (.cells #[.int .u64 0, .int .i64 0, .pointer none] 39)) pp x) := hP.out.below ((Below.refl _ _).alloc (Nat.le_refl _) _)
  have HC : Hid (Calls Try.prog 39 #[.pointer (some ⟨pp, 0, none⟩)] (w.alloc (.cells #[.int .u64 0, .int .i64 0, .pointer none] 39)) fun e w' => e = .returned (keyOut x.key) ∧ Below (w.alloc (.cells #[.int .u64 0, .int .i64 0, .pointer none] 39)).heap.size (w.alloc (.cells #[.int .u64 0, .int .i64 0, .pointer none] 39)) w') := keyOf_any pp x _ HP0
  have hs0 : (w.alloc (.cells #[.int .u64 0, .int .i64 0, .pointer none] 39)).heap.size = w.heap.size + 1 := by simp
  have H0 : Hid (Below w.heap.size w (w.alloc (.cells #[.int .u64 0, .int .i64 0, .pointer none] 39)) ∧ (w.alloc (.cells #[.int .u64 0, .int .i64 0, .pointer none] 39)).heap[w.heap.size]? = some (.cells #[.int .u64 0, .int .i64 0, .pointer none] 39) ∧ (w.alloc (.cells #[.int .u64 0, .int .i64 0, .pointer none] 39)).heap.size = w.heap.size + 1) := ⟨(Below.refl _ _).alloc (Nat.le_refl _) _, heap_alloc_new _ _, hs0⟩
  clear hs0 HP0 hP
  go_enter Try.func29, Try.ntmps29
  go_wp2_with fail
  refine HC.out.mono ?_
  rintro e w1 ⟨rfl, hb1⟩
  have hbW : Hid (Below w.heap.size w w1) := H0.out.1.trans (hb1.mono (by rw [H0.out.2.2]; omega))
  have HT : Hid (w1.heap[w.heap.size]? = some (.cells #[.int .u64 0, .int .i64 0, .pointer none] 39)) := (hb1.block _ (by rw [H0.out.2.2]; omega)).trans H0.out.2.1
  have hS1 : w.heap.size < w1.heap.size := (Array.getElem?_eq_some_iff.1 HT.out).1
  rw [hk.out]
  clear HC hb1 H0
  simp only [keyOut]
  have hgG : g ∈ G := List.mem_of_getElem? hi.out
  obtain ⟨mb, E, rfl, hBm, hMap, hPerm⟩ := hJ.out.mapblk hgG
  have hb2 : Below w.heap.size w (w1.alloc (.cells #[.int .i64 k.typ, .int .u8 k.ton, .int .u8 k.npi, .string k.num, .int .i64 k.ref, .int .i64 k.tot] 97)) := hbW.out.alloc hbW.out.size _
  have hlook : (Instr.lookup 57 (.map (some mb)) (.agg #[.int .i64 k.typ, .int .u8 k.ton, .int .u8 k.npi, .string k.num, .int .i64 k.ref, .int .i64 k.tot]) false).run Try.prog (w1.alloc (.cells #[.int .i64 k.typ, .int .u8 k.ton, .int .u8 k.npi, .string k.num, .int .i64 k.ref, .int .i64 k.tot] 97)).drew = .ok (.pointer (some ⟨g.m, 0, none⟩)) (w1.alloc (.cells #[.int .i64 k.typ, .int .u8 k.ton, .int .u8 k.npi, .string k.num, .int .i64 k.ref, .int .i64 k.tot] 97)).drew := by
    have h := look_some (w := (w1.alloc (.cells #[.int .i64 k.typ, .int .u8 k.ton, .int .u8 k.npi, .string k.num, .int .i64 k.ref, .int .i64 k.tot] 97)).drew) (hMap.block (hb2.block mb hMap.lt)) (ents_ok hJ.out.toJI hPerm) g.key (by rw [hgk.out]; exact hko.out) (ent_mem hPerm hgG) (ent_uniq hJ.out.toJI hPerm hgG)
    rw [hgk.out] at h
    exact h
  have hJ2 : Hid (JX (w1.alloc (.cells #[.int .i64 k.typ, .int .u8 k.ton, .int .u8 k.npi, .string k.num, .int .i64 k.ref, .int .i64 k.tot] 97)) B j lim hd O M pb seq (some mb) G) := hJ.out.below hb2
  have HB2 : Hid (Below w.heap.size w (w1.alloc (.cells #[.int .i64 k.typ, .int .u8 k.ton, .int .u8 k.npi, .string k.num, .int .i64 k.ref, .int .i64 k.tot] 97)) ∧ (w1.alloc (.cells #[.int .i64 k.typ, .int .u8 k.ton, .int .u8 k.npi, .string k.num, .int .i64 k.ref, .int .i64 k.tot] 97)).heap[w.heap.size]? = some (.cells #[.int .u64 0, .int .i64 0, .pointer none] 39) ∧ (w1.alloc (.cells #[.int .i64 k.typ, .int .u8 k.ton, .int .u8 k.npi, .string k.num, .int .i64 k.ref, .int .i64 k.tot] 97)).heap[w1.heap.size]? = some (.cells #[.int .i64 k.typ, .int .u8 k.ton, .int .u8 k.npi, .string k.num, .int .i64 k.ref, .int .i64 k.tot] 97)) := ⟨hb2, (Below.heap_alloc _ _ _ hS1).trans HT.out, heap_alloc_new _ _⟩
  have hjl : j < w1.heap.size := Nat.lt_of_lt_of_le hJ.out.jlt hbW.out.size
  have cj0 : w1.cell? ⟨j, 0, none⟩ = some (.map (some mb)) := by obtain ⟨_, _, _, _, _, _, h, _⟩ := (hJ.out.below hbW.out).j_cells; exact h
  have cj0' : ∀ o, (w1.alloc o).cell? ⟨j, 0, none⟩ = some (.map (some mb)) := fun o => (World.cell?_alloc_lt _ _ _ (by exact hjl)).trans cj0
  clear hMap hPerm hb2 cj0 hJ hk
  go_wp2
  go_region
  clear hlook cj0'
  have H3 : Hid (JX (w1.alloc (.cells #[.int .i64 k.typ, .int .u8 k.ton, .int .u8 k.npi, .string k.num, .int .i64 k.ref, .int .i64 k.tot] 97)).drew B j lim hd O M pb seq (some mb) G ∧ Below w.heap.size w (w1.alloc (.cells #[.int .i64 k.typ, .int .u8 k.ton, .int .u8 k.npi, .string k.num, .int .i64 k.ref, .int .i64 k.tot] 97)).drew ∧ (w1.alloc (.cells #[.int .i64 k.typ, .int .u8 k.ton, .int .u8 k.npi, .string k.num, .int .i64 k.ref, .int .i64 k.tot] 97)).drew.heap[w.heap.size]? = some (.cells #[.int .u64 0, .int .i64 0, .pointer none] 39) ∧ (w1.alloc (.cells #[.int .i64 k.typ, .int .u8 k.ton, .int .u8 k.npi, .string k.num, .int .i64 k.ref, .int .i64 k.tot] 97)).drew.heap[w1.heap.size]? = some (.cells #[.int .i64 k.typ, .int .u8 k.ton, .int .u8 k.npi, .string k.num, .int .i64 k.ref, .int .i64 k.tot] 97)) := ⟨hJ2.out.keep fun k o e _ => e, HB2.out.1.drew, HB2.out.2⟩
  clear hJ2 HB2
  generalize (w1.alloc (.cells #[.int .i64 k.typ, .int .u8 k.ton, .int .u8 k.npi, .string k.num, .int .i64 k.ref, .int .i64 k.tot] 97)).drew = w3 at *
  have hL3 : Hid (PRow w3 g.q (partsL pb els g.ix)) := by
    obtain ⟨hBq, cur, hcur, hcells⟩ := ownrow_blk (H3.out.1.ok g hgG).own
    intro a q es ha
    simp only [partsL, List.getElem?_map, Option.map_eq_some_iff] at ha
    obtain ⟨b, hb, hbe⟩ := ha
    cases hbe
    refine ⟨(cell_of_row _ _ _ _ _ _ hcur).trans (hcells a _ (by simp [ptrs, hb])), ?_⟩
    exact (hGood.out b (List.mem_of_getElem? hb)).1 w3 (H3.out.2.1.mono hBw)
  have hql : g.q < w3.heap.size := by obtain ⟨_, cur, hcur, _⟩ := ownrow_blk (H3.out.1.ok g hgG).own; exact (Array.getElem?_eq_some_iff.1 hcur).1
  have cm0 : w3.cell? ⟨g.m, 0, none⟩ = some (.slice (some ⟨g.q, 0, none⟩) g.ix.length g.cap) := by obtain ⟨o, n, h⟩ := (H3.out.1.ok g hgG).row; exact cell_of_row _ _ _ _ _ _ h
  have hml : g.m < w3.heap.size := World.block_lt_of_cell? _ _ cm0
  have HH : Hid (Calls Try.prog 40 #[.pointer (some ⟨g.m, 0, none⟩), .int .i64 p] w3 fun e w' => e = .returned (.bool (hasP (partsL pb els g.ix) p)) ∧ Below w3.heap.size w3 w') := has_any g.m g.q g.cap g.ix.length (partsL pb els g.ix) p w3 (by simp [partsL]) cm0 hml hql hL3 (by omega)
  go_wp2_with fail
  refine HH.out.mono ?_
  rintro e w4 ⟨rfl, hb4⟩
  rw [hdup]
  have H4 : Hid (JX w4 B j lim hd O M pb seq (some mb) G ∧ Below w.heap.size w w4 ∧ w4.heap[w.heap.size]? = some (.cells #[.int .u64 0, .int .i64 0, .pointer none] 39) ∧ w4.heap[w1.heap.size]? = some (.cells #[.int .i64 k.typ, .int .u8 k.ton, .int .u8 k.npi, .string k.num, .int .i64 k.ref, .int .i64 k.tot] 97)) := ⟨H3.out.1.below hb4, H3.out.2.1.trans (hb4.mono H3.out.2.1.size), (hb4.block _ (Array.getElem?_eq_some_iff.1 H3.out.2.2.1).1).trans H3.out.2.2.1, (hb4.block _ (Array.getElem?_eq_some_iff.1 H3.out.2.2.2).1).trans H3.out.2.2.2⟩
  clear HH H3 hL3 hql cm0 hml hb4
  go_wp2
  go_ret
  exact ⟨rfl, H4.out.1, H4.out.2.1⟩

end Go.Proofs.Qxb6616208a
