/-
  AddAt (29) at limit 0: a message opened and complete at once.
-/
import Derived.Test.Qxb6616208aAddN
namespace Go.Proofs.Qxb6616208a
open Go.RowKit
set_option linter.unusedVariables false
set_option linter.unusedSimpArgs false

set_option maxHeartbeats 4000000 in
set_option maxRecDepth 100000 in
theorem add_new1 (B j pp : Nat) (M : Nat → Prop) (pb : Nat → Nat) (els : Nat → List El) (seq : Int) (pend : Option Nat) (G : List JG) (x : Pd) (k : Key) (p : Int) (s : Nat) (w : World) (hBw : B ≤ w.heap.size) (hJ : Hid (JI w B j 0 M pb seq pend G)) (hP : Hid (PAt w pp x)) (hk : Hid (x.key = some (k, p))) (hpp : Hid (pb s = pp)) (hko : Hid (k.Ok)) (hnew : Hid (∀ g ∈ G, g.key ≠ k)) (hseq : 0 ≤ seq ∧ seq < 1048576) (hGs : Hid (Good B w (pb s, els s))) (hnt1 : Hid ((1 : Int) = k.tot)) :
    Calls Try.prog 29 (addArgs j pp) w fun e w' => ∃ M' mb g', e = .returned (.pointer (some ⟨g'.m, 0, none⟩)) ∧ JI w' B j 0 M' pb (seq + 1) (some mb) G ∧ g'.key = k ∧ g'.ix = [s] ∧ Forgot w' pb els g' ∧ Fr isJ B w w' := by
  have HP0 : Hid (PAt (w.alloc (.cells #[.int .u64 0, .int .i64 0, .pointer none] 39)) pp x) := hP.out.below ((Below.refl _ _).alloc (Nat.le_refl _) _)
  have HC : Hid (Calls Try.prog 39 #[.pointer (some ⟨pp, 0, none⟩)] (w.alloc (.cells #[.int .u64 0, .int .i64 0, .pointer none] 39)) fun e w' => e = .returned (keyOut x.key) ∧ Below (w.alloc (.cells #[.int .u64 0, .int .i64 0, .pointer none] 39)).heap.size (w.alloc (.cells #[.int .u64 0, .int .i64 0, .pointer none] 39)) w') := keyOf_any pp x _ HP0
  have hs0 : (w.alloc (.cells #[.int .u64 0, .int .i64 0, .pointer none] 39)).heap.size = w.heap.size + 1 := by simp
  have H0 : Hid (Below w.heap.size w (w.alloc (.cells #[.int .u64 0, .int .i64 0, .pointer none] 39)) ∧ (w.alloc (.cells #[.int .u64 0, .int .i64 0, .pointer none] 39)).heap[w.heap.size]? = some (.cells #[.int .u64 0, .int .i64 0, .pointer none] 39) ∧ (w.alloc (.cells #[.int .u64 0, .int .i64 0, .pointer none] 39)).heap.size = w.heap.size + 1) := ⟨(Below.refl _ _).alloc (Nat.le_refl _) _, heap_alloc_new _ _, hs0⟩
  clear hs0 HP0 hP
  go_enter Try.func29, Try.ntmps29
  go_wp2_with fail
  refine HC.out.mono ?_
  rintro e w1 ⟨rfl, hb1⟩
  have hbW : Hid (Below w.heap.size w w1) := H0.out.1.trans (hb1.mono (by rw [H0.out.2.2]; omega))
  have HT : Hid (w1.heap[w.heap.size]? = some (.cells #[.int .u64 0, .int .i64 0, .pointer none] 39)) := (hb1.block _ (by rw [H0.out.2.2]; omega)).trans H0.out.2.1
  have hS1 : w.heap.size < w1.heap.size := (Array.getElem?_eq_some_iff.1 HT.out).1
  rw [hk.out]
  clear HC hb1 H0
  simp only [keyOut]
  have hb2 : Below w.heap.size w (w1.alloc (.cells #[.int .i64 k.typ, .int .u8 k.ton, .int .u8 k.npi, .string k.num, .int .i64 k.ref, .int .i64 k.tot] 97)) := hbW.out.alloc hbW.out.size _
  have hJ2 : Hid (JI (w1.alloc (.cells #[.int .i64 k.typ, .int .u8 k.ton, .int .u8 k.npi, .string k.num, .int .i64 k.ref, .int .i64 k.tot] 97)).drew B j 0 M pb seq pend G) := (hJ.out.below hb2).keep fun k o e _ => e
  have hlook : (Instr.lookup 57 (.map pend) (.agg #[.int .i64 k.typ, .int .u8 k.ton, .int .u8 k.npi, .string k.num, .int .i64 k.ref, .int .i64 k.tot]) false).run Try.prog (w1.alloc (.cells #[.int .i64 k.typ, .int .u8 k.ton, .int .u8 k.npi, .string k.num, .int .i64 k.ref, .int .i64 k.tot] 97)).drew = .ok (.pointer none) (w1.alloc (.cells #[.int .i64 k.typ, .int .u8 k.ton, .int .u8 k.npi, .string k.num, .int .i64 k.ref, .int .i64 k.tot] 97)).drew := look_new hJ2.out k hko.out hnew.out
  have HB2 : Hid (Below w.heap.size w (w1.alloc (.cells #[.int .i64 k.typ, .int .u8 k.ton, .int .u8 k.npi, .string k.num, .int .i64 k.ref, .int .i64 k.tot] 97)).drew ∧ (w1.alloc (.cells #[.int .i64 k.typ, .int .u8 k.ton, .int .u8 k.npi, .string k.num, .int .i64 k.ref, .int .i64 k.tot] 97)).drew.heap[w.heap.size]? = some (.cells #[.int .u64 0, .int .i64 0, .pointer none] 39) ∧ (w1.alloc (.cells #[.int .i64 k.typ, .int .u8 k.ton, .int .u8 k.npi, .string k.num, .int .i64 k.ref, .int .i64 k.tot] 97)).drew.heap[w1.heap.size]? = some (.cells #[.int .i64 k.typ, .int .u8 k.ton, .int .u8 k.npi, .string k.num, .int .i64 k.ref, .int .i64 k.tot] 97)) := ⟨hb2.drew, (Below.heap_alloc _ _ _ hS1).trans HT.out, heap_alloc_new _ _⟩
  have hjl : j < w1.heap.size := Nat.lt_of_lt_of_le hJ.out.jlt hbW.out.size
  have cj0 : w1.cell? ⟨j, 0, none⟩ = some (.map pend) := by obtain ⟨_, _, _, _, _, _, h, _⟩ := (hJ.out.below hbW.out).j_cells; exact h
  have cj0' : ∀ o, (w1.alloc o).cell? ⟨j, 0, none⟩ = some (.map pend) := fun o => (World.cell?_alloc_lt _ _ _ (by exact hjl)).trans cj0
  have heq := eql57_nil pend
  have hmm := @run_makeMap Try.prog
  clear hb2 cj0 hJ hk
  go_wp2
  go_region
  clear hlook cj0'
  generalize (w1.alloc (.cells #[.int .i64 k.typ, .int .u8 k.ton, .int .u8 k.npi, .string k.num, .int .i64 k.ref, .int .i64 k.tot] 97)).drew = w3 at *
  obtain ⟨hd3, _, _, _, _, _, cj3, _, _, _, fj3⟩ := hJ2.out.j_cells
  have hj3' : j < w3.heap.size := hJ2.out.jlt
  go_upto_if 39 with fail
  go_cut [] from 40 to 43 (fun wx => ∃ mb, Hid (Open7 w wx B j M pb seq G mb (.cells #[.int .u64 0, .int .i64 0, .pointer none] 39) (.cells #[.int .i64 k.typ, .int .u8 k.ton, .int .u8 k.npi, .string k.num, .int .i64 k.ref, .int .i64 k.tot] 97) w1.heap.size))
  case first =>
    cases pend with
    | some mb =>
      go_wp2_with fail
      go_meet
      case rel => exact ⟨mb, ⟨hJ2.out, Fr.of_below HB2.out.1, HB2.out.2.1, HB2.out.2.2⟩⟩
    | none =>
      have hJm : Hid (Open7 w ((w3.setCell ⟨j, 0, none⟩ (.map (some w3.heap.size))).alloc (.map #[] 0)) B j M pb seq G w3.heap.size (.cells #[.int .u64 0, .int .i64 0, .pointer none] 39) (.cells #[.int .i64 k.typ, .int .u8 k.ton, .int .u8 k.npi, .string k.num, .int .i64 k.ref, .int .i64 k.tot] 97) w1.heap.size) := by
        have hj3 := hJ2.out.jlt
        have e1 : (w3.setCell ⟨j, 0, none⟩ (.map (some w3.heap.size))).alloc (.map #[] 0) = (w3.alloc (.map #[] 0)).setCell ⟨j, 0, none⟩ (.map (some w3.heap.size)) := setCell_alloc_swap w3 _ hj3 _
        have hba : Below w3.heap.size w3 (w3.alloc (.map #[] 0)) := (Below.refl _ _).alloc (Nat.le_refl _) _
        have hJa := hJ2.out.below hba
        have hB3 : B ≤ w3.heap.size := by have := HB2.out.1.size; omega
        have hF := hJa.fr_set 0 (.map (some w3.heap.size))
        rw [e1]
        exact ⟨hJa.made hB3 (MapIs.made w3), ((Fr.of_below HB2.out.1).trans (Fr.of_below hba)).trans hF, hF.keep ((hba.block _ (Array.getElem?_eq_some_iff.1 HB2.out.2.1).1).trans HB2.out.2.1) (by rintro (⟨c, fr, h | h | h⟩ | ⟨es, c, h⟩) <;> simp at h), hF.keep ((hba.block _ (Array.getElem?_eq_some_iff.1 HB2.out.2.2).1).trans HB2.out.2.2) (by rintro (⟨c, fr, h | h | h⟩ | ⟨es, c, h⟩) <;> simp at h)⟩
      go_wp2_with fail
      go_meet
      case rel => exact ⟨_, hJm⟩
  case rest =>
    obtain ⟨mb, H5⟩ := hcut
    clear hJ2 HB2 cj3 fj3 heq hmm hj3'
    obtain ⟨hd5, _, _, _, _, _, cj0, cj1, _, _, fj5⟩ := H5.out.J.j_cells
    have k54 : wc.cell? ⟨w1.heap.size, 4, none⟩ = some (.int .i64 k.ref) := cell_of_row _ _ _ _ _ _ H5.out.K
    have k55 : wc.cell? ⟨w1.heap.size, 5, none⟩ = some (.int .i64 k.tot) := cell_of_row _ _ _ _ _ _ H5.out.K
    obtain ⟨cn, hcn⟩ : ∃ cn : Nat, (cn : Int) = min k.tot 8 := ⟨(min k.tot 8).toNat, by have := hko.out.tot; omega⟩
    have hcnb : cn ≤ 8 := by omega
    have hmk : ∀ W : World, (Instr.makeSlice 55 (.int .i64 0) (.int .i64 (cn : Nat))).run Try.prog W = .ok (.slice (some ⟨W.heap.size, 0, none⟩) 0 cn) (W.alloc (.cells (madeCells #[.pointer none] cn) 32)) := fun W => by
      obtain ⟨i, hi, hz⟩ := Option.map_eq_some_iff.1 Try.info32
      simp only [Prod.mk.injEq] at hz
      have h := run_make (P := Try.prog) W 55 32 i (.pointer none) Try.underlying55 hi hz.1 .i64 .i64 0 cn (Int.le_refl _) (by omega) (by rw [hz.2.2]; omega) (by omega)
      rw [hz.2.1] at h
      simp at h
      exact h
    have hmin : min k.tot 8 = cn := hcn.symm
    clear hcn
    have hKl : w1.heap.size < wc.heap.size := World.block_lt_of_cell? _ _ k54
    have hjl5 : j < wc.heap.size := H5.out.J.jlt
    have k54' : ∀ o, (wc.alloc o).cell? ⟨w1.heap.size, 4, none⟩ = some (.int .i64 k.ref) := fun o => (World.cell?_alloc_lt _ _ _ (by exact hKl)).trans k54
    have k55' : ∀ o, (wc.alloc o).cell? ⟨w1.heap.size, 5, none⟩ = some (.int .i64 k.tot) := fun o => (World.cell?_alloc_lt _ _ _ (by exact hKl)).trans k55
    have cj1' : ∀ o, (wc.alloc o).cell? ⟨j, 1, none⟩ = some (.int .i64 seq) := fun o => (World.cell?_alloc_lt _ _ _ (by exact hjl5)).trans cj1
    go_wp2_with fail
    go_region
    go_upto_region 10 with fail
    have hsz : (wc.setCell ⟨j, 1, none⟩ (.int .i64 (seq + 1))).heap.size = wc.heap.size := by simp [World.setCell]
    have H8 : Hid (JI (((wc.setCell ⟨j, 1, none⟩ (.int .i64 (seq + 1))).alloc (.cells (madeCells #[.pointer none] cn) 32)).alloc (.cells #[.slice (some ⟨wc.heap.size, 0, none⟩) 0 cn, .int .i64 k.ref, .int .i64 seq, .int .u64 0, .int .i64 0, .pointer none, .pointer none, .pointer none] 71)).drew B j 0 M pb (seq + 1) (some mb) G ∧ Fr isJ B w (((wc.setCell ⟨j, 1, none⟩ (.int .i64 (seq + 1))).alloc (.cells (madeCells #[.pointer none] cn) 32)).alloc (.cells #[.slice (some ⟨wc.heap.size, 0, none⟩) 0 cn, .int .i64 k.ref, .int .i64 seq, .int .u64 0, .int .i64 0, .pointer none, .pointer none, .pointer none] 71)).drew ∧ (((wc.setCell ⟨j, 1, none⟩ (.int .i64 (seq + 1))).alloc (.cells (madeCells #[.pointer none] cn) 32)).alloc (.cells #[.slice (some ⟨wc.heap.size, 0, none⟩) 0 cn, .int .i64 k.ref, .int .i64 seq, .int .u64 0, .int .i64 0, .pointer none, .pointer none, .pointer none] 71)).drew.heap[w.heap.size]? = some (.cells #[.int .u64 0, .int .i64 0, .pointer none] 39) ∧ (((wc.setCell ⟨j, 1, none⟩ (.int .i64 (seq + 1))).alloc (.cells (madeCells #[.pointer none] cn) 32)).alloc (.cells #[.slice (some ⟨wc.heap.size, 0, none⟩) 0 cn, .int .i64 k.ref, .int .i64 seq, .int .u64 0, .int .i64 0, .pointer none, .pointer none, .pointer none] 71)).drew.heap[w1.heap.size]? = some (.cells #[.int .i64 k.typ, .int .u8 k.ton, .int .u8 k.npi, .string k.num, .int .i64 k.ref, .int .i64 k.tot] 97) ∧ (((wc.setCell ⟨j, 1, none⟩ (.int .i64 (seq + 1))).alloc (.cells (madeCells #[.pointer none] cn) 32)).alloc (.cells #[.slice (some ⟨wc.heap.size, 0, none⟩) 0 cn, .int .i64 k.ref, .int .i64 seq, .int .u64 0, .int .i64 0, .pointer none, .pointer none, .pointer none] 71)).drew.heap[wc.heap.size + 1]? = some (mrow (.slice (some ⟨wc.heap.size, 0, none⟩) 0 cn) k.ref seq none none) ∧ (((wc.setCell ⟨j, 1, none⟩ (.int .i64 (seq + 1))).alloc (.cells (madeCells #[.pointer none] cn) 32)).alloc (.cells #[.slice (some ⟨wc.heap.size, 0, none⟩) 0 cn, .int .i64 k.ref, .int .i64 seq, .int .u64 0, .int .i64 0, .pointer none, .pointer none, .pointer none] 71)).drew.heap[wc.heap.size]? = some (.cells (madeCells #[.pointer none] cn) 32) ∧ B ≤ wc.heap.size ∧ wc.heap.size ≤ (((wc.setCell ⟨j, 1, none⟩ (.int .i64 (seq + 1))).alloc (.cells (madeCells #[.pointer none] cn) 32)).alloc (.cells #[.slice (some ⟨wc.heap.size, 0, none⟩) 0 cn, .int .i64 k.ref, .int .i64 seq, .int .u64 0, .int .i64 0, .pointer none, .pointer none, .pointer none] 71)).drew.heap.size) := by
      have hJs := H5.out.J.setseq (seq + 1)
      have hFs := H5.out.J.fr_set 1 (.int .i64 (seq + 1))
      have hba : Below (wc.setCell ⟨j, 1, none⟩ (.int .i64 (seq + 1))).heap.size (wc.setCell ⟨j, 1, none⟩ (.int .i64 (seq + 1))) (((wc.setCell ⟨j, 1, none⟩ (.int .i64 (seq + 1))).alloc (.cells (madeCells #[.pointer none] cn) 32)).alloc (.cells #[.slice (some ⟨wc.heap.size, 0, none⟩) 0 cn, .int .i64 k.ref, .int .i64 seq, .int .u64 0, .int .i64 0, .pointer none, .pointer none, .pointer none] 71)).drew := (((Below.refl _ _).alloc (Nat.le_refl _) _).alloc (by simp) _).drew
      have hT := hFs.keep H5.out.T (by rintro (⟨c, fr, h | h | h⟩ | ⟨es, c, h⟩) <;> simp at h)
      have hK := hFs.keep H5.out.K (by rintro (⟨c, fr, h | h | h⟩ | ⟨es, c, h⟩) <;> simp at h)
      refine ⟨hJs.below hba, (H5.out.F.trans hFs).trans (Fr.of_below hba), (hba.block _ (Array.getElem?_eq_some_iff.1 hT).1).trans hT, (hba.block _ (Array.getElem?_eq_some_iff.1 hK).1).trans hK, ?_, ?_, ?_, ?_⟩
      · have h := heap_alloc2_new (wc.setCell ⟨j, 1, none⟩ (.int .i64 (seq + 1))) (.cells (madeCells #[.pointer none] cn) 32) (mrow (.slice (some ⟨wc.heap.size, 0, none⟩) 0 cn) k.ref seq none none)
        rw [hsz] at h
        exact h
      · have h := heap_alloc2_old (wc.setCell ⟨j, 1, none⟩ (.int .i64 (seq + 1))) (.cells (madeCells #[.pointer none] cn) 32) (mrow (.slice (some ⟨wc.heap.size, 0, none⟩) 0 cn) k.ref seq none none)
        rw [hsz] at h
        exact h
      · have := H5.out.F.size; omega
      · have := hba.size; rw [hsz] at this; exact this
    clear k54 k55 k54' k55' cj1 cj1' cj0 fj5 hmk hmin hKl hjl5 hsz
    have HM5 : Hid (∀ m, M m → m < wc.heap.size) := fun m hm => by obtain ⟨_, _, _, _, _, e, _⟩ := H5.out.J.L.mr m hm; exact (Array.getElem?_eq_some_iff.1 e).1
    have HQ5 : Hid (∀ g ∈ G, g.q < wc.heap.size) := fun g hg => by obtain ⟨_, c, e⟩ := (H5.out.J.ok g hg).blk; exact (Array.getElem?_eq_some_iff.1 e).1
    clear H5
    generalize hw8 : (((wc.setCell ⟨j, 1, none⟩ (.int .i64 (seq + 1))).alloc (.cells (madeCells #[.pointer none] cn) 32)).alloc (.cells #[.slice (some ⟨wc.heap.size, 0, none⟩) 0 cn, .int .i64 k.ref, .int .i64 seq, .int .u64 0, .int .i64 0, .pointer none, .pointer none, .pointer none] 71)).drew = w8 at *
    clear hw8
    generalize wc.heap.size = qq at *
    obtain ⟨mb', E, emb, hBm, hMap, hPerm⟩ : ∃ mb' E, some mb = some mb' ∧ B ≤ mb' ∧ MapIs w8 mb' E ∧ E.Perm (G.map JG.ent) := by
      rcases H8.out.1.map with h | h
      · cases h.1
      · exact h
    cases emb
    obtain ⟨w9, hput, hM9, hg9, hs9⟩ := put_new (w := w8.drew) hMap (ents_ok H8.out.1 hPerm) k hko.out (fun x hx => by obtain ⟨g, hg, rfl⟩ := List.mem_map.1 (hPerm.mem_iff.1 hx); exact hnew.out g hg) (qq + 1)
    have hput' : (Instr.mapUpdate 57 (.map (some mb)) (.agg #[.int .i64 k.typ, .int .u8 k.ton, .int .u8 k.npi, .string k.num, .int .i64 k.ref, .int .i64 k.tot]) (.pointer (some ⟨qq + 1, 0, none⟩))).run Try.prog w8.drew = .ok () w9 := hput
    obtain ⟨_, _, _, _, _, _, cj08, _, _, _, _⟩ := H8.out.1.j_cells
    have e0 : w8.cell? ⟨w1.heap.size, 0, none⟩ = some (.int .i64 k.typ) := cell_of_row _ _ _ _ _ _ H8.out.2.2.2.1
    have e1 : w8.cell? ⟨w1.heap.size, 1, none⟩ = some (.int .u8 k.ton) := cell_of_row _ _ _ _ _ _ H8.out.2.2.2.1
    have e2 : w8.cell? ⟨w1.heap.size, 2, none⟩ = some (.int .u8 k.npi) := cell_of_row _ _ _ _ _ _ H8.out.2.2.2.1
    have e3 : w8.cell? ⟨w1.heap.size, 3, none⟩ = some (.string k.num) := cell_of_row _ _ _ _ _ _ H8.out.2.2.2.1
    have e4 : w8.cell? ⟨w1.heap.size, 4, none⟩ = some (.int .i64 k.ref) := cell_of_row _ _ _ _ _ _ H8.out.2.2.2.1
    have e5 : w8.cell? ⟨w1.heap.size, 5, none⟩ = some (.int .i64 k.tot) := cell_of_row _ _ _ _ _ _ H8.out.2.2.2.1
    obtain ⟨es0, c0, hmb0, _⟩ := hMap
    have hJput := JI.put (w := w8.drew) (w' := w9) (m := qq + 1) (q := qq) (cap := cn) (sq := seq) (k := k) (H8.out.1.keep fun k o e _ => e) ⟨es0, c0, hmb0⟩ hBm hPerm hg9 hM9 hko.out hnew.out H8.out.2.2.2.2.1 (by have := H8.out.2.2.2.2.2.2.1; omega) (fun hm => by have := HM5.out _ hm; omega) (fun g hg e => by have := HQ5.out g hg; omega) ⟨rfl, Or.inr ⟨qq, cn, _, rfl, H8.out.2.2.2.2.2.2.1, H8.out.2.2.2.2.2.1, Nat.zero_le _, by unfold maxLen; omega, by rw [size_madeCells]; omega, by simp⟩⟩
    obtain ⟨gg, hgg⟩ : ∃ gg : JG, gg = ⟨k, qq + 1, qq, cn, [], seq⟩ := ⟨_, rfl⟩
    obtain ⟨GG, hGG⟩ : ∃ GG, GG = G ++ [gg] := ⟨_, rfl⟩
    obtain ⟨MM, hMM⟩ : ∃ MM : Nat → Prop, MM = fun x => M x ∨ x = qq + 1 := ⟨_, rfl⟩
    obtain ⟨sq1, hsq⟩ : ∃ sq1, sq1 = seq + 1 := ⟨_, rfl⟩
    obtain ⟨ii, hii0⟩ : ∃ ii, ii = G.length := ⟨_, rfl⟩
    have H4 : Hid (JI w9 B j 0 MM pb sq1 (some mb) GG ∧ Fr isJ B w w9 ∧ w9.heap[w.heap.size]? = some (.cells #[.int .u64 0, .int .i64 0, .pointer none] 39) ∧ w9.heap[w1.heap.size]? = some (.cells #[.int .i64 k.typ, .int .u8 k.ton, .int .u8 k.npi, .string k.num, .int .i64 k.ref, .int .i64 k.tot] 97)) := by
      have hF9 : Fr isJ B w8 w9 := (Fr.of_below (Below.refl _ _).drew).trans hJput.2
      refine ⟨by rw [hMM, hsq, hGG, hgg]; exact hJput.1, H8.out.2.1.trans hF9, hF9.keep H8.out.2.2.1 (by rintro (⟨c, fr, h | h | h⟩ | ⟨es, c, h⟩) <;> simp at h), hF9.keep H8.out.2.2.2.1 (by rintro (⟨c, fr, h | h | h⟩ | ⟨es, c, h⟩) <;> simp at h)⟩
    have hii : Hid (GG[ii]? = some gg) := by show _ = _; rw [hGG, hii0]; simp
    have hggm : gg.m = qq + 1 := by rw [hgg]
    have HGG : Hid (gg = ⟨k, qq + 1, qq, cn, [], seq⟩ ∧ GG = G ++ [gg] ∧ sq1 = seq + 1 ∧ ii = G.length) := ⟨hgg, hGG, hsq, hii0⟩
    have hlen : gg.ix.length ≤ 4096 := by rw [hgg]; simp
    have hggG : gg ∈ GG := List.mem_of_getElem? hii.out
    clear hJput hput hM9 hg9 hs9 hmb0 hPerm HM5 HQ5 H8 hgg hGG hMM hsq hii0
    rw [← hggm] at hput'
    rw [← hggm]
    clear hggm
    go_wp2_with fail
    go_region
    clear hput' cj08 e0 e1 e2 e3 e4 e5
    generalize w9 = w4 at *
    have hgk : Hid (gg.key = k) := by show _ = _; rw [HGG.out.1]
    have hnt : Hid ((gg.ix.length : Int) + 1 = k.tot) := by show _ = _; rw [HGG.out.1]; simpa using hnt1.out
    have hGood : Hid (∀ a ∈ gg.ix, Good B w (pb a, els a)) := fun a ha => by rw [HGG.out.1] at ha; simp at ha
    obtain ⟨i32, z32, hi32, hz32, hs32, hb32, hc32⟩ := Try.g32
    have H32 : Hid (Try.prog.info? 32 = some i32 ∧ i32.zero = some z32 ∧ i32.size = 1 ∧ i32.bytes = 8 ∧ z32.cells.size = 1) := ⟨hi32, hz32, hs32, hb32, hc32⟩
    clear hi32 hz32 hs32 hb32 hc32
    have hJa : Hid (JI (w4.alloc (.cells #[.pointer (some ⟨pp, 0, none⟩)] 32)) B j 0 MM pb sq1 (some mb) GG) := H4.out.1.below ((Below.refl _ _).alloc (Nat.le_refl _) _)
    have HOa : Hid ((w4.alloc (.cells #[.pointer (some ⟨pp, 0, none⟩)] 32)).ownsRow B 32 1 (.slice (some ⟨gg.q, 0, none⟩) gg.ix.length gg.cap) gg.ix.length (ptrs pb gg.ix)) := (hJa.out.ok gg hggG).own
    have HBa : Hid (B ≤ (w4.alloc (.cells #[.pointer (some ⟨pp, 0, none⟩)] 32)).heap.size) := by show B ≤ _; have h1 := H4.out.2.1.size; simp; omega
    have cm4 : w4.cell? ⟨gg.m, 0, none⟩ = some (.slice (some ⟨gg.q, 0, none⟩) gg.ix.length gg.cap) := by obtain ⟨o, n, h⟩ := (H4.out.1.ok gg hggG).row; exact cell_of_row _ _ _ _ _ _ h
    go_upto_region 15 with (first
      | (refine wpList_append_own_at (P := Try.prog) _ rfl (.tmp 76) (.tmp 78) 55 rfl B 32 i32 z32 1 8 Try.underlying55 H32.out.1 H32.out.2.1 H32.out.2.2.1 H32.out.2.2.2.1 H32.out.2.2.2.2 (by decide) (.slice (some ⟨gg.q, 0, none⟩) gg.ix.length gg.cap) gg.ix.length (ptrs pb gg.ix) rfl (by exact HOa.out) ⟨w4.heap.size, 0, none⟩ 1 1 [.pointer (some ⟨pp, 0, none⟩)] rfl rfl (by exact cell_one_new w4 _ _) (by intro u hu; simp at hu; subst hu; rfl) (by unfold maxLen; omega) (by omega) (by exact HBa.out) ?_
         intro v5 w5 own5 gr5 hnil5 hat5
         obtain ⟨a5, c5, rfl⟩ := grow_slice own5
         obtain ⟨q5, rfl⟩ := slice_some own5
         have hadd := hJa.out.add hii.out (s := s) (by rw [hpp.out]; exact own5) gr5 (by rcases hat5 with h | h <;> simp [Value.ownBlock] at h; exact Or.inl h; exact Or.inr (by simpa using h))
         obtain ⟨o5, n5, row5⟩ := hadd.2.2
         have H6 : Hid (JI (w5.setCell ⟨gg.m, 0, none⟩ (.slice (some ⟨q5, 0, none⟩) (gg.ix.length + 1) c5)) B j 0 MM pb sq1 (some mb) (GG.set ii { gg with q := q5, cap := c5, ix := gg.ix ++ [s] }) ∧ Fr isJ B (w4.alloc (.cells #[.pointer (some ⟨pp, 0, none⟩)] 32)) (w5.setCell ⟨gg.m, 0, none⟩ (.slice (some ⟨q5, 0, none⟩) (gg.ix.length + 1) c5))) := ⟨hadd.1, hadd.2.1⟩
         have c50 : w5.cell? ⟨gg.m, 0, none⟩ = some (.slice (some ⟨gg.q, 0, none⟩) gg.ix.length gg.cap) := cell_of_row _ _ _ _ _ _ row5
         have f50 : w5.frozen? ⟨gg.m, 0, none⟩ = false := by simp [World.frozen?, row5, mrow]
         clear hadd own5 gr5 hnil5 hat5 row5 hJa HOa HBa cm4)
      | (show wpList _ _ _ (⟨_, Op.store 55 (.tmp 81) (.tmp 79), _, _, _, _⟩ :: _) _ _
         refine wpList_store1 rfl 55 (.tmp 81) (.tmp 79) rfl gg.m 0 (.slice (some ⟨q5, 0, none⟩) (gg.ix.length + 1) c5) rfl rfl rfl _ c50 f50 Try.size55 ?_
         intro w6 hw6
         rw [← hw6] at H6
         clear hw6 c50 f50
         obtain ⟨hd6, oj6, nj6, ej6, _, _, _, _, _, cj6, fj6⟩ := H6.out.1.j_cells
         have HF6 : Hid (Fr isJ B w w6) := ((H4.out.2.1).trans (Fr.of_below ((Below.refl _ _).alloc (Nat.le_refl _) _))).trans H6.out.2
         have HZ6 : Hid (w6.heap[w.heap.size]? = some (.cells #[.int .u64 0, .int .i64 0, .pointer none] 39) ∧ w6.heap[w1.heap.size]? = some (.cells #[.int .i64 k.typ, .int .u8 k.ton, .int .u8 k.npi, .string k.num, .int .i64 k.ref, .int .i64 k.tot] 97)) := ⟨H6.out.2.keep ((Below.heap_alloc _ _ _ (Array.getElem?_eq_some_iff.1 H4.out.2.2.1).1).trans H4.out.2.2.1) (by rintro (⟨c, fr, h | h | h⟩ | ⟨es, c, h⟩) <;> simp at h), H6.out.2.keep ((Below.heap_alloc _ _ _ (Array.getElem?_eq_some_iff.1 H4.out.2.2.2).1).trans H4.out.2.2.2) (by rintro (⟨c, fr, h | h | h⟩ | ⟨es, c, h⟩) <;> simp at h)⟩
         clear ej6))
    have hgs : (GG.set ii { gg with q := q5, cap := c5, ix := gg.ix ++ [s] })[ii]? = some { gg with q := q5, cap := c5, ix := gg.ix ++ [s] } := by rw [List.getElem?_set]; simp [(List.getElem?_eq_some_iff.1 hii.out).1]
    generalize hN : gg.ix.length + 1 = N at *
    obtain ⟨w7, hw7⟩ : ∃ w7, w7 = w6.setCell ⟨j, 3, none⟩ (.int .i64 (wrap64 (hd6 + 1))) := ⟨_, rfl⟩
    rw [← hw7]
    have H7 : Hid (JI w7 B j 0 MM pb sq1 (some mb) (GG.set ii { gg with q := q5, cap := c5, ix := gg.ix ++ [s] }) ∧ Fr isJ B w w7 ∧ w7.heap[w.heap.size]? = some (.cells #[.int .u64 0, .int .i64 0, .pointer none] 39) ∧ w7.heap[w1.heap.size]? = some (.cells #[.int .i64 k.typ, .int .u8 k.ton, .int .u8 k.npi, .string k.num, .int .i64 k.ref, .int .i64 k.tot] 97)) := by
      rw [hw7]
      refine ⟨H6.out.1.held _, HF6.out.trans (H6.out.1.fr_set 3 _), ?_, ?_⟩
      · exact ((H6.out.1.fr_set 3 _).keep HZ6.out.1 (by rintro (⟨c, fr, h | h | h⟩ | ⟨es, c, h⟩) <;> simp at h))
      · exact ((H6.out.1.fr_set 3 _).keep HZ6.out.2 (by rintro (⟨c, fr, h | h | h⟩ | ⟨es, c, h⟩) <;> simp at h))
    clear hw7 H6 HF6 HZ6 cj6 fj6 H4
    have hg2G := List.mem_of_getElem? hgs
    have HN : Hid (gg.ix.length + 1 = N) := hN
    clear hN
    obtain ⟨o7, n7, row7⟩ := (H7.out.1.ok _ hg2G).row
    have t0 : w7.cell? ⟨w.heap.size, 0, none⟩ = some (.int .u64 0) := cell_of_row _ _ _ _ _ _ H7.out.2.2.1
    have t1 : w7.cell? ⟨w.heap.size, 1, none⟩ = some (.int .i64 0) := cell_of_row _ _ _ _ _ _ H7.out.2.2.1
    have t2 : w7.cell? ⟨w.heap.size, 2, none⟩ = some (.pointer none) := cell_of_row _ _ _ _ _ _ H7.out.2.2.1
    have m3 : w7.cell? ⟨gg.m, 3, none⟩ = some (.int .u64 0) := cell_of_row _ _ _ _ _ _ row7
    have m4 : w7.cell? ⟨gg.m, 4, none⟩ = some (.int .i64 0) := cell_of_row _ _ _ _ _ _ row7
    have m5 : w7.cell? ⟨gg.m, 5, none⟩ = some (.pointer none) := cell_of_row _ _ _ _ _ _ row7
    clear row7
    go_cut [94] from 89 to 93 (fun s94 wx => s94 = .bool false ∧ Hid (Below w7.heap.size w7 wx))
    case first =>
      go_region_with (go_at_call 41; refine (after_zero _).mono ?_; rintro e w8 ⟨rfl, hb8⟩)
      all_goals
        go_wp2_with fail
        go_meet
        case rel => exact ⟨rfl, ⟨hb8.os, hb8.tape, hb8.output, hb8.size, hb8.block⟩⟩
    case rest =>
      obtain ⟨rfl, hb8⟩ := hcut
      clear t0 t1 t2 m3 m4 m5
      have H8 : Hid (JI wc B j 0 MM pb sq1 (some mb) (GG.set ii { gg with q := q5, cap := c5, ix := gg.ix ++ [s] }) ∧ Fr isJ B w wc ∧ wc.heap[w1.heap.size]? = some (.cells #[.int .i64 k.typ, .int .u8 k.ton, .int .u8 k.npi, .string k.num, .int .i64 k.ref, .int .i64 k.tot] 97)) := ⟨H7.out.1.below hb8.out, H7.out.2.1.trans (Fr.of_below hb8.out), (hb8.out.block _ (Array.getElem?_eq_some_iff.1 H7.out.2.2.2).1).trans H7.out.2.2.2⟩
      clear H7 hb8
      obtain ⟨o8, n8, row8⟩ := (H8.out.1.ok _ hg2G).row
      have hl8 : (gg.ix ++ [s]).length = N := by rw [← HN.out]; simp
      have cm8 : wc.cell? ⟨gg.m, 0, none⟩ = some (.slice (some ⟨q5, 0, none⟩) N c5) := by rw [← hl8]; exact cell_of_row _ _ _ _ _ _ row8
      clear hl8
      have kt8 : wc.cell? ⟨w1.heap.size, 5, none⟩ = some (.int .i64 k.tot) := cell_of_row _ _ _ _ _ _ H8.out.2.2
      clear row8
      have htot : ((N : Int) == k.tot) = true := by simp only [beq_iff_eq]; rw [← HN.out, ← hnt.out]; simp
      go_wp2
      go_quiet (fail)
      have H9 : Hid (JI (wc.drewN nq) B j 0 MM pb sq1 (some mb) (GG.set ii { gg with q := q5, cap := c5, ix := gg.ix ++ [s] }) ∧ Fr isJ B w (wc.drewN nq)) := ⟨H8.out.1.keep fun k o e _ => e, H8.out.2.1.trans (Fr.of_below (below_drewN (Below.refl _ _) _))⟩
      have hk9 : (wc.drewN nq).heap[w1.heap.size]? = some (.cells #[.int .i64 k.typ, .int .u8 k.ton, .int .u8 k.npi, .string k.num, .int .i64 k.ref, .int .i64 k.tot] 97) := H8.out.2.2
      clear H8 cm8 kt8 htot
      generalize wc.drewN nq = w9 at *
      have e0 : w9.cell? ⟨w1.heap.size, 0, none⟩ = some (.int .i64 k.typ) := cell_of_row _ _ _ _ _ _ hk9
      have e1 : w9.cell? ⟨w1.heap.size, 1, none⟩ = some (.int .u8 k.ton) := cell_of_row _ _ _ _ _ _ hk9
      have e2 : w9.cell? ⟨w1.heap.size, 2, none⟩ = some (.int .u8 k.npi) := cell_of_row _ _ _ _ _ _ hk9
      have e3 : w9.cell? ⟨w1.heap.size, 3, none⟩ = some (.string k.num) := cell_of_row _ _ _ _ _ _ hk9
      have e4 : w9.cell? ⟨w1.heap.size, 4, none⟩ = some (.int .i64 k.ref) := cell_of_row _ _ _ _ _ _ hk9
      have e5 : w9.cell? ⟨w1.heap.size, 5, none⟩ = some (.int .i64 k.tot) := cell_of_row _ _ _ _ _ _ hk9
      clear hk9
      have hB9 : B ≤ w9.heap.size := by have h := H9.out.2.size; omega
      have HFG : Hid (Calls Try.prog 42 #[.pointer (some ⟨j, 0, none⟩), .agg #[.int .i64 k.typ, .int .u8 k.ton, .int .u8 k.npi, .string k.num, .int .i64 k.ref, .int .i64 k.tot], .pointer (some ⟨gg.m, 0, none⟩)] w9 fun e w' => e = .returned (.pointer (some ⟨gg.m, 0, none⟩)) ∧ JI w' B j 0 MM pb sq1 (some mb) (GG.eraseIdx ii) ∧ Fr isJ B w9 w' ∧ Forgot w' pb els { gg with q := q5, cap := c5, ix := gg.ix ++ [s] }) := by
        have hb9 : Below B w w9 := H9.out.2.below hBw
        have h := forget_any B j 0 MM pb els sq1 (some mb) (GG.set ii { gg with q := q5, cap := c5, ix := gg.ix ++ [s] }) ii N { gg with q := q5, cap := c5, ix := gg.ix ++ [s] } w9 H9.out.1 hgs (by show (gg.ix ++ [s]).length = N; rw [← HN.out]; simp) (by show gg.key.tot = N; rw [hgk.out, ← hnt.out, ← HN.out]; simp) (by rw [← HN.out]; omega) (by simp) hB9 (fun a ha => by
          simp only [List.mem_append, List.mem_singleton] at ha
          rcases ha with ha | rfl
          · exact (hGood.out a ha).below hb9
          · exact hGs.out.below hb9)
        rw [List.eraseIdx_set_eq] at h
        show Calls Try.prog 42 _ _ _
        rw [← hgk.out]
        exact h
      go_wp2_with fail
      refine HFG.out.mono ?_
      rintro e wf ⟨rfl, hJf, hFf, hGf⟩
      have Hf : Hid (JI wf B j 0 MM pb sq1 (some mb) (GG.eraseIdx ii) ∧ Fr isJ B w wf ∧ Forgot wf pb els { gg with q := q5, cap := c5, ix := gg.ix ++ [s] }) := ⟨hJf, H9.out.2.trans hFf, hGf⟩
      clear hJf hFf hGf HFG H9 e0 e1 e2 e3 e4 e5
      go_wp2
      go_ret
      have eG : GG.eraseIdx ii = G := by rw [HGG.out.2.1, HGG.out.2.2.2, List.eraseIdx_append_of_length_le (Nat.le_refl _)]; simp
      have hJb := Hf.out.1
      rw [eG, HGG.out.2.2.1] at hJb
      exact ⟨MM, mb, { gg with q := q5, cap := c5, ix := gg.ix ++ [s] }, rfl, hJb, hgk.out, by show gg.ix ++ [s] = [s]; rw [HGG.out.1]; rfl, Hf.out.2.2, Hf.out.2.1⟩

end Go.Proofs.Qxb6616208a
