/-
  AddAt (29), the list and the count exact: a message completed.
-/
import Derived.Test.Qxb6616208aEv
namespace Go.Proofs.Qxb6616208a
open Go.RowKit
set_option linter.unusedVariables false
set_option linter.unusedSimpArgs false

set_option maxHeartbeats 4000000 in
set_option maxRecDepth 100000 in
theorem add_full_x (B j pp : Nat) (lim hd : Int) (O : List Nat) (M : Nat → Prop) (pb : Nat → Nat) (els : Nat → List El) (seq : Int) (pend : Option Nat) (G : List JG) (x : Pd) (k : Key) (p : Int) (s : Nat) (w : World) (hBw : B ≤ w.heap.size) (hJ : Hid (JX w B j lim hd O M pb seq pend G)) (hP : Hid (PAt w pp x)) (hk : Hid (x.key = some (k, p))) (hpp : Hid (pb s = pp)) (hko : Hid (k.Ok)) (i : Nat) (g : JG) (hi : Hid (G[i]? = some g)) (hgk : Hid (g.key = k)) (hlen : g.ix.length ≤ 4096) (hGood : Hid (∀ a ∈ g.ix, Good B w (pb a, els a))) (hGs : Hid (Good B w (pb s, els s))) (hdup : hasP (partsL pb els g.ix) p = false) (hnt : Hid ((g.ix.length : Int) + 1 = k.tot)) (hhd : 0 ≤ hd ∧ hd < 1000000) :
    Calls Try.prog 29 (addArgs j pp) w fun e w' => e = .returned (.pointer (some ⟨g.m, 0, none⟩)) ∧ (∃ q5 c5, JX w' B j lim (hd + 1 - ((g.ix.length + 1 : Nat) : Int)) (O.erase g.m) M pb seq pend (G.eraseIdx i) ∧ Forgot w' pb els { g with q := q5, cap := c5, ix := g.ix ++ [s] }) ∧ Fr isJ B w w' := by
  have HP0 : Hid (PAt (w.alloc (.cells #[.int .u64 0, .int .i64 0, .pointer none] 39)) pp x) := hP.out.below ((Below.refl _ _).alloc (Nat.le_refl _) _)
  have HC : Hid (Calls Try.prog 39 #[.pointer (some ⟨pp, 0, none⟩)] (w.alloc (.cells #[.int .u64 0, .int .i64 0, .pointer none] 39)) fun e w' => e = .returned (keyOut x.key) ∧ Below (w.alloc (.cells #[.int .u64 0, .int .i64 0, .pointer none] 39)).heap.size (w.alloc (.cells #[.int .u64 0, .int .i64 0, .pointer none] 39)) w') := keyOf_any pp x _ HP0
  have hs0 : (w.alloc (.cells #[.int .u64 0, .int .i64 0, .pointer none] 39)).heap.size = w.heap.size + 1 := by simp
  have H0 : Hid (Below w.heap.size w (w.alloc (.cells #[.int .u64 0, .int .i64 0, .pointer none] 39)) ∧ (w.alloc (.cells #[.int .u64 0, .int .i64 0, .pointer none] 39)).heap[w.heap.size]? = some (.cells #[.int .u64 0, .int .i64 0, .pointer none] 39) ∧ (w.alloc (.cells #[.int .u64 0, .int .i64 0, .pointer none] 39)).heap.size = w.heap.size + 1) := ⟨(Below.refl _ _).alloc (Nat.le_refl _) _, heap_alloc_new _ _, hs0⟩
  clear hs0 HP0 hP
  go_enter Try.func29, Try.ntmps29
  go_wp2_with fail
  refine HC.out.mono ?_
  rintro e w1 ⟨rfl, hb1⟩
  have hbW : Hid (Below w.heap.size w w1) := H0.out.1.trans (hb1.mono (by rw [H0.out.2.2]; omega))
  have HT : Hid (w1.heap[w.heap.size]? = some (.cells #[.int .u64 0, .int .i64 0, .pointer none] 39)) := (hb1.block _ (by rw [H0.out.2.2]; omega)).trans H0.out.2.1
  have hS1 : w.heap.size < w1.heap.size := (Array.getElem?_eq_some_iff.1 HT.out).1
  rw [hk.out]
  clear HC hb1 H0
  simp only [keyOut]
  have hgG : g ∈ G := List.mem_of_getElem? hi.out
  obtain ⟨mb, E, rfl, hBm, hMap, hPerm⟩ := hJ.out.mapblk hgG
  have hb2 : Below w.heap.size w (w1.alloc (.cells #[.int .i64 k.typ, .int .u8 k.ton, .int .u8 k.npi, .string k.num, .int .i64 k.ref, .int .i64 k.tot] 97)) := hbW.out.alloc hbW.out.size _
  have hlook : (Instr.lookup 57 (.map (some mb)) (.agg #[.int .i64 k.typ, .int .u8 k.ton, .int .u8 k.npi, .string k.num, .int .i64 k.ref, .int .i64 k.tot]) false).run Try.prog (w1.alloc (.cells #[.int .i64 k.typ, .int .u8 k.ton, .int .u8 k.npi, .string k.num, .int .i64 k.ref, .int .i64 k.tot] 97)).drew = .ok (.pointer (some ⟨g.m, 0, none⟩)) (w1.alloc (.cells #[.int .i64 k.typ, .int .u8 k.ton, .int .u8 k.npi, .string k.num, .int .i64 k.ref, .int .i64 k.tot] 97)).drew := by
    have h := look_some (w := (w1.alloc (.cells #[.int .i64 k.typ, .int .u8 k.ton, .int .u8 k.npi, .string k.num, .int .i64 k.ref, .int .i64 k.tot] 97)).drew) (hMap.block (hb2.block mb hMap.lt)) (ents_ok hJ.out.toJI hPerm) g.key (by rw [hgk.out]; exact hko.out) (ent_mem hPerm hgG) (ent_uniq hJ.out.toJI hPerm hgG)
    rw [hgk.out] at h
    exact h
  have hJ2 : Hid (JX (w1.alloc (.cells #[.int .i64 k.typ, .int .u8 k.ton, .int .u8 k.npi, .string k.num, .int .i64 k.ref, .int .i64 k.tot] 97)) B j lim hd O M pb seq (some mb) G) := hJ.out.below hb2
  have HB2 : Hid (Below w.heap.size w (w1.alloc (.cells #[.int .i64 k.typ, .int .u8 k.ton, .int .u8 k.npi, .string k.num, .int .i64 k.ref, .int .i64 k.tot] 97)) ∧ (w1.alloc (.cells #[.int .i64 k.typ, .int .u8 k.ton, .int .u8 k.npi, .string k.num, .int .i64 k.ref, .int .i64 k.tot] 97)).heap[w.heap.size]? = some (.cells #[.int .u64 0, .int .i64 0, .pointer none] 39) ∧ (w1.alloc (.cells #[.int .i64 k.typ, .int .u8 k.ton, .int .u8 k.npi, .string k.num, .int .i64 k.ref, .int .i64 k.tot] 97)).heap[w1.heap.size]? = some (.cells #[.int .i64 k.typ, .int .u8 k.ton, .int .u8 k.npi, .string k.num, .int .i64 k.ref, .int .i64 k.tot] 97)) := ⟨hb2, (Below.heap_alloc _ _ _ hS1).trans HT.out, heap_alloc_new _ _⟩
  have hjl : j < w1.heap.size := Nat.lt_of_lt_of_le hJ.out.jlt hbW.out.size
  have cj0 : w1.cell? ⟨j, 0, none⟩ = some (.map (some mb)) := by obtain ⟨_, _, _, _, _, _, h, _⟩ := (hJ.out.below hbW.out).j_cells; exact h
  have cj0' : ∀ o, (w1.alloc o).cell? ⟨j, 0, none⟩ = some (.map (some mb)) := fun o => (World.cell?_alloc_lt _ _ _ (by exact hjl)).trans cj0
  clear hMap hPerm hb2 cj0 hJ hk
  go_wp2
  go_region
  clear hlook cj0'
  have H3 : Hid (JX (w1.alloc (.cells #[.int .i64 k.typ, .int .u8 k.ton, .int .u8 k.npi, .string k.num, .int .i64 k.ref, .int .i64 k.tot] 97)).drew B j lim hd O M pb seq (some mb) G ∧ Below w.heap.size w (w1.alloc (.cells #[.int .i64 k.typ, .int .u8 k.ton, .int .u8 k.npi, .string k.num, .int .i64 k.ref, .int .i64 k.tot] 97)).drew ∧ (w1.alloc (.cells #[.int .i64 k.typ, .int .u8 k.ton, .int .u8 k.npi, .string k.num, .int .i64 k.ref, .int .i64 k.tot] 97)).drew.heap[w.heap.size]? = some (.cells #[.int .u64 0, .int .i64 0, .pointer none] 39) ∧ (w1.alloc (.cells #[.int .i64 k.typ, .int .u8 k.ton, .int .u8 k.npi, .string k.num, .int .i64 k.ref, .int .i64 k.tot] 97)).drew.heap[w1.heap.size]? = some (.cells #[.int .i64 k.typ, .int .u8 k.ton, .int .u8 k.npi, .string k.num, .int .i64 k.ref, .int .i64 k.tot] 97)) := ⟨hJ2.out.keep fun k o e _ => e, HB2.out.1.drew, HB2.out.2⟩
  clear hJ2 HB2
  generalize (w1.alloc (.cells #[.int .i64 k.typ, .int .u8 k.ton, .int .u8 k.npi, .string k.num, .int .i64 k.ref, .int .i64 k.tot] 97)).drew = w3 at *
  have hL3 : Hid (PRow w3 g.q (partsL pb els g.ix)) := by
    obtain ⟨hBq, cur, hcur, hcells⟩ := ownrow_blk (H3.out.1.ok g hgG).own
    intro a q es ha
    simp only [partsL, List.getElem?_map, Option.map_eq_some_iff] at ha
    obtain ⟨b, hb, hbe⟩ := ha
    cases hbe
    refine ⟨(cell_of_row _ _ _ _ _ _ hcur).trans (hcells a _ (by simp [ptrs, hb])), ?_⟩
    exact (hGood.out b (List.mem_of_getElem? hb)).1 w3 (H3.out.2.1.mono hBw)
  have hql : g.q < w3.heap.size := by obtain ⟨_, cur, hcur, _⟩ := ownrow_blk (H3.out.1.ok g hgG).own; exact (Array.getElem?_eq_some_iff.1 hcur).1
  have cm0 : w3.cell? ⟨g.m, 0, none⟩ = some (.slice (some ⟨g.q, 0, none⟩) g.ix.length g.cap) := by obtain ⟨o, n, h⟩ := (H3.out.1.ok g hgG).row; exact cell_of_row _ _ _ _ _ _ h
  have hml : g.m < w3.heap.size := World.block_lt_of_cell? _ _ cm0
  have HH : Hid (Calls Try.prog 40 #[.pointer (some ⟨g.m, 0, none⟩), .int .i64 p] w3 fun e w' => e = .returned (.bool (hasP (partsL pb els g.ix) p)) ∧ Below w3.heap.size w3 w') := has_any g.m g.q g.cap g.ix.length (partsL pb els g.ix) p w3 (by simp [partsL]) cm0 hml hql hL3 (by omega)
  go_wp2_with fail
  refine HH.out.mono ?_
  rintro e w4 ⟨rfl, hb4⟩
  rw [hdup]
  have H4 : Hid (JX w4 B j lim hd O M pb seq (some mb) G ∧ Below w.heap.size w w4 ∧ w4.heap[w.heap.size]? = some (.cells #[.int .u64 0, .int .i64 0, .pointer none] 39) ∧ w4.heap[w1.heap.size]? = some (.cells #[.int .i64 k.typ, .int .u8 k.ton, .int .u8 k.npi, .string k.num, .int .i64 k.ref, .int .i64 k.tot] 97)) := ⟨H3.out.1.below hb4, H3.out.2.1.trans (hb4.mono H3.out.2.1.size), (hb4.block _ (Array.getElem?_eq_some_iff.1 H3.out.2.2.1).1).trans H3.out.2.2.1, (hb4.block _ (Array.getElem?_eq_some_iff.1 H3.out.2.2.2).1).trans H3.out.2.2.2⟩
  clear HH H3 hL3 hql cm0 hml hb4
  obtain ⟨i32, z32, hi32, hz32, hs32, hb32, hc32⟩ := Try.g32
  have H32 : Hid (Try.prog.info? 32 = some i32 ∧ i32.zero = some z32 ∧ i32.size = 1 ∧ i32.bytes = 8 ∧ z32.cells.size = 1) := ⟨hi32, hz32, hs32, hb32, hc32⟩
  clear hi32 hz32 hs32 hb32 hc32
  have hJa : Hid (JX (w4.alloc (.cells #[.pointer (some ⟨pp, 0, none⟩)] 32)) B j lim hd O M pb seq (some mb) G) := H4.out.1.below ((Below.refl _ _).alloc (Nat.le_refl _) _)
  have HOa : Hid ((w4.alloc (.cells #[.pointer (some ⟨pp, 0, none⟩)] 32)).ownsRow B 32 1 (.slice (some ⟨g.q, 0, none⟩) g.ix.length g.cap) g.ix.length (ptrs pb g.ix)) := (hJa.out.ok g hgG).own
  have HBa : Hid (B ≤ (w4.alloc (.cells #[.pointer (some ⟨pp, 0, none⟩)] 32)).heap.size) := by show B ≤ _; have h1 := H4.out.2.1.size; simp; omega
  have cm4 : w4.cell? ⟨g.m, 0, none⟩ = some (.slice (some ⟨g.q, 0, none⟩) g.ix.length g.cap) := by obtain ⟨o, n, h⟩ := (H4.out.1.ok g hgG).row; exact cell_of_row _ _ _ _ _ _ h
  go_upto_region 15 with (first
    | (refine wpList_append_own_at (P := Try.prog) _ rfl (.tmp 76) (.tmp 78) 55 rfl B 32 i32 z32 1 8 Try.underlying55 H32.out.1 H32.out.2.1 H32.out.2.2.1 H32.out.2.2.2.1 H32.out.2.2.2.2 (by decide) (.slice (some ⟨g.q, 0, none⟩) g.ix.length g.cap) g.ix.length (ptrs pb g.ix) rfl (by exact HOa.out) ⟨w4.heap.size, 0, none⟩ 1 1 [.pointer (some ⟨pp, 0, none⟩)] rfl rfl (by exact cell_one_new w4 _ _) (by intro u hu; simp at hu; subst hu; rfl) (by unfold maxLen; omega) (by omega) (by exact HBa.out) ?_
       intro v5 w5 own5 gr5 hnil5 hat5
       obtain ⟨a5, c5, rfl⟩ := grow_slice own5
       obtain ⟨q5, rfl⟩ := slice_some own5
       have hadd := hJa.out.add hi.out (s := s) (by rw [hpp.out]; exact own5) gr5 (by rcases hat5 with h | h <;> simp [Value.ownBlock] at h; exact Or.inl h; exact Or.inr (by simpa using h))
       obtain ⟨o5, n5, row5⟩ := hadd.2.2
       have H6 : Hid (JX (w5.setCell ⟨g.m, 0, none⟩ (.slice (some ⟨q5, 0, none⟩) (g.ix.length + 1) c5)) B j lim hd O M pb seq (some mb) (G.set i { g with q := q5, cap := c5, ix := g.ix ++ [s] }) ∧ Fr isJ B (w4.alloc (.cells #[.pointer (some ⟨pp, 0, none⟩)] 32)) (w5.setCell ⟨g.m, 0, none⟩ (.slice (some ⟨q5, 0, none⟩) (g.ix.length + 1) c5))) := ⟨hadd.1, hadd.2.1⟩
       have c50 : w5.cell? ⟨g.m, 0, none⟩ = some (.slice (some ⟨g.q, 0, none⟩) g.ix.length g.cap) := cell_of_row _ _ _ _ _ _ row5
       have f50 : w5.frozen? ⟨g.m, 0, none⟩ = false := by simp [World.frozen?, row5, mrow]
       clear hadd own5 gr5 hnil5 hat5 row5 hJa HOa HBa cm4)
    | (show wpList _ _ _ (⟨_, Op.store 55 (.tmp 81) (.tmp 79), _, _, _, _⟩ :: _) _ _
       refine wpList_store1 rfl 55 (.tmp 81) (.tmp 79) rfl g.m 0 (.slice (some ⟨q5, 0, none⟩) (g.ix.length + 1) c5) rfl rfl rfl _ c50 f50 Try.size55 ?_
       intro w6 hw6
       rw [← hw6] at H6
       clear hw6 c50 f50
       obtain ⟨hd6, oj6, nj6, ej6, _, _, _, _, _, cj6, fj6⟩ := H6.out.1.j_cells
       rw [H6.out.1.hd_eq cj6] at cj6
       have HF6 : Hid (Fr isJ B w w6) := ((Fr.of_below H4.out.2.1).trans (Fr.of_below ((Below.refl _ _).alloc (Nat.le_refl _) _))).trans H6.out.2
       have HZ6 : Hid (w6.heap[w.heap.size]? = some (.cells #[.int .u64 0, .int .i64 0, .pointer none] 39) ∧ w6.heap[w1.heap.size]? = some (.cells #[.int .i64 k.typ, .int .u8 k.ton, .int .u8 k.npi, .string k.num, .int .i64 k.ref, .int .i64 k.tot] 97)) := ⟨H6.out.2.keep ((Below.heap_alloc _ _ _ (Array.getElem?_eq_some_iff.1 H4.out.2.2.1).1).trans H4.out.2.2.1) (by rintro (⟨c, fr, h | h | h⟩ | ⟨es, c, h⟩) <;> simp at h), H6.out.2.keep ((Below.heap_alloc _ _ _ (Array.getElem?_eq_some_iff.1 H4.out.2.2.2).1).trans H4.out.2.2.2) (by rintro (⟨c, fr, h | h | h⟩ | ⟨es, c, h⟩) <;> simp at h)⟩
       clear ej6))
  have hgs : (G.set i { g with q := q5, cap := c5, ix := g.ix ++ [s] })[i]? = some { g with q := q5, cap := c5, ix := g.ix ++ [s] } := by rw [List.getElem?_set]; simp [(List.getElem?_eq_some_iff.1 hi.out).1]
  generalize hN : g.ix.length + 1 = N at *
  obtain ⟨w7, hw7⟩ : ∃ w7, w7 = w6.setCell ⟨j, 3, none⟩ (.int .i64 (hd + 1)) := ⟨_, rfl⟩
  rw [← hw7]
  have H7 : Hid (JX w7 B j lim (hd + 1) O M pb seq (some mb) (G.set i { g with q := q5, cap := c5, ix := g.ix ++ [s] }) ∧ Fr isJ B w w7 ∧ w7.heap[w.heap.size]? = some (.cells #[.int .u64 0, .int .i64 0, .pointer none] 39) ∧ w7.heap[w1.heap.size]? = some (.cells #[.int .i64 k.typ, .int .u8 k.ton, .int .u8 k.npi, .string k.num, .int .i64 k.ref, .int .i64 k.tot] 97)) := by
    rw [hw7]
    refine ⟨H6.out.1.held _, HF6.out.trans (H6.out.1.fr_set 3 _), ?_, ?_⟩
    · exact ((H6.out.1.fr_set 3 _).keep HZ6.out.1 (by rintro (⟨c, fr, h | h | h⟩ | ⟨es, c, h⟩) <;> simp at h))
    · exact ((H6.out.1.fr_set 3 _).keep HZ6.out.2 (by rintro (⟨c, fr, h | h | h⟩ | ⟨es, c, h⟩) <;> simp at h))
  clear hw7 H6 HF6 HZ6 cj6 fj6 H4
  have hg2G := List.mem_of_getElem? hgs
  have HN : Hid (g.ix.length + 1 = N) := hN
  clear hN
  obtain ⟨o7, n7, row7⟩ := (H7.out.1.ok _ hg2G).row
  have t0 : w7.cell? ⟨w.heap.size, 0, none⟩ = some (.int .u64 0) := cell_of_row _ _ _ _ _ _ H7.out.2.2.1
  have t1 : w7.cell? ⟨w.heap.size, 1, none⟩ = some (.int .i64 0) := cell_of_row _ _ _ _ _ _ H7.out.2.2.1
  have t2 : w7.cell? ⟨w.heap.size, 2, none⟩ = some (.pointer none) := cell_of_row _ _ _ _ _ _ H7.out.2.2.1
  have m3 : w7.cell? ⟨g.m, 3, none⟩ = some (.int .u64 0) := cell_of_row _ _ _ _ _ _ row7
  have m4 : w7.cell? ⟨g.m, 4, none⟩ = some (.int .i64 0) := cell_of_row _ _ _ _ _ _ row7
  have m5 : w7.cell? ⟨g.m, 5, none⟩ = some (.pointer none) := cell_of_row _ _ _ _ _ _ row7
  clear row7
  go_cut [94] from 89 to 93 (fun s94 wx => s94 = .bool false ∧ Hid (Below w7.heap.size w7 wx))
  case first =>
    go_region_with (go_at_call 41; refine (after_zero _).mono ?_; rintro e w8 ⟨rfl, hb8⟩)
    all_goals
      go_wp2_with fail
      go_meet
      case rel => exact ⟨rfl, ⟨hb8.os, hb8.tape, hb8.output, hb8.size, hb8.block⟩⟩
  case rest =>
    obtain ⟨rfl, hb8⟩ := hcut
    clear t0 t1 t2 m3 m4 m5
    have H8 : Hid (JX wc B j lim (hd + 1) O M pb seq (some mb) (G.set i { g with q := q5, cap := c5, ix := g.ix ++ [s] }) ∧ Fr isJ B w wc ∧ wc.heap[w1.heap.size]? = some (.cells #[.int .i64 k.typ, .int .u8 k.ton, .int .u8 k.npi, .string k.num, .int .i64 k.ref, .int .i64 k.tot] 97)) := ⟨H7.out.1.below hb8.out, H7.out.2.1.trans (Fr.of_below hb8.out), (hb8.out.block _ (Array.getElem?_eq_some_iff.1 H7.out.2.2.2).1).trans H7.out.2.2.2⟩
    clear H7 hb8
    obtain ⟨o8, n8, row8⟩ := (H8.out.1.ok _ hg2G).row
    have hl8 : (g.ix ++ [s]).length = N := by rw [← HN.out]; simp
    have cm8 : wc.cell? ⟨g.m, 0, none⟩ = some (.slice (some ⟨q5, 0, none⟩) N c5) := by rw [← hl8]; exact cell_of_row _ _ _ _ _ _ row8
    clear hl8
    have kt8 : wc.cell? ⟨w1.heap.size, 5, none⟩ = some (.int .i64 k.tot) := cell_of_row _ _ _ _ _ _ H8.out.2.2
    clear row8
    have htot : ((N : Int) == k.tot) = true := by simp only [beq_iff_eq]; rw [← HN.out, ← hnt.out]; simp
    go_wp2
    go_quiet (fail)
    have H9 : Hid (JX (wc.drewN nq) B j lim (hd + 1) O M pb seq (some mb) (G.set i { g with q := q5, cap := c5, ix := g.ix ++ [s] }) ∧ Fr isJ B w (wc.drewN nq)) := ⟨H8.out.1.keep fun k o e _ => e, H8.out.2.1.trans (Fr.of_below (below_drewN (Below.refl _ _) _))⟩
    have hk9 : (wc.drewN nq).heap[w1.heap.size]? = some (.cells #[.int .i64 k.typ, .int .u8 k.ton, .int .u8 k.npi, .string k.num, .int .i64 k.ref, .int .i64 k.tot] 97) := H8.out.2.2
    clear H8 cm8 kt8 htot
    generalize wc.drewN nq = w9 at *
    have e0 : w9.cell? ⟨w1.heap.size, 0, none⟩ = some (.int .i64 k.typ) := cell_of_row _ _ _ _ _ _ hk9
    have e1 : w9.cell? ⟨w1.heap.size, 1, none⟩ = some (.int .u8 k.ton) := cell_of_row _ _ _ _ _ _ hk9
    have e2 : w9.cell? ⟨w1.heap.size, 2, none⟩ = some (.int .u8 k.npi) := cell_of_row _ _ _ _ _ _ hk9
    have e3 : w9.cell? ⟨w1.heap.size, 3, none⟩ = some (.string k.num) := cell_of_row _ _ _ _ _ _ hk9
    have e4 : w9.cell? ⟨w1.heap.size, 4, none⟩ = some (.int .i64 k.ref) := cell_of_row _ _ _ _ _ _ hk9
    have e5 : w9.cell? ⟨w1.heap.size, 5, none⟩ = some (.int .i64 k.tot) := cell_of_row _ _ _ _ _ _ hk9
    clear hk9
    have hB9 : B ≤ w9.heap.size := by have h := H9.out.2.size; omega
    have HFG : Hid (Calls Try.prog 42 #[.pointer (some ⟨j, 0, none⟩), .agg #[.int .i64 k.typ, .int .u8 k.ton, .int .u8 k.npi, .string k.num, .int .i64 k.ref, .int .i64 k.tot], .pointer (some ⟨g.m, 0, none⟩)] w9 fun e w' => e = .returned (.pointer (some ⟨g.m, 0, none⟩)) ∧ JX w' B j lim (hd + 1 - (N : Nat)) (O.erase g.m) M pb seq (some mb) (G.eraseIdx i) ∧ Fr isJ B w9 w' ∧ Forgot w' pb els { g with q := q5, cap := c5, ix := g.ix ++ [s] }) := by
      have hb9 : Below B w w9 := H9.out.2.below hBw
      have h := forget_x B j lim (hd + 1) O  M pb els seq (some mb) (G.set i { g with q := q5, cap := c5, ix := g.ix ++ [s] }) i N { g with q := q5, cap := c5, ix := g.ix ++ [s] } w9 H9.out.1 hgs (by show (g.ix ++ [s]).length = N; rw [← HN.out]; simp) (by show g.key.tot = N; rw [hgk.out, ← hnt.out, ← HN.out]; simp) (by rw [← HN.out]; omega) (by simp) (by omega) hB9 (fun a ha => by
        simp only [List.mem_append, List.mem_singleton] at ha
        rcases ha with ha | rfl
        · exact (hGood.out a ha).below hb9
        · exact hGs.out.below hb9)
      rw [List.eraseIdx_set_eq] at h
      show Calls Try.prog 42 _ _ _
      rw [← hgk.out]
      exact h
    go_wp2_with fail
    refine HFG.out.mono ?_
    rintro e wf ⟨rfl, hJf, hFf, hGf⟩
    have Hf : Hid (JX wf B j lim (hd + 1 - (N : Nat)) (O.erase g.m) M pb seq (some mb) (G.eraseIdx i) ∧ Fr isJ B w wf ∧ Forgot wf pb els { g with q := q5, cap := c5, ix := g.ix ++ [s] }) := ⟨hJf, H9.out.2.trans hFf, hGf⟩
    clear hJf hFf hGf HFG H9 e0 e1 e2 e3 e4 e5
    go_wp2
    go_ret
    have hJf := Hf.out.1
    rw [← HN.out] at hJf
    exact ⟨rfl, ⟨q5, c5, hJf, Hf.out.2.2⟩, Hf.out.2.1⟩

end Go.Proofs.Qxb6616208a
