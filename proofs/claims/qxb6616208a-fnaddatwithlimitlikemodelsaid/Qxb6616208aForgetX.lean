/-
  forget (42), the list and the count exact.
-/
import Derived.Test.Qxb6616208aJX
namespace Go.Proofs.Qxb6616208a
open Go.RowKit Go.Maps
set_option linter.unusedVariables false
set_option linter.unusedSimpArgs false

set_option maxHeartbeats 2000000 in
set_option maxRecDepth 100000 in
theorem forget_x (B j : Nat) (lim hd : Int) (O : List Nat) (M : Nat → Prop) (pb : Nat → Nat) (els : Nat → List El) (seq : Int) (pend : Option Nat) (G : List JG) (i tot : Nat) (g : JG) (w : World) (hJ : Hid (JX w B j lim hd O M pb seq pend G)) (hi : Hid (G[i]? = some g)) (htot : Hid (g.ix.length = tot)) (hgk : Hid (g.key.tot = tot)) (ht : tot < 1048576) (hne : g.ix ≠ []) (hhd : 0 ≤ hd ∧ hd < 1048576) (hBw : B ≤ w.heap.size) (hP : Hid (∀ a ∈ g.ix, Good B w (pb a, els a))) :
    Calls Try.prog 42 #[.pointer (some ⟨j, 0, none⟩), .agg #[.int .i64 g.key.typ, .int .u8 g.key.ton, .int .u8 g.key.npi, .string g.key.num, .int .i64 g.key.ref, .int .i64 g.key.tot], .pointer (some ⟨g.m, 0, none⟩)] w
      fun e w' => e = .returned (.pointer (some ⟨g.m, 0, none⟩)) ∧ JX w' B j lim (hd - (tot : Nat)) (O.erase g.m) M pb seq pend (G.eraseIdx i) ∧ Fr isJ B w w' ∧ Forgot w' pb els g := by
  have HAP : Hid (∀ (i i' : Nat) (g g' : JG), i ≠ i' → G[i]? = some g → G[i']? = some g' → g.m ≠ g'.m ∧ g.q ≠ g'.q ∧ g.key ≠ g'.key) := hJ.out.ap
  have hgG : g ∈ G := List.mem_of_getElem? hi.out
  obtain ⟨mb, E, rfl, hBm, hMap, hPerm⟩ := hJ.out.mapblk hgG
  have hb1 : Below w.heap.size w (w.alloc (.cells #[.int .i64 g.key.typ, .int .u8 g.key.ton, .int .u8 g.key.npi, .string g.key.num, .int .i64 g.key.ref, .int .i64 g.key.tot] 97)) := (Below.refl _ _).alloc (Nat.le_refl _) _
  have hJ1 : Hid (JX (w.alloc (.cells #[.int .i64 g.key.typ, .int .u8 g.key.ton, .int .u8 g.key.npi, .string g.key.num, .int .i64 g.key.ref, .int .i64 g.key.tot] 97)).drew B j lim hd O M pb seq (some mb) G) := hJ.out.below hb1.drew
  have hMap1 : MapIs (w.alloc (.cells #[.int .i64 g.key.typ, .int .u8 g.key.ton, .int .u8 g.key.npi, .string g.key.num, .int .i64 g.key.ref, .int .i64 g.key.tot] 97)).drew mb E := hMap.block (hb1.block mb hMap.lt)
  have hok := ents_ok hJ.out.toJI hPerm
  obtain ⟨w2, e, hdel, hEe, hM2, hg2, hs2⟩ := del_key hMap1 hok g.key (hok _ (ent_mem hPerm hgG)) (ent_mem hPerm hgG) (ent_uniq hJ.out.toJI hPerm hgG)
  obtain ⟨es0, c0, hmb0, _⟩ := hMap1
  have hmb : w.cell? ⟨j, 0, none⟩ = some (.map (some mb)) := by obtain ⟨_, _, _, _, _, _, h, _⟩ := hJ.out.j_cells; exact h
  have hjl := hJ.out.jlt
  have c0' : ∀ o, (w.alloc o).cell? ⟨j, 0, none⟩ = some (.map (some mb)) := fun o => (World.cell?_alloc_lt _ _ _ (by exact hjl)).trans hmb
  have hJ2 : JX w2 B j lim hd O M pb seq (some mb) (G.eraseIdx i) := hJ1.out.erase hi.out rfl hBm hPerm hEe ⟨_, _, hmb0⟩ hg2 hM2
  have hF2 : Fr isJ B w w2 := (Fr.of_below hb1.drew).trans (Fr.of_grown hg2 fun k hk => by cases hk; exact ⟨hBm, fun o ho => by rw [hmb0] at ho; cases ho; exact Or.inr ⟨_, _, rfl⟩⟩)
  -- the message and its row, behind the delete
  obtain ⟨gM, ⟨o1, n1, gr1⟩, go1, gk1⟩ := hJ1.out.ok g hgG
  have gr2 : w2.heap[g.m]? = some (mrow g.sl g.key.ref g.sq o1 n1) := (hg2.block _ (Array.getElem?_eq_some_iff.1 gr1).1 (fun e0 => by cases e0; rw [hmb0] at gr1; simp [mrow] at gr1)).trans gr1
  have go2 : w2.ownsRow B 32 1 g.sl g.ix.length (ptrs pb g.ix) := own_keep go1 fun k c _ e1 => hg2.block _ (Array.getElem?_eq_some_iff.1 e1).1 (fun e0 => by cases e0; rw [hmb0] at e1; simp at e1)
  have k2 : w2.heap[w.heap.size]? = some (.cells #[.int .i64 g.key.typ, .int .u8 g.key.ton, .int .u8 g.key.npi, .string g.key.num, .int .i64 g.key.ref, .int .i64 g.key.tot] 97) := (hg2.block _ (by show w.heap.size < (w.alloc _).heap.size; simp) (fun e0 => by have h1 := hMap.lt; cases e0; omega)).trans (heap_alloc_new w _)
  obtain ⟨hd2, oj2, nj2, ej2, _, _, cj0, cj1, cj2, cj3, fj⟩ := hJ2.j_cells
  rw [hJ2.hd_eq cj3] at cj3
  have cm0 : w2.cell? ⟨g.m, 0, none⟩ = some (.slice (some ⟨g.q, 0, none⟩) tot g.cap) := by rw [← htot.out]; exact cell_of_row _ _ _ _ _ _ gr2
  have H2 : Hid (JX w2 B j lim hd O M pb seq (some mb) (G.eraseIdx i) ∧ Fr isJ B w w2 ∧ w2.heap[g.m]? = some (mrow g.sl g.key.ref g.sq o1 n1) ∧ w2.ownsRow B 32 1 g.sl g.ix.length (ptrs pb g.ix) ∧ w2.heap[w.heap.size]? = some (.cells #[.int .i64 g.key.typ, .int .u8 g.key.ton, .int .u8 g.key.npi, .string g.key.num, .int .i64 g.key.ref, .int .i64 g.key.tot] 97) ∧ M g.m) := ⟨hJ2, hF2, gr2, go2, k2, gM⟩
  have hdel' : ∀ ty, (Builtin.delete_ #[57, 97] ty #[.map (some mb), .agg #[.int .i64 g.key.typ, .int .u8 g.key.ton, .int .u8 g.key.npi, .string g.key.num, .int .i64 g.key.ref, .int .i64 g.key.tot]]).run Try.prog (w.alloc (.cells #[.int .i64 g.key.typ, .int .u8 g.key.ton, .int .u8 g.key.npi, .string g.key.num, .int .i64 g.key.ref, .int .i64 g.key.tot] 97)).drew = .ok (.tuple #[]) w2 := hdel
  clear hdel hMap hPerm hok hEe hM2 hg2 hs2 hmb0 hJ1 hJ2 hF2 gr1 go1 gk1 gr2 go2 k2 ej2 cj0 cj1 cj2 hb1 hmb gM hJ
  go_enter Try.func42, Try.ntmps42
  go_wp2
  go_region
  go_wp2
  go_region
  clear cm0 cj3 fj c0' hdel'
  have hlt := hjl
  obtain ⟨w3, hw3⟩ : ∃ w3, w3 = (w2.setCell ⟨j, 3, none⟩ (.int .i64 (hd - (tot : Nat)))).drew := ⟨_, rfl⟩
  rw [← hw3]
  have H3 : Hid (JX w3 B j lim (hd - (tot : Nat)) O M pb seq (some mb) (G.eraseIdx i) ∧ Fr isJ B w w3 ∧ w3.heap[g.m]? = some (mrow g.sl g.key.ref g.sq o1 n1) ∧ w3.ownsRow B 32 1 g.sl g.ix.length (ptrs pb g.ix) ∧ w3.heap[w.heap.size]? = some (.cells #[.int .i64 g.key.typ, .int .u8 g.key.ton, .int .u8 g.key.npi, .string g.key.num, .int .i64 g.key.ref, .int .i64 g.key.tot] 97) ∧ M g.m) := by
    obtain ⟨hJ2, hF2, gr2, go2, k2, gM⟩ := H2.out
    have hne2 : ∀ k, k ≠ j → w3.heap[k]? = w2.heap[k]? := fun k hk => by rw [hw3]; exact Below.heap_setCell _ _ _ _ (by exact hk)
    refine ⟨?_, ?_, (hne2 _ (hJ2.L.ne gM)).trans gr2, own_keep go2 fun k c _ e1 => hne2 k ?_, (hne2 _ (by omega)).trans k2, gM⟩
    · rw [hw3]; exact (hJ2.held _).keep fun k o e _ => e
    · rw [hw3]; exact (hF2.trans (hJ2.fr_set 3 _)).trans (Fr.of_below (Below.refl _ _).drew)
    · rintro rfl
      obtain ⟨_, _, _, ej, _⟩ := hJ2.j_cells
      rw [e1] at ej
      simp [jrow] at ej
  clear hw3 H2
  go_wp2_with fail
  refine (unlink_x j g.m M O (hd - (tot : Nat)) w3 H3.out.1.L H3.out.2.2.2.2.2 H3.out.1.ex).mono ?_
  rintro e4 w4 ⟨rfl, R, X4⟩
  obtain ⟨cur, n4, o4, H4⟩ : ∃ cur n4 o4, Hid (JX w4 B j lim (hd - (tot : Nat)) (O.erase g.m) M pb seq (some mb) (G.eraseIdx i) ∧ Fr isJ B w w4 ∧ w4.heap[g.m]? = some (mrow g.sl g.key.ref g.sq o4 n4) ∧ (B ≤ g.q ∧ w4.heap[g.q]? = some (.cells cur 32 (0, 0)) ∧ ∀ (i : Nat) (v : Value), (ptrs pb g.ix)[i]? = some v → cur[i]? = some v) ∧ w4.heap[w.heap.size]? = some (.cells #[.int .i64 g.key.typ, .int .u8 g.key.ton, .int .u8 g.key.npi, .string g.key.num, .int .i64 g.key.ref, .int .i64 g.key.tot] 97)) := by
    obtain ⟨hJ3, hF3, gr3, go3, k3, gM⟩ := H3.out
    obtain ⟨sl, r, q, o, n, e', p1, p2⟩ := hJ3.L.mr g.m gM
    rw [gr3] at e'
    obtain ⟨rfl, rfl, rfl, rfl, rfl⟩ := mrow_inj (Option.some.inj e')
    obtain ⟨o4, n4, e4, _, _⟩ := R.mr g.m gM _ _ _ _ _ gr3 p1 p2
    have hk : ∀ (k : Nat) (o : Obj), w3.heap[k]? = some o → (∀ c fr, o ≠ .cells c 60 fr) → (∀ c fr, o ≠ .cells c 71 fr) → w4.heap[k]? = some o := fun k o e h1 h2 => by
      refine (R.block k ?_ ?_).trans e
      · rintro rfl
        obtain ⟨hh, o', n, e'⟩ := hJ3.jr
        rw [e] at e'
        cases e'
        exact h1 _ _ rfl
      · intro hm
        obtain ⟨sl, r, q, o', n, e', _, _⟩ := hJ3.L.mr k hm
        rw [e] at e'
        cases e'
        exact h2 _ _ rfl
    obtain ⟨hBq, cur, hcur, hcells⟩ := ownrow_blk go3
    exact ⟨cur, n4, o4, hJ3.re R X4, hF3.trans (R.fr hJ3.L hJ3.jB hJ3.mB), e4, ⟨hBq, hk _ _ hcur (by simp) (by simp), hcells⟩, hk _ _ k3 (by simp) (by simp)⟩
  clear R H3
  have k45 : w4.cell? ⟨w.heap.size, 5, none⟩ = some (.int .i64 (tot : Nat)) := by rw [← hgk.out]; exact cell_of_row _ _ _ _ _ _ H4.out.2.2.2.2
  have cm4 : w4.cell? ⟨g.m, 0, none⟩ = some (.slice (some ⟨g.q, 0, none⟩) tot g.cap) := by rw [← htot.out]; exact cell_of_row _ _ _ _ _ _ H4.out.2.2.1
  have HIO : Hid (Calls Try.prog 54 #[.pointer (some ⟨g.m, 0, none⟩), .int .i64 (tot : Nat)] w4 fun e w' => e = .returned (.pointer (some ⟨g.m, 0, none⟩)) ∧ ∃ L' cur', Sorted w4 w' g.q (partsL pb els g.ix) L' cur') := by
    refine inOrder_any B g.m g.q g.cap tot (partsL pb els g.ix) w4 cur cm4 H4.out.2.2.2.1.1 H4.out.2.2.2.1.2.1 (by show (partsL pb els g.ix).length = tot; simp [partsL, htot.out]) ht (by simpa [partsL] using hne) (fun k x hx => ?_) (fun x hx => ?_)
    · simp only [partsL, List.getElem?_map, Option.map_eq_some_iff] at hx
      obtain ⟨a, ha, rfl⟩ := hx
      exact H4.out.2.2.2.1.2.2 k _ (by simp [ptrs, ha])
    · obtain ⟨a, ha, rfl⟩ := List.mem_map.1 hx
      exact (hP.out a ha).below (H4.out.2.1.below hBw)
  go_wp2_with fail
  refine HIO.out.mono ?_
  rintro e5 w5 ⟨rfl, L', cur', S⟩
  have HF : Hid (JX w5 B j lim (hd - (tot : Nat)) (O.erase g.m) M pb seq (some mb) (G.eraseIdx i) ∧ Fr isJ B w w5 ∧ Forgot w5 pb els g) := by
    obtain ⟨hJ4, hF4, gr4, ⟨hBq, hq4, _⟩, _⟩ := H4.out
    refine ⟨hJ4.grown_q S.gr hq4 fun g' hg' => ?_, hF4.trans (Fr.of_grown S.gr fun k hk => by cases hk; exact ⟨hBq, fun o ho => by rw [hq4] at ho; cases ho; exact Or.inl ⟨_, _, Or.inr (Or.inr rfl)⟩⟩), ⟨⟨o4, n4, ?_⟩, L', cur', S.perm, S.asc, S.blk, S.cells⟩⟩
    · obtain ⟨a, ha⟩ := List.mem_iff_getElem?.1 hg'
      exact (HAP.out _ i g' g (by split <;> omega) (get_erase ha) hi.out).2.1
    · have hmq : g.m ≠ g.q := fun e1 => by
        rw [e1, hq4] at gr4
        simp [mrow] at gr4
      exact (S.gr.block _ (Array.getElem?_eq_some_iff.1 gr4).1 (fun e0 => hmq (by simpa using e0))).trans gr4
  clear S HIO H4 k45 cm4
  go_wp2
  go_ret
  exact ⟨rfl, HF.out⟩

set_option maxHeartbeats 2000000 in
set_option maxRecDepth 100000 in
theorem forgetP_x (B j : Nat) (lim hd : Int) (O : List Nat) (M : Nat → Prop) (pb : Nat → Nat) (els : Nat → List El) (seq : Int) (mb : Nat) (G : List JG) (i n tot : Nat) (g : JG) (w : World) (hJ : Hid (JX w B j lim hd O M pb seq (some mb) G)) (hi : Hid (G[i]? = some g)) (hlen : Hid (g.ix.length = n)) (hgk : Hid (g.key.tot = tot)) (hnt : n < tot) (ht : tot < 65536) (hhd : 0 ≤ hd ∧ hd < 1048576) (hBw : B ≤ w.heap.size) (hP : Hid (∀ a ∈ g.ix, Good B w (pb a, els a) ∧ 1 ≤ pno (els a) ∧ pno (els a) ≤ tot)) :
    Calls Try.prog 42 #[.pointer (some ⟨j, 0, none⟩), .agg #[.int .i64 g.key.typ, .int .u8 g.key.ton, .int .u8 g.key.npi, .string g.key.num, .int .i64 g.key.ref, .int .i64 g.key.tot], .pointer (some ⟨g.m, 0, none⟩)] w
      fun e w' => e = .returned (.pointer (some ⟨g.m, 0, none⟩)) ∧ JX w' B j lim (hd - (n : Nat)) (O.erase g.m) M pb seq (some mb) (G.eraseIdx i) ∧ Fr isJ B w w' ∧ MapSub w w' mb ∧ Kept w w' j mb g.m M ∧ ∃ q, w.heap.size ≤ q ∧ Given w' pb els M g q := by
  have HAP : Hid (∀ (i i' : Nat) (g g' : JG), i ≠ i' → G[i]? = some g → G[i']? = some g' → g.m ≠ g'.m ∧ g.q ≠ g'.q ∧ g.key ≠ g'.key) := hJ.out.ap
  have hgG : g ∈ G := List.mem_of_getElem? hi.out
  obtain ⟨mb', E, hmbe, hBm, hMap, hPerm⟩ := hJ.out.mapblk hgG
  cases hmbe
  have hb1 : Below w.heap.size w (w.alloc (.cells #[.int .i64 g.key.typ, .int .u8 g.key.ton, .int .u8 g.key.npi, .string g.key.num, .int .i64 g.key.ref, .int .i64 g.key.tot] 97)) := (Below.refl _ _).alloc (Nat.le_refl _) _
  have hJ1 : Hid (JX (w.alloc (.cells #[.int .i64 g.key.typ, .int .u8 g.key.ton, .int .u8 g.key.npi, .string g.key.num, .int .i64 g.key.ref, .int .i64 g.key.tot] 97)).drew B j lim hd O M pb seq (some mb) G) := hJ.out.below hb1.drew
  have hMap1 : MapIs (w.alloc (.cells #[.int .i64 g.key.typ, .int .u8 g.key.ton, .int .u8 g.key.npi, .string g.key.num, .int .i64 g.key.ref, .int .i64 g.key.tot] 97)).drew mb E := hMap.block (hb1.block mb hMap.lt)
  have hok := ents_ok hJ.out.toJI hPerm
  obtain ⟨w2, e, hdel, hEe, hM2, hg2, hs2, hsub2⟩ := del_key2 hMap1 hok g.key (hok _ (ent_mem hPerm hgG)) (ent_mem hPerm hgG) (ent_uniq hJ.out.toJI hPerm hgG)
  obtain ⟨es0, c0, hmb0, _⟩ := hMap1
  have hmb : w.cell? ⟨j, 0, none⟩ = some (.map (some mb)) := by obtain ⟨_, _, _, _, _, _, h, _⟩ := hJ.out.j_cells; exact h
  have hjl := hJ.out.jlt
  have c0' : ∀ o, (w.alloc o).cell? ⟨j, 0, none⟩ = some (.map (some mb)) := fun o => (World.cell?_alloc_lt _ _ _ (by exact hjl)).trans hmb
  have hJ2 : JX w2 B j lim hd O M pb seq (some mb) (G.eraseIdx i) := hJ1.out.erase hi.out rfl hBm hPerm hEe ⟨_, _, hmb0⟩ hg2 hM2
  have hF2 : Fr isJ B w w2 := (Fr.of_below hb1.drew).trans (Fr.of_grown hg2 fun k hk => by cases hk; exact ⟨hBm, fun o ho => by rw [hmb0] at ho; cases ho; exact Or.inr ⟨_, _, rfl⟩⟩)
  have hmbw : w.heap[mb]? = some (.map es0 c0) := (hb1.block mb hMap.lt).symm.trans hmb0
  have hS2 : MapSub w w2 mb := fun es c e0 => hsub2 es c ((hb1.block mb hMap.lt).trans e0)
  have hK2 : ∀ k, k < w.heap.size → k ≠ mb → w2.heap[k]? = w.heap[k]? := fun k hk hne => (hg2.block k (by show k < (w.alloc _).heap.size; simp; omega) (fun e0 => by cases e0; exact hne rfl)).trans (hb1.block k hk)
  -- the message and its row, behind the delete
  obtain ⟨gM, ⟨o1, n1, gr1⟩, go1, gk1⟩ := hJ1.out.ok g hgG
  have gr2 : w2.heap[g.m]? = some (mrow g.sl g.key.ref g.sq o1 n1) := (hg2.block _ (Array.getElem?_eq_some_iff.1 gr1).1 (fun e0 => by cases e0; rw [hmb0] at gr1; simp [mrow] at gr1)).trans gr1
  have go2 : w2.ownsRow B 32 1 g.sl g.ix.length (ptrs pb g.ix) := own_keep go1 fun k c _ e1 => hg2.block _ (Array.getElem?_eq_some_iff.1 e1).1 (fun e0 => by cases e0; rw [hmb0] at e1; simp at e1)
  have k2 : w2.heap[w.heap.size]? = some (.cells #[.int .i64 g.key.typ, .int .u8 g.key.ton, .int .u8 g.key.npi, .string g.key.num, .int .i64 g.key.ref, .int .i64 g.key.tot] 97) := (hg2.block _ (by show w.heap.size < (w.alloc _).heap.size; simp) (fun e0 => by have h1 := hMap.lt; cases e0; omega)).trans (heap_alloc_new w _)
  obtain ⟨hd2, oj2, nj2, ej2, _, _, cj0, cj1, cj2, cj3, fj⟩ := hJ2.j_cells
  rw [hJ2.hd_eq cj3] at cj3
  have cm0 : w2.cell? ⟨g.m, 0, none⟩ = some (.slice (some ⟨g.q, 0, none⟩) n g.cap) := by rw [← hlen.out]; exact cell_of_row _ _ _ _ _ _ gr2
  have H2 : Hid (JX w2 B j lim hd O M pb seq (some mb) (G.eraseIdx i) ∧ Fr isJ B w w2 ∧ w2.heap[g.m]? = some (mrow g.sl g.key.ref g.sq o1 n1) ∧ w2.ownsRow B 32 1 g.sl g.ix.length (ptrs pb g.ix) ∧ w2.heap[w.heap.size]? = some (.cells #[.int .i64 g.key.typ, .int .u8 g.key.ton, .int .u8 g.key.npi, .string g.key.num, .int .i64 g.key.ref, .int .i64 g.key.tot] 97) ∧ M g.m ∧ MapSub w w2 mb ∧ (∀ k, k < w.heap.size → k ≠ mb → w2.heap[k]? = w.heap[k]?) ∧ w.heap[mb]? = some (.map es0 c0)) := ⟨hJ2, hF2, gr2, go2, k2, gM, hS2, hK2, hmbw⟩
  have hdel' : ∀ ty, (Builtin.delete_ #[57, 97] ty #[.map (some mb), .agg #[.int .i64 g.key.typ, .int .u8 g.key.ton, .int .u8 g.key.npi, .string g.key.num, .int .i64 g.key.ref, .int .i64 g.key.tot]]).run Try.prog (w.alloc (.cells #[.int .i64 g.key.typ, .int .u8 g.key.ton, .int .u8 g.key.npi, .string g.key.num, .int .i64 g.key.ref, .int .i64 g.key.tot] 97)).drew = .ok (.tuple #[]) w2 := hdel
  clear hdel hMap hPerm hok hEe hM2 hg2 hs2 hmb0 hJ1 hJ2 hF2 gr1 go1 gk1 gr2 go2 k2 ej2 cj0 cj1 cj2 hb1 hmb gM hJ hsub2 hS2 hK2 hmbw
  go_enter Try.func42, Try.ntmps42
  go_wp2
  go_region
  go_wp2
  go_region
  clear cm0 cj3 fj c0' hdel'
  have hlt := hjl
  obtain ⟨w3, hw3⟩ : ∃ w3, w3 = (w2.setCell ⟨j, 3, none⟩ (.int .i64 (hd - (n : Nat)))).drew := ⟨_, rfl⟩
  rw [← hw3]
  have H3 : Hid (JX w3 B j lim (hd - (n : Nat)) O M pb seq (some mb) (G.eraseIdx i) ∧ Fr isJ B w w3 ∧ w3.heap[g.m]? = some (mrow g.sl g.key.ref g.sq o1 n1) ∧ w3.ownsRow B 32 1 g.sl g.ix.length (ptrs pb g.ix) ∧ w3.heap[w.heap.size]? = some (.cells #[.int .i64 g.key.typ, .int .u8 g.key.ton, .int .u8 g.key.npi, .string g.key.num, .int .i64 g.key.ref, .int .i64 g.key.tot] 97) ∧ M g.m ∧ MapSub w w3 mb ∧ (∀ k, k < w.heap.size → k ≠ j → k ≠ mb → w3.heap[k]? = w.heap[k]?) ∧ w.heap[mb]? = some (.map es0 c0)) := by
    obtain ⟨hJ2, hF2, gr2, go2, k2, gM, hS2, hK2, hmbw⟩ := H2.out
    have hne2 : ∀ k, k ≠ j → w3.heap[k]? = w2.heap[k]? := fun k hk => by rw [hw3]; exact Below.heap_setCell _ _ _ _ (by exact hk)
    have hjr : ∃ c, w2.heap[j]? = some (.cells c 60 (0, 0)) := by obtain ⟨_, _, _, ej, _⟩ := hJ2.j_cells; exact ⟨_, ej⟩
    have hjmb : j ≠ mb := fun e0 => by
      obtain ⟨c, hc⟩ := hjr
      obtain ⟨es', h1, _⟩ := hS2 _ _ hmbw
      rw [e0, h1] at hc
      cases hc
    refine ⟨?_, ?_, (hne2 _ (hJ2.L.ne gM)).trans gr2, own_keep go2 fun k c _ e1 => hne2 k ?_, (hne2 _ (by omega)).trans k2, gM, hS2.trans (MapSub.of_keep fun es c e1 => (hne2 _ fun e0 => hjmb e0.symm).trans e1), fun k hk h1 h2 => (hne2 k h1).trans (hK2 k hk h2), hmbw⟩
    · rw [hw3]; exact (hJ2.held _).keep fun k o e _ => e
    · rw [hw3]; exact (hF2.trans (hJ2.fr_set 3 _)).trans (Fr.of_below (Below.refl _ _).drew)
    · rintro rfl
      obtain ⟨_, _, _, ej, _⟩ := hJ2.j_cells
      rw [e1] at ej
      simp [jrow] at ej
  clear hw3 H2
  go_wp2_with fail
  refine (unlink_x j g.m M O (hd - (n : Nat)) w3 H3.out.1.L H3.out.2.2.2.2.2.1 H3.out.1.ex).mono ?_
  rintro e4 w4 ⟨rfl, R, X4⟩
  obtain ⟨cur, n4, o4, H4⟩ : ∃ cur n4 o4, Hid (JX w4 B j lim (hd - (n : Nat)) (O.erase g.m) M pb seq (some mb) (G.eraseIdx i) ∧ Fr isJ B w w4 ∧ w4.heap[g.m]? = some (mrow g.sl g.key.ref g.sq o4 n4) ∧ (B ≤ g.q ∧ w4.heap[g.q]? = some (.cells cur 32 (0, 0)) ∧ ∀ (i : Nat) (v : Value), (ptrs pb g.ix)[i]? = some v → cur[i]? = some v) ∧ w4.heap[w.heap.size]? = some (.cells #[.int .i64 g.key.typ, .int .u8 g.key.ton, .int .u8 g.key.npi, .string g.key.num, .int .i64 g.key.ref, .int .i64 g.key.tot] 97) ∧ M g.m ∧ MapSub w w4 mb ∧ Kept w w4 j mb g.m M) := by
    obtain ⟨hJ3, hF3, gr3, go3, k3, gM, hS3, hK3, hmbw⟩ := H3.out
    obtain ⟨sl, r, q, o, n, e', p1, p2⟩ := hJ3.L.mr g.m gM
    rw [gr3] at e'
    obtain ⟨rfl, rfl, rfl, rfl, rfl⟩ := mrow_inj (Option.some.inj e')
    obtain ⟨o4, n4, e4, _, _⟩ := R.mr g.m gM _ _ _ _ _ gr3 p1 p2
    have hk : ∀ (k : Nat) (o : Obj), w3.heap[k]? = some o → (∀ c fr, o ≠ .cells c 60 fr) → (∀ c fr, o ≠ .cells c 71 fr) → w4.heap[k]? = some o := fun k o e h1 h2 => by
      refine (R.block k ?_ ?_).trans e
      · rintro rfl
        obtain ⟨hh, o', n, e'⟩ := hJ3.jr
        rw [e] at e'
        cases e'
        exact h1 _ _ rfl
      · intro hm
        obtain ⟨sl, r, q, o', n, e', _, _⟩ := hJ3.L.mr k hm
        rw [e] at e'
        cases e'
        exact h2 _ _ rfl
    obtain ⟨hBq, cur, hcur, hcells⟩ := ownrow_blk go3
    refine ⟨cur, n4, o4, hJ3.re R X4, hF3.trans (R.fr hJ3.L hJ3.jB hJ3.mB), e4, ⟨hBq, hk _ _ hcur (by simp) (by simp), hcells⟩, hk _ _ k3 (by simp) (by simp), gM, hS3.trans (MapSub.of_keep fun es c e1 => hk _ _ e1 (by simp) (by simp)), ⟨fun k hk1 h1 h2 h3 => (R.block k h1 h3).trans (hK3 k hk1 h1 h2), fun m' hm' hne sl r q o n e1 q1 q2 => ?_⟩⟩
    have hml : m' < w.heap.size := (Array.getElem?_eq_some_iff.1 e1).1
    obtain ⟨o', n', e2, _, _⟩ := R.mr m' hm' sl r q o n ((hK3 m' hml (hJ3.L.ne hm') (fun e0 => by rw [e0, hmbw] at e1; simp [mrow] at e1)).trans e1) q1 q2
    exact ⟨o', n', e2⟩
  clear R H3
  have k45 : w4.cell? ⟨w.heap.size, 5, none⟩ = some (.int .i64 (tot : Nat)) := by rw [← hgk.out]; exact cell_of_row _ _ _ _ _ _ H4.out.2.2.2.2.1
  have cm4 : w4.cell? ⟨g.m, 0, none⟩ = some (.slice (some ⟨g.q, 0, none⟩) n g.cap) := by rw [← hlen.out]; exact cell_of_row _ _ _ _ _ _ H4.out.2.2.1
  have HIO : Hid (Calls Try.prog 54 #[.pointer (some ⟨g.m, 0, none⟩), .int .i64 (tot : Nat)] w4 fun e w' => e = .returned (.pointer (some ⟨g.m, 0, none⟩)) ∧ ∃ w1 q, w' = w1.setCell ⟨g.m, 0, none⟩ (.slice (some ⟨q, 0, none⟩) tot tot) ∧ w4.heap.size ≤ q ∧ NRow w1 q tot (slotP (partsL pb els g.ix)) ∧ Below w4.heap.size w4 w1) := by
    refine inOrderP_any g.m g.q g.cap n tot (partsL pb els g.ix) w4 cm4 (Array.getElem?_eq_some_iff.1 H4.out.2.2.1).1 (cell_frozen H4.out.2.2.1) (Array.getElem?_eq_some_iff.1 H4.out.2.2.2.1.2.1).1 (by show (partsL pb els g.ix).length = n; simp [partsL, hlen.out]) (by omega) (by omega) (by omega) (fun k p es hx => ?_) (fun x hx => ?_)
    · simp only [partsL, List.getElem?_map, Option.map_eq_some_iff] at hx
      obtain ⟨a, ha, hpe⟩ := hx
      cases hpe
      refine ⟨(cell_of_row _ _ _ _ _ _ H4.out.2.2.2.1.2.1).trans (H4.out.2.2.2.1.2.2 k _ (by simp [ptrs, ha])), ?_⟩
      exact (hP.out a (List.mem_of_getElem? ha)).1.1 w4 (H4.out.2.1.below hBw)
    · obtain ⟨a, ha, rfl⟩ := List.mem_map.1 hx
      exact (hP.out a ha).2
  go_wp2_with fail
  refine HIO.out.mono ?_
  rintro e5 w5 ⟨rfl, w1, q, rfl, hq, hN, hb5⟩
  have HF : Hid (JX (w1.setCell ⟨g.m, 0, none⟩ (.slice (some ⟨q, 0, none⟩) tot tot)) B j lim (hd - (n : Nat)) (O.erase g.m) M pb seq (some mb) (G.eraseIdx i) ∧ Fr isJ B w (w1.setCell ⟨g.m, 0, none⟩ (.slice (some ⟨q, 0, none⟩) tot tot)) ∧ MapSub w (w1.setCell ⟨g.m, 0, none⟩ (.slice (some ⟨q, 0, none⟩) tot tot)) mb ∧ Kept w (w1.setCell ⟨g.m, 0, none⟩ (.slice (some ⟨q, 0, none⟩) tot tot)) j mb g.m M ∧ ∃ q', w.heap.size ≤ q' ∧ Given (w1.setCell ⟨g.m, 0, none⟩ (.slice (some ⟨q, 0, none⟩) tot tot)) pb els M g q') := by
    obtain ⟨hJ4, hF4, gr4, ⟨hBq, hq4, _⟩, _, gM, hS4, hK4⟩ := H4.out
    have gml : g.m < w4.heap.size := (Array.getElem?_eq_some_iff.1 gr4).1
    have gr5 := (hb5.block _ gml).trans gr4
    have hJ5 := hJ4.below hb5
    have hset : ∀ k, k ≠ g.m → (w1.setCell ⟨g.m, 0, none⟩ (.slice (some ⟨q, 0, none⟩) tot tot)).heap[k]? = w1.heap[k]? := fun k hk => Below.heap_setCell _ _ _ _ (by exact hk)
    refine ⟨hJ5.setm0 gM (fun g' hg' => ?_) _, (hF4.trans (Fr.of_below hb5)).trans (Fr.of_set (hJ4.mB _ gM) gr5 fun c => Or.inl ⟨_, _, Or.inr (Or.inl rfl)⟩), hS4.trans (MapSub.of_keep fun es c e1 => (hset _ fun e0 => by rw [e0, gr4] at e1; simp [mrow] at e1).trans ((hb5.block _ (Array.getElem?_eq_some_iff.1 e1).1).trans e1)), ⟨fun k hk h1 h2 h3 => ?_, fun m' hm' hne sl r q o n e1 q1 q2 => ?_⟩, q, Nat.le_trans hF4.size hq, ⟨gM, tot, o4, n4, hgk.out.symm, (heap_set_same gr5 _).trans rfl, hN.block (hset _ (by omega))⟩⟩
    · obtain ⟨a, ha⟩ := List.mem_iff_getElem?.1 hg'
      exact (HAP.out _ i g' g (by split <;> omega) (get_erase ha) hi.out).1
    · exact (hset k (fun e0 => h3 (by rw [e0]; exact gM))).trans ((hb5.block k (Nat.lt_of_lt_of_le hk hF4.size)).trans (hK4.blk k hk h1 h2 h3))
    · obtain ⟨o', n', e2⟩ := hK4.row m' hm' hne sl r q o n e1 q1 q2
      exact ⟨o', n', (hset m' hne).trans ((hb5.block m' (Array.getElem?_eq_some_iff.1 e2).1).trans e2)⟩
  clear HIO H4 k45 cm4 hN hb5 hq
  go_wp2
  go_ret
  exact ⟨rfl, HF.out⟩

end Go.Proofs.Qxb6616208a
