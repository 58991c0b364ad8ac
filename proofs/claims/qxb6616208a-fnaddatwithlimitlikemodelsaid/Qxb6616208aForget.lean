/-
  inOrder (54) of a complete message; forget (42).
-/
import Derived.Test.Qxb6616208aJoin
namespace Go.Proofs.Qxb6616208a
open Go.RowKit
set_option linter.unusedVariables false
set_option linter.unusedSimpArgs false

/-- what the sort leaves -/
structure Sorted (w w' : World) (q : Nat) (L : List (Nat × List El)) (L' : List (Nat × List El)) (cur' : Array Value) : Prop where
  perm : L'.Perm L
  asc : ∀ (i j : Nat) (x y : Nat × List El), i < j → L'[i]? = some x → L'[j]? = some y → pno x.2 ≤ pno y.2
  blk : w'.heap[q]? = some (.cells cur' 32 (0, 0))
  cells : ∀ (i : Nat) (x : Nat × List El), L'[i]? = some x → cur'[i]? = some (Value.pointer (some ⟨x.1, 0, none⟩))
  gr : w.grownBy w' (some q)

set_option maxHeartbeats 1000000 in
theorem inOrder_any (B m q cap n : Nat) (L : List (Nat × List El)) (w : World) (cur : Array Value) (hm : w.cell? ⟨m, 0, none⟩ = some (.slice (some ⟨q, 0, none⟩) n cap)) (hB : B ≤ q) (hblk : Hid (w.heap[q]? = some (.cells cur 32 (0, 0)))) (hn : Hid (L.length = n)) (hlen : n < 1048576) (hne : L ≠ [])
    (hc : Hid (∀ (i : Nat) (x : Nat × List El), L[i]? = some x → cur[i]? = some (Value.pointer (some ⟨x.1, 0, none⟩)))) (hP : Hid (∀ x ∈ L, Good B w x)) :
    Calls Try.prog 54 #[.pointer (some ⟨m, 0, none⟩), .int .i64 (n : Nat)] w fun e w' => e = .returned (.pointer (some ⟨m, 0, none⟩)) ∧ ∃ L' cur', Sorted w w' q L L' cur' := by
  have HS : Hid (Calls Try.prog 57 #[.slice (some ⟨q, 0, none⟩) n cap, .func (.func 58) #[] #[]] w fun e w' => e = .returned (.tuple #[]) ∧ ∃ L' cur', Sorted w w' q L L' cur') :=
    (sort_any B q cap n L w cur hB hblk.out hn.out (by omega) hne hc.out hP.out).mono fun e w' ⟨h1, L', cur', h2, h3, h4, h5, h6⟩ => ⟨h1, L', cur', h2, h3, h4, h5, h6⟩
  clear hblk hn hc hP hne
  go_enter Try.func54, Try.ntmps54
  go_wp2_with fail
  refine HS.out.mono ?_
  rintro e w' ⟨rfl, L', cur', hS⟩
  have HX : Hid (Sorted w w' q L L' cur') := hS
  clear hS HS
  go_wp2
  go_ret
  exact ⟨rfl, L', cur', HX⟩

theorem ownrow_blk {w : World} {B q n cap : Nat} {xs : List Value} (h : w.ownsRow B 32 1 (.slice (some ⟨q, 0, none⟩) n cap) n xs) : B ≤ q ∧ ∃ cur, w.heap[q]? = some (.cells cur 32 (0, 0)) ∧ ∀ (i : Nat) (v : Value), xs[i]? = some v → cur[i]? = some v := by
  rcases h.2 with ⟨e, _⟩ | ⟨g, cap', cur, e, hB, hg, h1, h2, h3, h4⟩
  · cases e
  · simp only [Value.slice.injEq, Option.some.injEq, Addr.mk.injEq] at e
    obtain ⟨⟨rfl, -⟩, -, rfl⟩ := e
    refine ⟨hB, cur, hg, fun i v hv => ?_⟩
    rw [← h4, List.getElem?_take] at hv
    split at hv
    · simpa using hv
    · cases hv

/-- the parts of a message, as the sort takes them -/
def partsL (pb : Nat → Nat) (els : Nat → List El) (ix : List Nat) : List (Nat × List El) := ix.map fun a => (pb a, els a)

structure Forgot (w' : World) (pb : Nat → Nat) (els : Nat → List El) (g : JG) : Prop where
  row : ∃ o n, w'.heap[g.m]? = some (mrow g.sl g.key.ref g.sq o n)
  parts : ∃ (L' : List (Nat × List El)) (cur' : Array Value), L'.Perm (partsL pb els g.ix) ∧ (∀ (i j : Nat) (x y : Nat × List El), i < j → L'[i]? = some x → L'[j]? = some y → pno x.2 ≤ pno y.2) ∧ w'.heap[g.q]? = some (.cells cur' 32 (0, 0)) ∧ ∀ (i : Nat) (x : Nat × List El), L'[i]? = some x → cur'[i]? = some (Value.pointer (some ⟨x.1, 0, none⟩))

theorem Good.below {B : Nat} {w w' : World} {x : Nat × List El} (h : Good B w x) (hb : Below B w w') : Good B w' x := ⟨fun W hW => h.1 W (hb.trans hW), h.2⟩

set_option maxHeartbeats 2000000 in
set_option maxRecDepth 100000 in
theorem forget_any (B j : Nat) (lim : Int) (M : Nat → Prop) (pb : Nat → Nat) (els : Nat → List El) (seq : Int) (pend : Option Nat) (G : List JG) (i tot : Nat) (g : JG) (w : World) (hJ : Hid (JI w B j lim M pb seq pend G)) (hi : Hid (G[i]? = some g)) (htot : Hid (g.ix.length = tot)) (hgk : Hid (g.key.tot = tot)) (ht : tot < 1048576) (hne : g.ix ≠ []) (hBw : B ≤ w.heap.size) (hP : Hid (∀ a ∈ g.ix, Good B w (pb a, els a))) :
    Calls Try.prog 42 #[.pointer (some ⟨j, 0, none⟩), .agg #[.int .i64 g.key.typ, .int .u8 g.key.ton, .int .u8 g.key.npi, .string g.key.num, .int .i64 g.key.ref, .int .i64 g.key.tot], .pointer (some ⟨g.m, 0, none⟩)] w
      fun e w' => e = .returned (.pointer (some ⟨g.m, 0, none⟩)) ∧ JI w' B j lim M pb seq pend (G.eraseIdx i) ∧ Fr isJ B w w' ∧ Forgot w' pb els g := by
  have HAP : Hid (∀ (i i' : Nat) (g g' : JG), i ≠ i' → G[i]? = some g → G[i']? = some g' → g.m ≠ g'.m ∧ g.q ≠ g'.q ∧ g.key ≠ g'.key) := hJ.out.ap
  have hgG : g ∈ G := List.mem_of_getElem? hi.out
  obtain ⟨mb, E, rfl, hBm, hMap, hPerm⟩ := hJ.out.mapblk hgG
  have hb1 : Below w.heap.size w (w.alloc (.cells #[.int .i64 g.key.typ, .int .u8 g.key.ton, .int .u8 g.key.npi, .string g.key.num, .int .i64 g.key.ref, .int .i64 g.key.tot] 97)) := (Below.refl _ _).alloc (Nat.le_refl _) _
  have hJ1 : Hid (JI (w.alloc (.cells #[.int .i64 g.key.typ, .int .u8 g.key.ton, .int .u8 g.key.npi, .string g.key.num, .int .i64 g.key.ref, .int .i64 g.key.tot] 97)).drew B j lim M pb seq (some mb) G) := hJ.out.below hb1.drew
  have hMap1 : MapIs (w.alloc (.cells #[.int .i64 g.key.typ, .int .u8 g.key.ton, .int .u8 g.key.npi, .string g.key.num, .int .i64 g.key.ref, .int .i64 g.key.tot] 97)).drew mb E := hMap.block (hb1.block mb hMap.lt)
  have hok := ents_ok hJ.out hPerm
  obtain ⟨w2, e, hdel, hEe, hM2, hg2, hs2⟩ := del_key hMap1 hok g.key (hok _ (ent_mem hPerm hgG)) (ent_mem hPerm hgG) (ent_uniq hJ.out hPerm hgG)
  obtain ⟨es0, c0, hmb0, _⟩ := hMap1
  have hmb : w.cell? ⟨j, 0, none⟩ = some (.map (some mb)) := by obtain ⟨_, _, _, _, _, _, h, _⟩ := hJ.out.j_cells; exact h
  have hjl := hJ.out.jlt
  have c0' : ∀ o, (w.alloc o).cell? ⟨j, 0, none⟩ = some (.map (some mb)) := fun o => (World.cell?_alloc_lt _ _ _ (by exact hjl)).trans hmb
  have hJ2 : JI w2 B j lim M pb seq (some mb) (G.eraseIdx i) := hJ1.out.erase hi.out rfl hBm hPerm hEe ⟨_, _, hmb0⟩ hg2 hM2
  have hF2 : Fr isJ B w w2 := (Fr.of_below hb1.drew).trans (Fr.of_grown hg2 fun k hk => by cases hk; exact ⟨hBm, fun o ho => by rw [hmb0] at ho; cases ho; exact Or.inr ⟨_, _, rfl⟩⟩)
  -- the message and its row, behind the delete
  obtain ⟨gM, ⟨o1, n1, gr1⟩, go1, gk1⟩ := hJ1.out.ok g hgG
  have gr2 : w2.heap[g.m]? = some (mrow g.sl g.key.ref g.sq o1 n1) := (hg2.block _ (Array.getElem?_eq_some_iff.1 gr1).1 (fun e0 => by cases e0; rw [hmb0] at gr1; simp [mrow] at gr1)).trans gr1
  have go2 : w2.ownsRow B 32 1 g.sl g.ix.length (ptrs pb g.ix) := own_keep go1 fun k c _ e1 => hg2.block _ (Array.getElem?_eq_some_iff.1 e1).1 (fun e0 => by cases e0; rw [hmb0] at e1; simp at e1)
  have k2 : w2.heap[w.heap.size]? = some (.cells #[.int .i64 g.key.typ, .int .u8 g.key.ton, .int .u8 g.key.npi, .string g.key.num, .int .i64 g.key.ref, .int .i64 g.key.tot] 97) := (hg2.block _ (by show w.heap.size < (w.alloc _).heap.size; simp) (fun e0 => by have h1 := hMap.lt; cases e0; omega)).trans (heap_alloc_new w _)
  obtain ⟨hd2, oj2, nj2, ej2, _, _, cj0, cj1, cj2, cj3, fj⟩ := hJ2.j_cells
  have cm0 : w2.cell? ⟨g.m, 0, none⟩ = some (.slice (some ⟨g.q, 0, none⟩) tot g.cap) := by rw [← htot.out]; exact cell_of_row _ _ _ _ _ _ gr2
  have H2 : Hid (JI w2 B j lim M pb seq (some mb) (G.eraseIdx i) ∧ Fr isJ B w w2 ∧ w2.heap[g.m]? = some (mrow g.sl g.key.ref g.sq o1 n1) ∧ w2.ownsRow B 32 1 g.sl g.ix.length (ptrs pb g.ix) ∧ w2.heap[w.heap.size]? = some (.cells #[.int .i64 g.key.typ, .int .u8 g.key.ton, .int .u8 g.key.npi, .string g.key.num, .int .i64 g.key.ref, .int .i64 g.key.tot] 97) ∧ M g.m) := ⟨hJ2, hF2, gr2, go2, k2, gM⟩
  have hdel' : ∀ ty, (Builtin.delete_ #[57, 97] ty #[.map (some mb), .agg #[.int .i64 g.key.typ, .int .u8 g.key.ton, .int .u8 g.key.npi, .string g.key.num, .int .i64 g.key.ref, .int .i64 g.key.tot]]).run Try.prog (w.alloc (.cells #[.int .i64 g.key.typ, .int .u8 g.key.ton, .int .u8 g.key.npi, .string g.key.num, .int .i64 g.key.ref, .int .i64 g.key.tot] 97)).drew = .ok (.tuple #[]) w2 := hdel
  clear hdel hMap hPerm hok hEe hM2 hg2 hs2 hmb0 hJ1 hJ2 hF2 gr1 go1 gk1 gr2 go2 k2 ej2 cj0 cj1 cj2 hb1 hmb gM hJ
  go_enter Try.func42, Try.ntmps42
  go_wp2
  go_region
  go_wp2
  go_region
  clear cm0 cj3 fj c0' hdel'
  have hlt := hjl
  obtain ⟨w3, hw3⟩ : ∃ w3, w3 = (w2.setCell ⟨j, 3, none⟩ (.int .i64 (wrap64 (hd2 - (tot : Nat))))).drew := ⟨_, rfl⟩
  rw [← hw3]
  have H3 : Hid (JI w3 B j lim M pb seq (some mb) (G.eraseIdx i) ∧ Fr isJ B w w3 ∧ w3.heap[g.m]? = some (mrow g.sl g.key.ref g.sq o1 n1) ∧ w3.ownsRow B 32 1 g.sl g.ix.length (ptrs pb g.ix) ∧ w3.heap[w.heap.size]? = some (.cells #[.int .i64 g.key.typ, .int .u8 g.key.ton, .int .u8 g.key.npi, .string g.key.num, .int .i64 g.key.ref, .int .i64 g.key.tot] 97) ∧ M g.m) := by
    obtain ⟨hJ2, hF2, gr2, go2, k2, gM⟩ := H2.out
    have hne2 : ∀ k, k ≠ j → w3.heap[k]? = w2.heap[k]? := fun k hk => by rw [hw3]; exact Below.heap_setCell _ _ _ _ (by exact hk)
    refine ⟨?_, ?_, (hne2 _ (hJ2.L.ne gM)).trans gr2, own_keep go2 fun k c _ e1 => hne2 k ?_, (hne2 _ (by omega)).trans k2, gM⟩
    · rw [hw3]; exact (hJ2.held _).keep fun k o e _ => e
    · rw [hw3]; exact (hF2.trans (hJ2.fr_set 3 _)).trans (Fr.of_below (Below.refl _ _).drew)
    · rintro rfl
      obtain ⟨_, _, _, ej, _⟩ := hJ2.j_cells
      rw [e1] at ej
      simp [jrow] at ej
  clear hw3 H2
  go_wp2_with fail
  refine (unlink_any j g.m M w3 H3.out.1.L H3.out.2.2.2.2.2).mono ?_
  rintro e4 w4 ⟨rfl, R⟩
  obtain ⟨cur, n4, o4, H4⟩ : ∃ cur n4 o4, Hid (JI w4 B j lim M pb seq (some mb) (G.eraseIdx i) ∧ Fr isJ B w w4 ∧ w4.heap[g.m]? = some (mrow g.sl g.key.ref g.sq o4 n4) ∧ (B ≤ g.q ∧ w4.heap[g.q]? = some (.cells cur 32 (0, 0)) ∧ ∀ (i : Nat) (v : Value), (ptrs pb g.ix)[i]? = some v → cur[i]? = some v) ∧ w4.heap[w.heap.size]? = some (.cells #[.int .i64 g.key.typ, .int .u8 g.key.ton, .int .u8 g.key.npi, .string g.key.num, .int .i64 g.key.ref, .int .i64 g.key.tot] 97)) := by
    obtain ⟨hJ3, hF3, gr3, go3, k3, gM⟩ := H3.out
    obtain ⟨sl, r, q, o, n, e', p1, p2⟩ := hJ3.L.mr g.m gM
    rw [gr3] at e'
    obtain ⟨rfl, rfl, rfl, rfl, rfl⟩ := mrow_inj (Option.some.inj e')
    obtain ⟨o4, n4, e4, _, _⟩ := R.mr g.m gM _ _ _ _ _ gr3 p1 p2
    have hk : ∀ (k : Nat) (o : Obj), w3.heap[k]? = some o → (∀ c fr, o ≠ .cells c 60 fr) → (∀ c fr, o ≠ .cells c 71 fr) → w4.heap[k]? = some o := fun k o e h1 h2 => by
      refine (R.block k ?_ ?_).trans e
      · rintro rfl
        obtain ⟨hh, o', n, e'⟩ := hJ3.jr
        rw [e] at e'
        cases e'
        exact h1 _ _ rfl
      · intro hm
        obtain ⟨sl, r, q, o', n, e', _, _⟩ := hJ3.L.mr k hm
        rw [e] at e'
        cases e'
        exact h2 _ _ rfl
    obtain ⟨hBq, cur, hcur, hcells⟩ := ownrow_blk go3
    exact ⟨cur, n4, o4, hJ3.re R, hF3.trans (R.fr hJ3.L hJ3.jB hJ3.mB), e4, ⟨hBq, hk _ _ hcur (by simp) (by simp), hcells⟩, hk _ _ k3 (by simp) (by simp)⟩
  clear R H3
  have k45 : w4.cell? ⟨w.heap.size, 5, none⟩ = some (.int .i64 (tot : Nat)) := by rw [← hgk.out]; exact cell_of_row _ _ _ _ _ _ H4.out.2.2.2.2
  have cm4 : w4.cell? ⟨g.m, 0, none⟩ = some (.slice (some ⟨g.q, 0, none⟩) tot g.cap) := by rw [← htot.out]; exact cell_of_row _ _ _ _ _ _ H4.out.2.2.1
  have HIO : Hid (Calls Try.prog 54 #[.pointer (some ⟨g.m, 0, none⟩), .int .i64 (tot : Nat)] w4 fun e w' => e = .returned (.pointer (some ⟨g.m, 0, none⟩)) ∧ ∃ L' cur', Sorted w4 w' g.q (partsL pb els g.ix) L' cur') := by
    refine inOrder_any B g.m g.q g.cap tot (partsL pb els g.ix) w4 cur cm4 H4.out.2.2.2.1.1 H4.out.2.2.2.1.2.1 (by show (partsL pb els g.ix).length = tot; simp [partsL, htot.out]) ht (by simpa [partsL] using hne) (fun k x hx => ?_) (fun x hx => ?_)
    · simp only [partsL, List.getElem?_map, Option.map_eq_some_iff] at hx
      obtain ⟨a, ha, rfl⟩ := hx
      exact H4.out.2.2.2.1.2.2 k _ (by simp [ptrs, ha])
    · obtain ⟨a, ha, rfl⟩ := List.mem_map.1 hx
      exact (hP.out a ha).below (H4.out.2.1.below hBw)
  go_wp2_with fail
  refine HIO.out.mono ?_
  rintro e5 w5 ⟨rfl, L', cur', S⟩
  have HF : Hid (JI w5 B j lim M pb seq (some mb) (G.eraseIdx i) ∧ Fr isJ B w w5 ∧ Forgot w5 pb els g) := by
    obtain ⟨hJ4, hF4, gr4, ⟨hBq, hq4, _⟩, _⟩ := H4.out
    refine ⟨hJ4.grown_q S.gr hq4 fun g' hg' => ?_, hF4.trans (Fr.of_grown S.gr fun k hk => by cases hk; exact ⟨hBq, fun o ho => by rw [hq4] at ho; cases ho; exact Or.inl ⟨_, _, Or.inr (Or.inr rfl)⟩⟩), ⟨⟨o4, n4, ?_⟩, L', cur', S.perm, S.asc, S.blk, S.cells⟩⟩
    · obtain ⟨a, ha⟩ := List.mem_iff_getElem?.1 hg'
      exact (HAP.out _ i g' g (by split <;> omega) (get_erase ha) hi.out).2.1
    · have hmq : g.m ≠ g.q := fun e1 => by
        rw [e1, hq4] at gr4
        simp [mrow] at gr4
      exact (S.gr.block _ (Array.getElem?_eq_some_iff.1 gr4).1 (fun e0 => hmq (by simpa using e0))).trans gr4
  clear S HIO H4 k45 cm4
  go_wp2
  go_ret
  exact ⟨rfl, HF.out⟩

end Go.Proofs.Qxb6616208a
