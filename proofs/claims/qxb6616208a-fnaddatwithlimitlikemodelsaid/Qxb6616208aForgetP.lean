/-
  forget (42) of a message that misses parts.
-/
import Derived.Test.Qxb6616208aInOrd
namespace Go.Proofs.Qxb6616208a
open Go.RowKit Go.Maps
open Go.ChangeMaps (setBlock)
set_option linter.unusedVariables false
set_option linter.unusedSimpArgs false

/-- entries of the map taken out, none laid in -/
def MapSub (w w' : World) (mb : Nat) : Prop := ∀ es c, w.heap[mb]? = some (.map es c) → ∃ es', w'.heap[mb]? = some (.map es' c) ∧ es'.toList.Sublist es.toList

theorem del_key2 {w : World} {mb : Nat} {L : List (Key × Nat)} (h : MapIs w mb L) (hL : ∀ x ∈ L, x.1.Ok) (k : Key) (hk : k.Ok) {m : Nat} (hm : (k, m) ∈ L) (hu : ∀ m', (k, m') ∈ L → m' = m) :
    ∃ w' j, (∀ ty, (Builtin.delete_ #[57, 97] ty #[.map (some mb), k.val]).run Try.prog w = .ok (.tuple #[]) w') ∧ L[j]? = some (k, m) ∧ MapIs w' mb (L.eraseIdx j) ∧ w.grownBy w' (some mb) ∧ w'.heap.size = w.heap.size ∧ MapSub w w' mb := by
  have hlt := h.lt
  obtain ⟨es, c, h1, h2, h3⟩ := h
  obtain ⟨l, hl⟩ := key_of k hk
  rcases find_key h3 hL k hk w with ⟨_, f, _⟩ | ⟨j, x, f, hx, e⟩
  · exact absurd rfl (f (k, m) hm)
  · obtain ⟨k', m'⟩ := x
    simp only [] at e f
    subst e
    have hm' := hu m' (List.mem_of_getElem? hx)
    subst hm'
    have hjL : j < L.length := (List.getElem?_eq_some_iff.1 hx).1
    have hjs : j < es.size := by
      have := congrArg List.length h3
      simp at this
      omega
    have hsub : (es.eraseIdxIfInBounds j).toList = es.toList.eraseIdx j := by
      unfold Array.eraseIdxIfInBounds
      rw [dif_pos hjs]
      simp
    refine ⟨setBlock w mb (.map (es.eraseIdxIfInBounds j) c), j, ?_, hx, ⟨_, _, setBlock_heap _ _ _ hlt, MapKept.stamped_erase h2 j, ?_⟩, setBlock_grown _ _ _, by simp [setBlock], ?_⟩
    · intro ty
      simp [Builtin.delete_, run_underlying Try.underlying57, MapKept.run_getObj_map h1, keyed97.check w _ hl, f, MapKept.run_setObj_map _ h1, Result.andThen, setBlock]
    · rw [hsub, ChangeMaps.map_eraseIdx, h3, ChangeMaps.map_eraseIdx]
    · intro es0 c0 e0
      rw [h1] at e0
      cases e0
      exact ⟨_, setBlock_heap _ _ _ hlt, by rw [hsub]; exact List.eraseIdx_sublist _ _⟩

theorem MapSub.refl (w : World) (mb : Nat) : MapSub w w mb := fun es c e => ⟨es, e, List.Sublist.refl _⟩
theorem MapSub.trans {a b c : World} {mb : Nat} (h : MapSub a b mb) (g : MapSub b c mb) : MapSub a c mb := fun es cl e => by
  obtain ⟨es1, e1, s1⟩ := h es cl e
  obtain ⟨es2, e2, s2⟩ := g es1 cl e1
  exact ⟨es2, e2, s2.trans s1⟩
theorem MapSub.of_keep {w w' : World} {mb : Nat} (h : ∀ es c, w.heap[mb]? = some (.map es c) → w'.heap[mb]? = some (.map es c)) : MapSub w w' mb := fun es c e => ⟨es, h es c e, List.Sublist.refl _⟩

/-- a message that is no longer held: its slice turned -/
theorem JI.setm0 {w : World} {B j : Nat} {lim : Int} {M : Nat → Prop} {pb : Nat → Nat} {seq : Int} {pend : Option Nat} {G : List JG} (h : JI w B j lim M pb seq pend G) {m : Nat} (hm : M m) (hne : ∀ g ∈ G, g.m ≠ m) (v : Value) : JI (w.setCell ⟨m, 0, none⟩ v) B j lim M pb seq pend G := by
  obtain ⟨sl, r, q, o, n, em, p1, p2⟩ := h.L.mr m hm
  have hk : ∀ (k : Nat) (ob : Obj), w.heap[k]? = some ob → k ≠ m → (w.setCell ⟨m, 0, none⟩ v).heap[k]? = some ob := fun k ob e1 h1 => (Below.heap_setCell _ _ _ _ (by exact h1)).trans e1
  have hk2 : ∀ (k : Nat) (ob : Obj), w.heap[k]? = some ob → (∀ c fr, ob ≠ .cells c 71 fr) → (w.setCell ⟨m, 0, none⟩ v).heap[k]? = some ob := fun k ob e1 h1 => hk k ob e1 fun e => by
    subst e
    rw [em] at e1
    cases e1
    exact h1 _ _ rfl
  refine ⟨⟨?_, fun m' hm' => ?_⟩, ?_, h.jB, h.mB, ?_, fun g hg => ?_, h.ap⟩
  · obtain ⟨p, s, l, hh, o, n, e, h1, h2⟩ := h.L.jr
    exact ⟨p, s, l, hh, o, n, hk2 _ _ e (by simp [jrow]), h1, h2⟩
  · by_cases e : m' = m
    · subst e
      exact ⟨v, r, q, o, n, (heap_set_same em _).trans rfl, p1, p2⟩
    · obtain ⟨sl, r, q, o, n, e', h1, h2⟩ := h.L.mr m' hm'
      exact ⟨sl, r, q, o, n, hk _ _ e' e, h1, h2⟩
  · obtain ⟨hh, o, n, e⟩ := h.jr
    exact ⟨hh, o, n, hk2 _ _ e (by simp [jrow])⟩
  · rcases h.map with h1 | ⟨mb, E, e1, e2, e3, e5⟩
    · exact Or.inl h1
    · exact Or.inr ⟨mb, E, e1, e2, e3.keep fun k es c e4 => hk2 _ _ e4 (by simp), e5⟩
  · obtain ⟨h1, ⟨o, n, h2⟩, h3, h4⟩ := h.ok g hg
    exact ⟨h1, ⟨o, n, hk _ _ h2 (hne g hg)⟩, own_keep h3 fun k c e0 e => (hk2 _ _ e (by simp)).trans e.symm, h4⟩

/-- what stays over a forget -/
structure Kept (w w' : World) (j mb m : Nat) (M : Nat → Prop) : Prop where
  blk : ∀ k, k < w.heap.size → k ≠ j → k ≠ mb → ¬ M k → w'.heap[k]? = w.heap[k]?
  row : ∀ m', M m' → m' ≠ m → ∀ sl r q o n, w.heap[m']? = some (mrow sl r q o n) → PtrIn M o → PtrIn M n → ∃ o' n', w'.heap[m']? = some (mrow sl r q o' n')

/-- a message handed out that misses parts -/
structure Given (w : World) (pb : Nat → Nat) (els : Nat → List El) (M : Nat → Prop) (g : JG) (q : Nat) : Prop where
  inM : M g.m
  row : ∃ (tot : Nat) (o n : Option Addr), (tot : Int) = g.key.tot ∧ w.heap[g.m]? = some (mrow (.slice (some ⟨q, 0, none⟩) tot tot) g.key.ref g.sq o n) ∧ NRow w q tot (slotP (partsL pb els g.ix))

set_option maxHeartbeats 2000000 in
set_option maxRecDepth 100000 in
theorem forgetP_any (B j : Nat) (lim : Int) (M : Nat → Prop) (pb : Nat → Nat) (els : Nat → List El) (seq : Int) (mb : Nat) (G : List JG) (i n tot : Nat) (g : JG) (w : World) (hJ : Hid (JI w B j lim M pb seq (some mb) G)) (hi : Hid (G[i]? = some g)) (hlen : Hid (g.ix.length = n)) (hgk : Hid (g.key.tot = tot)) (hnt : n < tot) (ht : tot < 65536) (hBw : B ≤ w.heap.size) (hP : Hid (∀ a ∈ g.ix, Good B w (pb a, els a) ∧ 1 ≤ pno (els a) ∧ pno (els a) ≤ tot)) :
    Calls Try.prog 42 #[.pointer (some ⟨j, 0, none⟩), .agg #[.int .i64 g.key.typ, .int .u8 g.key.ton, .int .u8 g.key.npi, .string g.key.num, .int .i64 g.key.ref, .int .i64 g.key.tot], .pointer (some ⟨g.m, 0, none⟩)] w
      fun e w' => e = .returned (.pointer (some ⟨g.m, 0, none⟩)) ∧ JI w' B j lim M pb seq (some mb) (G.eraseIdx i) ∧ Fr isJ B w w' ∧ MapSub w w' mb ∧ Kept w w' j mb g.m M ∧ ∃ q, w.heap.size ≤ q ∧ Given w' pb els M g q := by
  have HAP : Hid (∀ (i i' : Nat) (g g' : JG), i ≠ i' → G[i]? = some g → G[i']? = some g' → g.m ≠ g'.m ∧ g.q ≠ g'.q ∧ g.key ≠ g'.key) := hJ.out.ap
  have hgG : g ∈ G := List.mem_of_getElem? hi.out
  obtain ⟨mb', E, hmbe, hBm, hMap, hPerm⟩ := hJ.out.mapblk hgG
  cases hmbe
  have hb1 : Below w.heap.size w (w.alloc (.cells #[.int .i64 g.key.typ, .int .u8 g.key.ton, .int .u8 g.key.npi, .string g.key.num, .int .i64 g.key.ref, .int .i64 g.key.tot] 97)) := (Below.refl _ _).alloc (Nat.le_refl _) _
  have hJ1 : Hid (JI (w.alloc (.cells #[.int .i64 g.key.typ, .int .u8 g.key.ton, .int .u8 g.key.npi, .string g.key.num, .int .i64 g.key.ref, .int .i64 g.key.tot] 97)).drew B j lim M pb seq (some mb) G) := hJ.out.below hb1.drew
  have hMap1 : MapIs (w.alloc (.cells #[.int .i64 g.key.typ, .int .u8 g.key.ton, .int .u8 g.key.npi, .string g.key.num, .int .i64 g.key.ref, .int .i64 g.key.tot] 97)).drew mb E := hMap.block (hb1.block mb hMap.lt)
  have hok := ents_ok hJ.out hPerm
  obtain ⟨w2, e, hdel, hEe, hM2, hg2, hs2, hsub2⟩ := del_key2 hMap1 hok g.key (hok _ (ent_mem hPerm hgG)) (ent_mem hPerm hgG) (ent_uniq hJ.out hPerm hgG)
  obtain ⟨es0, c0, hmb0, _⟩ := hMap1
  have hmb : w.cell? ⟨j, 0, none⟩ = some (.map (some mb)) := by obtain ⟨_, _, _, _, _, _, h, _⟩ := hJ.out.j_cells; exact h
  have hjl := hJ.out.jlt
  have c0' : ∀ o, (w.alloc o).cell? ⟨j, 0, none⟩ = some (.map (some mb)) := fun o => (World.cell?_alloc_lt _ _ _ (by exact hjl)).trans hmb
  have hJ2 : JI w2 B j lim M pb seq (some mb) (G.eraseIdx i) := hJ1.out.erase hi.out rfl hBm hPerm hEe ⟨_, _, hmb0⟩ hg2 hM2
  have hF2 : Fr isJ B w w2 := (Fr.of_below hb1.drew).trans (Fr.of_grown hg2 fun k hk => by cases hk; exact ⟨hBm, fun o ho => by rw [hmb0] at ho; cases ho; exact Or.inr ⟨_, _, rfl⟩⟩)
  have hmbw : w.heap[mb]? = some (.map es0 c0) := (hb1.block mb hMap.lt).symm.trans hmb0
  have hS2 : MapSub w w2 mb := fun es c e0 => hsub2 es c ((hb1.block mb hMap.lt).trans e0)
  have hK2 : ∀ k, k < w.heap.size → k ≠ mb → w2.heap[k]? = w.heap[k]? := fun k hk hne => (hg2.block k (by show k < (w.alloc _).heap.size; simp; omega) (fun e0 => by cases e0; exact hne rfl)).trans (hb1.block k hk)
  -- the message and its row, behind the delete
  obtain ⟨gM, ⟨o1, n1, gr1⟩, go1, gk1⟩ := hJ1.out.ok g hgG
  have gr2 : w2.heap[g.m]? = some (mrow g.sl g.key.ref g.sq o1 n1) := (hg2.block _ (Array.getElem?_eq_some_iff.1 gr1).1 (fun e0 => by cases e0; rw [hmb0] at gr1; simp [mrow] at gr1)).trans gr1
  have go2 : w2.ownsRow B 32 1 g.sl g.ix.length (ptrs pb g.ix) := own_keep go1 fun k c _ e1 => hg2.block _ (Array.getElem?_eq_some_iff.1 e1).1 (fun e0 => by cases e0; rw [hmb0] at e1; simp at e1)
  have k2 : w2.heap[w.heap.size]? = some (.cells #[.int .i64 g.key.typ, .int .u8 g.key.ton, .int .u8 g.key.npi, .string g.key.num, .int .i64 g.key.ref, .int .i64 g.key.tot] 97) := (hg2.block _ (by show w.heap.size < (w.alloc _).heap.size; simp) (fun e0 => by have h1 := hMap.lt; cases e0; omega)).trans (heap_alloc_new w _)
  obtain ⟨hd2, oj2, nj2, ej2, _, _, cj0, cj1, cj2, cj3, fj⟩ := hJ2.j_cells
  have cm0 : w2.cell? ⟨g.m, 0, none⟩ = some (.slice (some ⟨g.q, 0, none⟩) n g.cap) := by rw [← hlen.out]; exact cell_of_row _ _ _ _ _ _ gr2
  have H2 : Hid (JI w2 B j lim M pb seq (some mb) (G.eraseIdx i) ∧ Fr isJ B w w2 ∧ w2.heap[g.m]? = some (mrow g.sl g.key.ref g.sq o1 n1) ∧ w2.ownsRow B 32 1 g.sl g.ix.length (ptrs pb g.ix) ∧ w2.heap[w.heap.size]? = some (.cells #[.int .i64 g.key.typ, .int .u8 g.key.ton, .int .u8 g.key.npi, .string g.key.num, .int .i64 g.key.ref, .int .i64 g.key.tot] 97) ∧ M g.m ∧ MapSub w w2 mb ∧ (∀ k, k < w.heap.size → k ≠ mb → w2.heap[k]? = w.heap[k]?) ∧ w.heap[mb]? = some (.map es0 c0)) := ⟨hJ2, hF2, gr2, go2, k2, gM, hS2, hK2, hmbw⟩
  have hdel' : ∀ ty, (Builtin.delete_ #[57, 97] ty #[.map (some mb), .agg #[.int .i64 g.key.typ, .int .u8 g.key.ton, .int .u8 g.key.npi, .string g.key.num, .int .i64 g.key.ref, .int .i64 g.key.tot]]).run Try.prog (w.alloc (.cells #[.int .i64 g.key.typ, .int .u8 g.key.ton, .int .u8 g.key.npi, .string g.key.num, .int .i64 g.key.ref, .int .i64 g.key.tot] 97)).drew = .ok (.tuple #[]) w2 := hdel
  clear hdel hMap hPerm hok hEe hM2 hg2 hs2 hmb0 hJ1 hJ2 hF2 gr1 go1 gk1 gr2 go2 k2 ej2 cj0 cj1 cj2 hb1 hmb gM hJ hsub2 hS2 hK2 hmbw
  go_enter Try.func42, Try.ntmps42
  go_wp2
  go_region
  go_wp2
  go_region
  clear cm0 cj3 fj c0' hdel'
  have hlt := hjl
  obtain ⟨w3, hw3⟩ : ∃ w3, w3 = (w2.setCell ⟨j, 3, none⟩ (.int .i64 (wrap64 (hd2 - (n : Nat))))).drew := ⟨_, rfl⟩
  rw [← hw3]
  have H3 : Hid (JI w3 B j lim M pb seq (some mb) (G.eraseIdx i) ∧ Fr isJ B w w3 ∧ w3.heap[g.m]? = some (mrow g.sl g.key.ref g.sq o1 n1) ∧ w3.ownsRow B 32 1 g.sl g.ix.length (ptrs pb g.ix) ∧ w3.heap[w.heap.size]? = some (.cells #[.int .i64 g.key.typ, .int .u8 g.key.ton, .int .u8 g.key.npi, .string g.key.num, .int .i64 g.key.ref, .int .i64 g.key.tot] 97) ∧ M g.m ∧ MapSub w w3 mb ∧ (∀ k, k < w.heap.size → k ≠ j → k ≠ mb → w3.heap[k]? = w.heap[k]?) ∧ w.heap[mb]? = some (.map es0 c0)) := by
    obtain ⟨hJ2, hF2, gr2, go2, k2, gM, hS2, hK2, hmbw⟩ := H2.out
    have hne2 : ∀ k, k ≠ j → w3.heap[k]? = w2.heap[k]? := fun k hk => by rw [hw3]; exact Below.heap_setCell _ _ _ _ (by exact hk)
    have hjr : ∃ c, w2.heap[j]? = some (.cells c 60 (0, 0)) := by obtain ⟨_, _, _, ej, _⟩ := hJ2.j_cells; exact ⟨_, ej⟩
    have hjmb : j ≠ mb := fun e0 => by
      obtain ⟨c, hc⟩ := hjr
      obtain ⟨es', h1, _⟩ := hS2 _ _ hmbw
      rw [e0, h1] at hc
      cases hc
    refine ⟨?_, ?_, (hne2 _ (hJ2.L.ne gM)).trans gr2, own_keep go2 fun k c _ e1 => hne2 k ?_, (hne2 _ (by omega)).trans k2, gM, hS2.trans (MapSub.of_keep fun es c e1 => (hne2 _ fun e0 => hjmb e0.symm).trans e1), fun k hk h1 h2 => (hne2 k h1).trans (hK2 k hk h2), hmbw⟩
    · rw [hw3]; exact (hJ2.held _).keep fun k o e _ => e
    · rw [hw3]; exact (hF2.trans (hJ2.fr_set 3 _)).trans (Fr.of_below (Below.refl _ _).drew)
    · rintro rfl
      obtain ⟨_, _, _, ej, _⟩ := hJ2.j_cells
      rw [e1] at ej
      simp [jrow] at ej
  clear hw3 H2
  go_wp2_with fail
  refine (unlink_any j g.m M w3 H3.out.1.L H3.out.2.2.2.2.2.1).mono ?_
  rintro e4 w4 ⟨rfl, R⟩
  obtain ⟨cur, n4, o4, H4⟩ : ∃ cur n4 o4, Hid (JI w4 B j lim M pb seq (some mb) (G.eraseIdx i) ∧ Fr isJ B w w4 ∧ w4.heap[g.m]? = some (mrow g.sl g.key.ref g.sq o4 n4) ∧ (B ≤ g.q ∧ w4.heap[g.q]? = some (.cells cur 32 (0, 0)) ∧ ∀ (i : Nat) (v : Value), (ptrs pb g.ix)[i]? = some v → cur[i]? = some v) ∧ w4.heap[w.heap.size]? = some (.cells #[.int .i64 g.key.typ, .int .u8 g.key.ton, .int .u8 g.key.npi, .string g.key.num, .int .i64 g.key.ref, .int .i64 g.key.tot] 97) ∧ M g.m ∧ MapSub w w4 mb ∧ Kept w w4 j mb g.m M) := by
    obtain ⟨hJ3, hF3, gr3, go3, k3, gM, hS3, hK3, hmbw⟩ := H3.out
    obtain ⟨sl, r, q, o, n, e', p1, p2⟩ := hJ3.L.mr g.m gM
    rw [gr3] at e'
    obtain ⟨rfl, rfl, rfl, rfl, rfl⟩ := mrow_inj (Option.some.inj e')
    obtain ⟨o4, n4, e4, _, _⟩ := R.mr g.m gM _ _ _ _ _ gr3 p1 p2
    have hk : ∀ (k : Nat) (o : Obj), w3.heap[k]? = some o → (∀ c fr, o ≠ .cells c 60 fr) → (∀ c fr, o ≠ .cells c 71 fr) → w4.heap[k]? = some o := fun k o e h1 h2 => by
      refine (R.block k ?_ ?_).trans e
      · rintro rfl
        obtain ⟨hh, o', n, e'⟩ := hJ3.jr
        rw [e] at e'
        cases e'
        exact h1 _ _ rfl
      · intro hm
        obtain ⟨sl, r, q, o', n, e', _, _⟩ := hJ3.L.mr k hm
        rw [e] at e'
        cases e'
        exact h2 _ _ rfl
    obtain ⟨hBq, cur, hcur, hcells⟩ := ownrow_blk go3
    refine ⟨cur, n4, o4, hJ3.re R, hF3.trans (R.fr hJ3.L hJ3.jB hJ3.mB), e4, ⟨hBq, hk _ _ hcur (by simp) (by simp), hcells⟩, hk _ _ k3 (by simp) (by simp), gM, hS3.trans (MapSub.of_keep fun es c e1 => hk _ _ e1 (by simp) (by simp)), ⟨fun k hk1 h1 h2 h3 => (R.block k h1 h3).trans (hK3 k hk1 h1 h2), fun m' hm' hne sl r q o n e1 q1 q2 => ?_⟩⟩
    have hml : m' < w.heap.size := (Array.getElem?_eq_some_iff.1 e1).1
    obtain ⟨o', n', e2, _, _⟩ := R.mr m' hm' sl r q o n ((hK3 m' hml (hJ3.L.ne hm') (fun e0 => by rw [e0, hmbw] at e1; simp [mrow] at e1)).trans e1) q1 q2
    exact ⟨o', n', e2⟩
  clear R H3
  have k45 : w4.cell? ⟨w.heap.size, 5, none⟩ = some (.int .i64 (tot : Nat)) := by rw [← hgk.out]; exact cell_of_row _ _ _ _ _ _ H4.out.2.2.2.2.1
  have cm4 : w4.cell? ⟨g.m, 0, none⟩ = some (.slice (some ⟨g.q, 0, none⟩) n g.cap) := by rw [← hlen.out]; exact cell_of_row _ _ _ _ _ _ H4.out.2.2.1
  have HIO : Hid (Calls Try.prog 54 #[.pointer (some ⟨g.m, 0, none⟩), .int .i64 (tot : Nat)] w4 fun e w' => e = .returned (.pointer (some ⟨g.m, 0, none⟩)) ∧ ∃ w1 q, w' = w1.setCell ⟨g.m, 0, none⟩ (.slice (some ⟨q, 0, none⟩) tot tot) ∧ w4.heap.size ≤ q ∧ NRow w1 q tot (slotP (partsL pb els g.ix)) ∧ Below w4.heap.size w4 w1) := by
    refine inOrderP_any g.m g.q g.cap n tot (partsL pb els g.ix) w4 cm4 (Array.getElem?_eq_some_iff.1 H4.out.2.2.1).1 (cell_frozen H4.out.2.2.1) (Array.getElem?_eq_some_iff.1 H4.out.2.2.2.1.2.1).1 (by show (partsL pb els g.ix).length = n; simp [partsL, hlen.out]) (by omega) (by omega) (by omega) (fun k p es hx => ?_) (fun x hx => ?_)
    · simp only [partsL, List.getElem?_map, Option.map_eq_some_iff] at hx
      obtain ⟨a, ha, hpe⟩ := hx
      cases hpe
      refine ⟨(cell_of_row _ _ _ _ _ _ H4.out.2.2.2.1.2.1).trans (H4.out.2.2.2.1.2.2 k _ (by simp [ptrs, ha])), ?_⟩
      exact (hP.out a (List.mem_of_getElem? ha)).1.1 w4 (H4.out.2.1.below hBw)
    · obtain ⟨a, ha, rfl⟩ := List.mem_map.1 hx
      exact (hP.out a ha).2
  go_wp2_with fail
  refine HIO.out.mono ?_
  rintro e5 w5 ⟨rfl, w1, q, rfl, hq, hN, hb5⟩
  have HF : Hid (JI (w1.setCell ⟨g.m, 0, none⟩ (.slice (some ⟨q, 0, none⟩) tot tot)) B j lim M pb seq (some mb) (G.eraseIdx i) ∧ Fr isJ B w (w1.setCell ⟨g.m, 0, none⟩ (.slice (some ⟨q, 0, none⟩) tot tot)) ∧ MapSub w (w1.setCell ⟨g.m, 0, none⟩ (.slice (some ⟨q, 0, none⟩) tot tot)) mb ∧ Kept w (w1.setCell ⟨g.m, 0, none⟩ (.slice (some ⟨q, 0, none⟩) tot tot)) j mb g.m M ∧ ∃ q', w.heap.size ≤ q' ∧ Given (w1.setCell ⟨g.m, 0, none⟩ (.slice (some ⟨q, 0, none⟩) tot tot)) pb els M g q') := by
    obtain ⟨hJ4, hF4, gr4, ⟨hBq, hq4, _⟩, _, gM, hS4, hK4⟩ := H4.out
    have gml : g.m < w4.heap.size := (Array.getElem?_eq_some_iff.1 gr4).1
    have gr5 := (hb5.block _ gml).trans gr4
    have hJ5 := hJ4.below hb5
    have hset : ∀ k, k ≠ g.m → (w1.setCell ⟨g.m, 0, none⟩ (.slice (some ⟨q, 0, none⟩) tot tot)).heap[k]? = w1.heap[k]? := fun k hk => Below.heap_setCell _ _ _ _ (by exact hk)
    refine ⟨hJ5.setm0 gM (fun g' hg' => ?_) _, (hF4.trans (Fr.of_below hb5)).trans (Fr.of_set (hJ4.mB _ gM) gr5 fun c => Or.inl ⟨_, _, Or.inr (Or.inl rfl)⟩), hS4.trans (MapSub.of_keep fun es c e1 => (hset _ fun e0 => by rw [e0, gr4] at e1; simp [mrow] at e1).trans ((hb5.block _ (Array.getElem?_eq_some_iff.1 e1).1).trans e1)), ⟨fun k hk h1 h2 h3 => ?_, fun m' hm' hne sl r q o n e1 q1 q2 => ?_⟩, q, Nat.le_trans hF4.size hq, ⟨gM, tot, o4, n4, hgk.out.symm, (heap_set_same gr5 _).trans rfl, hN.block (hset _ (by omega))⟩⟩
    · obtain ⟨a, ha⟩ := List.mem_iff_getElem?.1 hg'
      exact (HAP.out _ i g' g (by split <;> omega) (get_erase ha) hi.out).1
    · exact (hset k (fun e0 => h3 (by rw [e0]; exact gM))).trans ((hb5.block k (Nat.lt_of_lt_of_le hk hF4.size)).trans (hK4.blk k hk h1 h2 h3))
    · obtain ⟨o', n', e2⟩ := hK4.row m' hm' hne sl r q o n e1 q1 q2
      exact ⟨o', n', (hset m' hne).trans ((hb5.block m' (Array.getElem?_eq_some_iff.1 e2).1).trans e2)⟩
  clear HIO H4 k45 cm4 hN hb5 hq
  go_wp2
  go_ret
  exact ⟨rfl, HF.out⟩

end Go.Proofs.Qxb6616208a
