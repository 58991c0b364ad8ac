/-
  take (32): the round's state; what the range hands out; what a forget leaves. No walk.
-/
import Derived.Test.Qxb6616208aForgetP
import Derived.Test.Qxb6616208aFeed2
import Derived.Test.Qxb6616208aSort2
import Derived.Maps.Range
namespace Go.Proofs.Qxb6616208a
open Go.RowKit
set_option linter.unusedVariables false
set_option linter.unusedSimpArgs false

/-- blocks that take's state hangs on -/
def isT (o : Obj) : Prop := isJ o ∨ ∃ m s sn c, o = .mapIter m s sn c

theorem Given.keep {w w' : World} {pb : Nat → Nat} {els : Nat → List El} {M : Nat → Prop} {g : JG} {q : Nat} (h : Given w pb els M g q) (hk : ∀ (k : Nat) (o : Obj), w.heap[k]? = some o → isJ o → w'.heap[k]? = some o) : Given w' pb els M g q := by
  obtain ⟨tot, o, n, e1, e2, cs, e3, e4, e5⟩ := h.row
  exact ⟨h.inM, tot, o, n, e1, hk _ _ e2 (Or.inl ⟨_, _, Or.inr (Or.inl rfl)⟩), cs, hk _ _ e3 (Or.inl ⟨_, _, Or.inr (Or.inr rfl)⟩), e4, e5⟩

/-- the iterator in the round -/
structure It (w : World) (mb r : Nat) (dp : Key → Bool) (G : List JG) (ex : Option Key) : Prop where
  it : ∃ es clock since seen c0, w.heap[mb]? = some (.map es clock) ∧ w.heap[r]? = some (.mapIter (some mb) since seen c0) ∧ (∀ x ∈ es.toList, x.born < since) ∧ since ≤ c0 ∧ since ≤ clock ∧ ∀ x ∈ es.toList, seen.contains x.born = true → ∀ g ∈ G, x.key = g.key.val → dp g.key = false ∨ ex = some g.key

structure TI (w wr : World) (B j : Nat) (lim : Int) (M : Nat → Prop) (pb : Nat → Nat) (els : Nat → List El) (seq : Int) (mb r : Nat) (dp : Key → Bool) (G0 G : List JG) (T : List (JG × Nat)) (ex : Option Key) : Prop where
  ji : JI wr B j lim M pb seq (some mb) G
  sub : G.Sublist G0
  perm : (T.map Prod.fst ++ G).Perm G0
  dps : ∀ t ∈ T, dp t.1.key = true
  giv : ∀ t ∈ T, Given wr pb els M t.1 t.2
  apt : ∀ t ∈ T, ∀ g ∈ G, t.1.m ≠ g.m
  it : It wr mb r dp G ex
  fr : Fr isJ B w wr

section
variable {w wr w' : World} {B j : Nat} {lim : Int} {M : Nat → Prop} {pb : Nat → Nat} {els : Nat → List El} {seq : Int} {mb r : Nat} {dp : Key → Bool} {G0 G : List JG} {T : List (JG × Nat)} {ex : Option Key}

theorem TI.keep (h : TI w wr B j lim M pb els seq mb r dp G0 G T ex) (hk : ∀ (k : Nat) (o : Obj), wr.heap[k]? = some o → isT o → w'.heap[k]? = some o) (hf : Fr isJ B w w') : TI w w' B j lim M pb els seq mb r dp G0 G T ex ∧ w'.rangeLeft mb r = wr.rangeLeft mb r := by
  obtain ⟨es, clock, since, seen, c0, e1, e2, r1⟩ := h.it.it
  have e1' := hk _ _ e1 (Or.inl (Or.inr ⟨_, _, rfl⟩))
  have e2' := hk _ _ e2 (Or.inr ⟨_, _, _, _, rfl⟩)
  refine ⟨⟨h.ji.keep fun k o e hj => hk k o e (Or.inl hj), h.sub, h.perm, h.dps, fun t ht => (h.giv t ht).keep fun k o e hj => hk k o e (Or.inl hj), h.apt, ⟨es, clock, since, seen, c0, e1', e2', r1⟩, hf⟩, ?_⟩
  simp only [World.rangeLeft, e1, e2, e1', e2']

theorem TI.below (h : TI w wr B j lim M pb els seq mb r dp G0 G T ex) (hb : Below wr.heap.size wr w') : TI w w' B j lim M pb els seq mb r dp G0 G T ex ∧ w'.rangeLeft mb r = wr.rangeLeft mb r :=
  h.keep (fun k o e _ => (hb.block k (Array.getElem?_eq_some_iff.1 e).1).trans e) (h.fr.trans (Fr.of_below hb))

/-- a block that was not there at w turned -/
theorem Fr.grown_new {T : Obj → Prop} {row : Option Nat} (h : Fr T B w wr) (hg : wr.grownBy w' row) (hr : ∀ k, row = some k → w.heap.size ≤ k) : Fr T B w w' :=
  ⟨hg.os.trans h.os, hg.tape.trans h.tape, hg.output.trans h.output, Nat.le_trans h.size hg.size, fun k o e => by
    rcases h.block k o e with e1 | h1
    · refine Or.inl ((hg.block k (Array.getElem?_eq_some_iff.1 e1).1 fun e2 => ?_).trans e1)
      have := hr k e2.symm
      have := (Array.getElem?_eq_some_iff.1 e).1
      omega
    · exact Or.inr h1⟩

theorem key_entry (h : JI wr B j lim M pb seq (some mb) G) {es : Array MapEntry} {clock : Nat} (hb : wr.heap[mb]? = some (.map es clock)) : MapKept.Stamped es clock ∧ (∀ x ∈ es.toList, ∃ (i : Nat) (g : JG), G[i]? = some g ∧ x.key = g.key.val ∧ x.val = .pointer (some ⟨g.m, 0, none⟩)) ∧ ∀ g ∈ G, ∃ x ∈ es.toList, x.key = g.key.val := by
  rcases h.map with ⟨h1, _⟩ | ⟨mb', E, e1, _, ⟨es', c', e3, e4, e5⟩, e6⟩
  · cases h1
  · cases e1
    rw [hb] at e3
    cases e3
    refine ⟨e4, fun x hx => ?_, fun g hg => ?_⟩
    · obtain ⟨k, hk⟩ := List.mem_iff_getElem?.1 hx
      obtain ⟨y, hy, k1, k2⟩ := ent_at e5 hk
      obtain ⟨g, hg, rfl⟩ := List.mem_map.1 (e6.mem_iff.1 (List.mem_of_getElem? hy))
      obtain ⟨i, hi⟩ := List.mem_iff_getElem?.1 hg
      exact ⟨i, g, hi, k1, k2⟩
    · have : ent g.ent ∈ es.toList.map (fun e => (e.key, e.val)) := by
        rw [e5]
        exact List.mem_map_of_mem (ent_mem e6 hg)
      obtain ⟨x, hx, e⟩ := List.mem_map.1 this
      exact ⟨x, hx, congrArg Prod.fst e⟩

/-- the range's step -/
theorem TI.next (h : TI w wr B j lim M pb els seq mb r dp G0 G T none) (hrw : w.heap.size ≤ r) :
    ((Instr.next (.pointer (some ⟨r, 0, none⟩)) false 0).run Try.prog wr = .ok (.tuple #[.bool false]) wr ∧ ∀ g ∈ G, dp g.key = false) ∨
    ∃ (i : Nat) (g : JG) (w1 : World), G[i]? = some g ∧ (Instr.next (.pointer (some ⟨r, 0, none⟩)) false 0).run Try.prog wr = .ok (.tuple #[.bool true, g.key.val, .pointer (some ⟨g.m, 0, none⟩)]) w1 ∧ (Instr.entry (.pointer (some ⟨r, 0, none⟩))).run Try.prog w1 = .ok (.tuple #[g.key.val, .pointer (some ⟨g.m, 0, none⟩)]) w1 ∧
      TI w w1 B j lim M pb els seq mb r dp G0 G T (some g.key) ∧ w1.rangeLeft mb r < wr.rangeLeft mb r ∧ wr.grownBy w1 (some r) := by
  obtain ⟨es, clock, since, seen, c0, hb, hr, hold, hsc, hsk, hseen⟩ := h.it.it
  obtain ⟨hst, hent, hback⟩ := key_entry h.ji hb
  have hrm : r ≠ mb := fun e => by rw [e, hb] at hr; cases hr
  rcases run_next_at (P := Try.prog) wr 0 r mb since c0 seen es clock hr hb hold hsc with ⟨h0, hrun⟩ | ⟨e, he, w1, hal, hrun⟩
  · refine Or.inl ⟨hrun, fun g hg => ?_⟩
    obtain ⟨x, hx, hxk⟩ := hback g hg
    rcases hseen x hx (all_seen es seen h0 x hx) g hg hxk with h1 | h1
    · exact h1
    · cases h1
  · obtain ⟨hem, hes⟩ := mem_left he
    obtain ⟨i, g, hi, hk, hv⟩ := hent e hem
    have hr1 : w1.heap[r]? = some (.mapIter (some mb) since seen c0) := by rcases hal with rfl | rfl <;> exact hr
    have hb1 : w1.heap[mb]? = some (.map es clock) := by rcases hal with rfl | rfl <;> exact hb
    have hrl : r < w1.heap.size := (Array.getElem?_eq_some_iff.1 hr1).1
    have hg1 : wr.grownBy (ChangeMaps.setBlock w1 r (.mapIter (some mb) since (seen.push e.born) clock)) (some r) := by
      have h1 := setBlock_grown w1 r (.mapIter (some mb) since (seen.push e.born) clock)
      rcases hal with rfl | rfl
      · exact h1
      · exact ⟨h1.os, h1.tape, h1.output, h1.size, h1.block⟩
    have hr2 := setBlock_heap w1 r (.mapIter (some mb) since (seen.push e.born) clock) hrl
    have hb2 : (ChangeMaps.setBlock w1 r (.mapIter (some mb) since (seen.push e.born) clock)).heap[mb]? = some (.map es clock) := (hg1.block mb (Array.getElem?_eq_some_iff.1 hb).1 (fun e1 => hrm (by simpa using e1.symm))).trans hb
    have hkeep : ∀ (k : Nat) (o : Obj), wr.heap[k]? = some o → isJ o → (ChangeMaps.setBlock w1 r (.mapIter (some mb) since (seen.push e.born) clock)).heap[k]? = some o := fun k o e1 hj => (hg1.block k (Array.getElem?_eq_some_iff.1 e1).1 (fun e2 => by
      cases e2
      rw [hr] at e1
      cases e1
      rcases hj with ⟨c, fr, h | h | h⟩ | ⟨es, c, h⟩ <;> cases h)).trans e1
    have hent2 := run_entry_at (P := Try.prog) _ r mb since seen es clock e hr2 hb2 hem hst.2.1
    rw [hk, hv] at hrun hent2
    refine Or.inr ⟨i, g, _, hi, hrun, hent2, ⟨h.ji.keep hkeep, h.sub, h.perm, h.dps, fun t ht => (h.giv t ht).keep hkeep, h.apt, ⟨es, clock, since, seen.push e.born, clock, hb2, hr2, hold, hsk, hsk, fun x hx hs g' hg' hxk => ?_⟩, h.fr.grown_new hg1 fun k hk => by cases hk; exact hrw⟩, ?_, hg1⟩
    · rw [contains_push, Bool.or_eq_true] at hs
      rcases hs with hs | hs
      · rcases hseen x hx hs g' hg' hxk with h1 | h1
        · exact Or.inl h1
        · cases h1
      · have hxe : x = e := by
          have hbe : x.born = e.born := by simpa using hs
          obtain ⟨a, ha⟩ := List.mem_iff_getElem?.1 hx
          obtain ⟨b, hb'⟩ := List.mem_iff_getElem?.1 hem
          have hnd := hst.2.1
          rw [List.Nodup, List.pairwise_iff_getElem] at hnd
          obtain ⟨ha1, ha2⟩ := List.getElem?_eq_some_iff.1 ha
          obtain ⟨hb1', hb2'⟩ := List.getElem?_eq_some_iff.1 hb'
          rcases Nat.lt_trichotomy a b with hab | hab | hab
          · exact absurd (by rw [List.getElem_map, List.getElem_map, ha2, hb2', hbe]) (hnd a b (by simpa using ha1) (by simpa using hb1') hab)
          · subst hab
            rw [ha] at hb'
            exact Option.some.inj hb'
          · exact absurd (by rw [List.getElem_map, List.getElem_map, ha2, hb2', hbe]) (hnd b a (by simpa using hb1') (by simpa using ha1) hab)
        rw [hxe, hk] at hxk
        exact Or.inr (by rw [Key.val_inj hxk])
    · simp only [World.rangeLeft, hb, hr, hb2, hr2]
      exact left_shrinks es seen e he

/-- the one handed out stays -/
theorem TI.stay {k : Key} (h : TI w wr B j lim M pb els seq mb r dp G0 G T (some k)) (hd : dp k = false) : TI w wr B j lim M pb els seq mb r dp G0 G T none := by
  obtain ⟨es, clock, since, seen, c0, e1, e2, e3, e4, e5, e6⟩ := h.it.it
  refine ⟨h.ji, h.sub, h.perm, h.dps, h.giv, h.apt, ⟨es, clock, since, seen, c0, e1, e2, e3, e4, e5, fun x hx hs g hg hxk => Or.inl ?_⟩, h.fr⟩
  rcases e6 x hx hs g hg hxk with h1 | h1
  · exact h1
  · cases h1; exact hd

theorem size_filter_sub {p : MapEntry → Bool} {a b : Array MapEntry} (h : a.toList.Sublist b.toList) : (a.filter p).size ≤ (b.filter p).size := by
  have e : ∀ x : Array MapEntry, (x.filter p).size = (x.toList.filter p).length := fun x => by rw [← Array.toList_filter, Array.length_toList]
  rw [e, e]
  exact (h.filter p).length_le

/-- .. or is forgotten -/
theorem TI.forget {i q : Nat} {g : JG} (h : TI w wr B j lim M pb els seq mb r dp G0 G T (some g.key)) (hi : G[i]? = some g) (hd : dp g.key = true) (hJ : JI w' B j lim M pb seq (some mb) (G.eraseIdx i)) (hF : Fr isJ B wr w') (hS : MapSub wr w' mb) (hK : Kept wr w' j mb g.m M) (hg : Given w' pb els M g q) :
    TI w w' B j lim M pb els seq mb r dp G0 (G.eraseIdx i) (T ++ [(g, q)]) none ∧ w'.rangeLeft mb r ≤ wr.rangeLeft mb r := by
  have hgG := List.mem_of_getElem? hi
  obtain ⟨es, clock, since, seen, c0, e1, e2, e3, e4, e5, e6⟩ := h.it.it
  obtain ⟨es', e1', hsub⟩ := hS es clock e1
  have e2' : w'.heap[r]? = some (.mapIter (some mb) since seen c0) := hF.keep e2 (by rintro (⟨c, fr, h | h | h⟩ | ⟨es, c, h⟩) <;> simp at h)
  have others : ∀ g' ∈ G.eraseIdx i, g.m ≠ g'.m ∧ g.key ≠ g'.key := fun g' hg' => by
    obtain ⟨a, ha⟩ := List.mem_iff_getElem?.1 hg'
    have := h.ji.ap i _ g g' (by split <;> omega) hi (get_erase ha)
    exact ⟨this.1, this.2.2⟩
  have giv : ∀ t ∈ T, Given w' pb els M t.1 t.2 := fun t ht => by
    obtain ⟨tot, o, n, q1, q2, cs, q3, q4, q5⟩ := (h.giv t ht).row
    have hin := (h.giv t ht).inM
    obtain ⟨sl, rr, qq, o', n', e', p1, p2⟩ := h.ji.L.mr t.1.m hin
    rw [q2] at e'
    obtain ⟨rfl, rfl, rfl, rfl, rfl⟩ := mrow_inj (Option.some.inj e')
    obtain ⟨o2, n2, q2'⟩ := hK.row t.1.m hin (h.apt t ht g hgG) _ _ _ _ _ q2 p1 p2
    refine ⟨hin, tot, o2, n2, q1, q2', cs, (hK.blk t.2 (Array.getElem?_eq_some_iff.1 q3).1 ?_ ?_ ?_).trans q3, q4, q5⟩
    · rintro e0
      obtain ⟨_, _, _, ej, _⟩ := h.ji.j_cells
      rw [← e0, q3] at ej
      simp [jrow] at ej
    · rintro e0
      rw [e0, e1] at q3
      cases q3
    · intro hm
      obtain ⟨sl, rr, qq, o', n', e', p1, p2⟩ := h.ji.L.mr t.2 hm
      rw [q3] at e'
      simp [mrow] at e'
  refine ⟨⟨hJ, (List.eraseIdx_sublist _ _).trans h.sub, ?_, fun t ht => ?_, fun t ht => ?_, fun t ht g' hg' => ?_, ⟨es', clock, since, seen, c0, e1', e2', fun x hx => e3 x (hsub.subset hx), e4, e5, fun x hx hs g' hg' hxk => Or.inl ?_⟩, h.fr.trans hF⟩, ?_⟩
  · rw [List.map_append, List.append_assoc]
    exact ((erase_perm hi).append_left _).trans h.perm
  · rcases List.mem_append.1 ht with ht | ht
    · exact h.dps t ht
    · simp at ht; subst ht; exact hd
  · rcases List.mem_append.1 ht with ht | ht
    · exact giv t ht
    · simp at ht; subst ht; exact hg
  · rcases List.mem_append.1 ht with ht | ht
    · exact h.apt t ht g' (mem_erase_idx hg')
    · simp at ht; subst ht; exact (others g' hg').1
  · rcases e6 x (hsub.subset hx) hs g' (mem_erase_idx hg') hxk with h1 | h1
    · exact h1
    · exact absurd (Option.some.inj h1) (others g' hg').2
  · simp only [World.rangeLeft, e1, e2, e1', e2', leftOf]
    exact size_filter_sub hsub

/-- behind the loop: what is left, what was taken -/
theorem TI.done (h : TI w wr B j lim M pb els seq mb r dp G0 G T none) (hd : ∀ g ∈ G, dp g.key = false) : G = G0.filter (fun g => !dp g.key) ∧ (T.map Prod.fst).Perm (G0.filter fun g => dp g.key) := by
  have hG : G.filter (fun g => !dp g.key) = G := List.filter_eq_self.2 fun g hg => by rw [hd g hg]; rfl
  have hG2 : G.filter (fun g => dp g.key) = [] := List.filter_eq_nil_iff.2 fun g hg => by rw [hd g hg]; simp
  have hT : (T.map Prod.fst).filter (fun g => dp g.key) = T.map Prod.fst := List.filter_eq_self.2 fun g hg => by
    obtain ⟨t, ht, rfl⟩ := List.mem_map.1 hg
    exact h.dps t ht
  have hT2 : (T.map Prod.fst).filter (fun g => !dp g.key) = [] := List.filter_eq_nil_iff.2 fun g hg => by
    obtain ⟨t, ht, rfl⟩ := List.mem_map.1 hg
    rw [h.dps t ht]; simp
  constructor
  · refine List.Sublist.eq_of_length ?_ ?_
    · have := h.sub.filter (fun g => !dp g.key)
      rwa [hG] at this
    · have := (h.perm.filter (fun g => !dp g.key)).length_eq
      rw [List.filter_append, hT2, hG] at this
      simpa using this
  · have := h.perm.filter (fun g => dp g.key)
    rw [List.filter_append, hT, hG2, List.append_nil] at this
    exact this
end

/-- the messages taken, as take hands them out -/
structure Out (w : World) (pb : Nat → Nat) (els : Nat → List El) (M : Nat → Prop) (ma : Option Addr) (F : List JG) : Prop where
  at_ : ∀ (i : Nat) (g : JG), F[i]? = some g → ∃ mq q, ma = some ⟨mq, 0, none⟩ ∧ (∃ c, w.heap[mq]? = some (.cells c 58 (0, 0)) ∧ c[i]? = some (.pointer (some ⟨g.m, 0, none⟩))) ∧ Given w pb els M g q

theorem pairs_eq {L' : List (Nat × Int)} {F : List JG} (hp : L'.Perm (F.map fun g => (g.m, g.sq))) (ha : ∀ (i k : Nat) (x y : Nat × Int), i < k → L'[i]? = some x → L'[k]? = some y → x.2 ≤ y.2) (hF : (F.map JG.sq).Pairwise (· < ·)) : L' = F.map fun g => (g.m, g.sq) := by
  have hF2 : (F.map fun g => (g.m, g.sq)).Pairwise (fun x y : Nat × Int => x.2 < y.2) := by
    rw [List.pairwise_map] at hF ⊢
    exact hF
  refine List.Perm.eq_of_pairwise (le := fun x y : Nat × Int => x.2 ≤ y.2) (fun a b ha' hb h1 h2 => ?_) ?_ ?_ hp
  · have ha2 := hp.mem_iff.1 ha'
    obtain ⟨i, hi⟩ := List.mem_iff_getElem?.1 ha2
    obtain ⟨k, hk⟩ := List.mem_iff_getElem?.1 hb
    rw [List.pairwise_iff_getElem] at hF2
    obtain ⟨hi1, hi2⟩ := List.getElem?_eq_some_iff.1 hi
    obtain ⟨hk1, hk2⟩ := List.getElem?_eq_some_iff.1 hk
    rcases Nat.lt_trichotomy i k with hab | hab | hab
    · have := hF2 i k hi1 hk1 hab
      rw [hi2, hk2] at this
      omega
    · subst hab
      rw [hi] at hk
      exact Option.some.inj hk
    · have := hF2 k i hk1 hi1 hab
      rw [hi2, hk2] at this
      omega
  · rw [List.pairwise_iff_getElem]
    intro i k hi hk hik
    exact ha i k _ _ hik (List.getElem?_eq_getElem hi) (List.getElem?_eq_getElem hk)
  · rw [List.pairwise_iff_getElem] at hF2 ⊢
    intro i k hi hk hik
    exact Int.le_of_lt (hF2 i k hi hk hik)

end Go.Proofs.Qxb6616208a
