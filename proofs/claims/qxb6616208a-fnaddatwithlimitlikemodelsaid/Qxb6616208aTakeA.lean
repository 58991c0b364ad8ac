/-
  take (32) with the closure of ZZtakeAll (33).
-/
import Derived.Test.Qxb6616208aTk
import Derived.Test.Qxb6616208aAddB
namespace Go.Proofs.Qxb6616208a
open Go.RowKit
set_option linter.unusedVariables false
set_option linter.unusedSimpArgs false

theorem Try.g58 : ∃ i z, Try.prog.info? 58 = some i ∧ i.zero = some z ∧ i.size = 1 ∧ i.bytes = 8 ∧ z.cells.size = 1 := by
  have h : (Try.prog.info? 58).map (fun i => (i.size, i.bytes, i.zero.map (·.cells.size))) = some (1, 8, some 1) := by kernel_rfl
  cases hq : Try.prog.info? 58 with
  | none => rw [hq] at h; cases h
  | some i =>
    rw [hq] at h
    simp only [Option.map_some, Option.some.injEq, Prod.mk.injEq] at h
    obtain ⟨h1, h2, h3⟩ := h
    cases hz : i.zero with
    | none => rw [hz] at h3; cases h3
    | some z => rw [hz] at h3; exact ⟨i, z, rfl, hz, h1, h2, by simpa using h3⟩
theorem Try.size67 : (Try.prog.info? 67).map (·.size) = some 1 := by kernel_rfl

/-- what take asks of the groups -/
def TOk (w : World) (B : Nat) (pb : Nat → Nat) (els : Nat → List El) (G0 : List JG) : Prop := ∀ g ∈ G0, (g.ix.length : Int) < g.key.tot ∧ g.key.tot < 256 ∧ ∀ a ∈ g.ix, Good B w (pb a, els a) ∧ 1 ≤ pno (els a) ∧ pno (els a) ≤ g.key.tot

def tptrs (T : List (JG × Nat)) : List Value := T.map fun t => .pointer (some ⟨t.1.m, 0, none⟩)

/-- the loop's state -/
structure TL (w wr : World) (B j : Nat) (lim : Int) (M : Nat → Prop) (pb : Nat → Nat) (els : Nat → List El) (seq : Int) (mb : Nat) (dp : Key → Bool) (G0 G : List JG) (T : List (JG × Nat)) (ex : Option Key) (ma : Option Addr) (mc : Nat) : Prop where
  ti : TI w wr B j lim M pb els seq mb w.heap.size dp G0 G T ex
  own : wr.ownsRow w.heap.size 58 1 (.slice ma T.length mc) T.length (tptrs T)

section
variable {w wr w' : World} {B j : Nat} {lim : Int} {M : Nat → Prop} {pb : Nat → Nat} {els : Nat → List El} {seq : Int} {mb : Nat} {dp : Key → Bool} {G0 G : List JG} {T : List (JG × Nat)} {ex : Option Key} {ma : Option Addr} {mc : Nat}

theorem TL.len (h : TL w wr B j lim M pb els seq mb dp G0 G T ex ma mc) : T.length + G.length = G0.length := by
  have := h.ti.perm.length_eq
  simpa using this

theorem TL.below (h : TL w wr B j lim M pb els seq mb dp G0 G T ex ma mc) (hb : Below wr.heap.size wr w') : TL w w' B j lim M pb els seq mb dp G0 G T ex ma mc ∧ w'.rangeLeft mb w.heap.size = wr.rangeLeft mb w.heap.size :=
  ⟨⟨(h.ti.below hb).1, own_keep h.own fun k c _ e => hb.block k (Array.getElem?_eq_some_iff.1 e).1⟩, (h.ti.below hb).2⟩

/-- the range's first step -/
theorem TL.start (hJ : JI w B j lim M pb seq (some mb) G0) {es : Array MapEntry} {clock : Nat} (hb : w.heap[mb]? = some (.map es clock)) : TL w (w.alloc (.mapIter (some mb) clock #[] clock)) B j lim M pb els seq mb dp G0 G0 [] none none 0 := by
  have hba : Below w.heap.size w (w.alloc (.mapIter (some mb) clock #[] clock)) := (Below.refl _ _).alloc (Nat.le_refl _) _
  refine ⟨⟨hJ.below hba, List.Sublist.refl _, List.Perm.refl _, by simp, by simp, by simp, ⟨es, clock, clock, #[], clock, (hba.block mb (Array.getElem?_eq_some_iff.1 hb).1).trans hb, heap_alloc_new _ _, (key_entry hJ hb).1.1, Nat.le_refl _, Nat.le_refl _, by simp⟩, Fr.of_below hba⟩, World.ownsRow_nil _ _ _ _⟩

theorem TL.next (h : TL w wr B j lim M pb els seq mb dp G0 G T none ma mc) :
    ((Instr.next (.pointer (some ⟨w.heap.size, 0, none⟩)) false 0).run Try.prog wr = .ok (.tuple #[.bool false]) wr ∧ ∀ g ∈ G, dp g.key = false) ∨
    ∃ (i : Nat) (g : JG) (w1 : World), G[i]? = some g ∧ (Instr.next (.pointer (some ⟨w.heap.size, 0, none⟩)) false 0).run Try.prog wr = .ok (.tuple #[.bool true, g.key.val, .pointer (some ⟨g.m, 0, none⟩)]) w1 ∧ (Instr.entry (.pointer (some ⟨w.heap.size, 0, none⟩))).run Try.prog w1 = .ok (.tuple #[g.key.val, .pointer (some ⟨g.m, 0, none⟩)]) w1 ∧
      TL w w1 B j lim M pb els seq mb dp G0 G T (some g.key) ma mc ∧ w1.rangeLeft mb w.heap.size < wr.rangeLeft mb w.heap.size := by
  rcases h.ti.next (Nat.le_refl _) with h1 | ⟨i, g, w1, h1, h2, h3, h4, h5, h6⟩
  · exact Or.inl h1
  · refine Or.inr ⟨i, g, w1, h1, h2, h3, ⟨h4, own_keep h.own fun k c _ e => h6.block k (Array.getElem?_eq_some_iff.1 e).1 fun e2 => ?_⟩, h5⟩
    cases e2
    obtain ⟨_, _, _, _, _, _, e3, _⟩ := h.ti.it.it
    rw [e] at e3
    cases e3

theorem TL.stay {k : Key} (h : TL w wr B j lim M pb els seq mb dp G0 G T (some k) ma mc) (hd : dp k = false) : TL w wr B j lim M pb els seq mb dp G0 G T none ma mc := ⟨h.ti.stay hd, h.own⟩

/-- forget, in the round -/
theorem TL.forget {i : Nat} {g : JG} (h : TL w wr B j lim M pb els seq mb dp G0 G T (some g.key) ma mc) (hi : G[i]? = some g) (hd : dp g.key = true) (hBw : B ≤ w.heap.size) (hO : TOk w B pb els G0) :
    Calls Try.prog 42 #[.pointer (some ⟨j, 0, none⟩), .agg #[.int .i64 g.key.typ, .int .u8 g.key.ton, .int .u8 g.key.npi, .string g.key.num, .int .i64 g.key.ref, .int .i64 g.key.tot], .pointer (some ⟨g.m, 0, none⟩)] wr
      fun e w' => e = .returned (.pointer (some ⟨g.m, 0, none⟩)) ∧ ∃ q, TI w w' B j lim M pb els seq mb w.heap.size dp G0 (G.eraseIdx i) (T ++ [(g, q)]) none ∧ w'.ownsRow w.heap.size 58 1 (.slice ma T.length mc) T.length (tptrs T) ∧ w'.rangeLeft mb w.heap.size ≤ wr.rangeLeft mb w.heap.size ∧ w.heap.size ≤ w'.heap.size := by
  have hgG := h.ti.sub.subset (List.mem_of_getElem? hi)
  obtain ⟨o1, o2, o3⟩ := hO g hgG
  have hb : Below B w wr := h.ti.fr.below hBw
  obtain ⟨tot, htot⟩ : ∃ tot : Nat, g.key.tot = tot := ⟨g.key.tot.toNat, by omega⟩
  refine (forgetP_any B j lim M pb els seq mb G i g.ix.length tot g wr h.ti.ji hi rfl htot (by omega) (by omega) (Nat.le_trans hBw h.ti.fr.size) (fun a ha => ?_)).mono ?_
  · obtain ⟨p1, p2⟩ := o3 a ha
    rw [htot] at p2
    exact ⟨p1.below hb, p2⟩
  · rintro e w' ⟨rfl, hJ, hF, hS, hK, q, hq, hg⟩
    have := h.ti.forget hi hd hJ hF hS hK hg
    exact ⟨rfl, q, this.1, own_keep h.own fun k c _ e => (hF.keep e (by rintro (⟨c, fr, h | h | h⟩ | ⟨es, c, h⟩) <;> simp at h)).trans e.symm, this.2, Nat.le_trans h.ti.fr.size hF.size⟩

/-- the row of messages grown -/
theorem TL.grown {g : JG} {q : Nat} {row : Option Nat} {ma' : Option Addr} {mc' : Nat} (h : TI w wr B j lim M pb els seq mb w.heap.size dp G0 G (T ++ [(g, q)]) none) (hg : wr.grownBy w' row) (hr : ∀ k, row = some k → w.heap.size ≤ k ∧ ∃ c, wr.heap[k]? = some (.cells c 58 (0, 0))) (hown : w'.ownsRow w.heap.size 58 1 (.slice ma' (T.length + 1) mc') (T.length + 1) (tptrs T ++ [.pointer (some ⟨g.m, 0, none⟩)])) :
    TL w w' B j lim M pb els seq mb dp G0 G (T ++ [(g, q)]) none ma' mc' ∧ w'.rangeLeft mb w.heap.size = wr.rangeLeft mb w.heap.size := by
  have := h.keep (w' := w') (fun k o e hT => (hg.block k (Array.getElem?_eq_some_iff.1 e).1 fun e2 => by
    obtain ⟨_, c, hc⟩ := hr k e2.symm
    rw [hc] at e
    cases e
    rcases hT with (⟨c, fr, h | h | h⟩ | ⟨es, c, h⟩) | ⟨_, _, _, _, h⟩ <;> cases h).trans e) (h.fr.grown_new hg fun k hk => (hr k hk).1)
  refine ⟨⟨this.1, ?_⟩, this.2⟩
  have e1 : tptrs (T ++ [(g, q)]) = tptrs T ++ [.pointer (some ⟨g.m, 0, none⟩)] := by simp [tptrs]
  rw [e1, List.length_append]
  exact hown

/-- sorted, and handed out -/
theorem TL.sorted (h : TL w wr B j lim M pb els seq mb dp G0 G T none ma mc) (hd : ∀ g ∈ G, dp g.key = false) (hSO : SO G0 seq) (hs : seq ≤ 65536) (hl : G0.length ≤ 65536) :
    Calls Try.prog 48 #[.slice ma T.length mc, .func (.func 49) #[] #[]] wr fun e w' => e = .returned (.tuple #[]) ∧ T.length = (G0.filter fun g => dp g.key).length ∧ Out w' pb els M ma (G0.filter fun g => dp g.key) ∧ JI w' B j lim M pb seq (some mb) (G0.filter fun g => !dp g.key) ∧ Fr isJ B w w' := by
  obtain ⟨hG, hT⟩ := h.ti.done hd
  have hlen : T.length = (G0.filter fun g => dp g.key).length := by simpa using hT.length_eq
  have hTl := h.len
  by_cases h0 : T.length = 0
  · rw [h0]
    refine (sortM_none ma mc _ wr).mono ?_
    rintro e w' ⟨rfl, rfl⟩
    have hF0 : (G0.filter fun g => dp g.key) = [] := List.eq_nil_of_length_eq_zero (by omega)
    refine ⟨rfl, by rw [hF0]; rfl, ⟨fun i g hi => by rw [hF0] at hi; simp at hi⟩, by rw [← hG]; exact h.ti.ji, h.ti.fr⟩
  · rcases h.own.2 with ⟨_, e0⟩ | ⟨q, cap', cur, e, hB, hq, h1, h2, h3, h4⟩
    · omega
    · simp only [Value.slice.injEq] at e
      obtain ⟨rfl, -, rfl⟩ := e
      have hql : q < wr.heap.size := (Array.getElem?_eq_some_iff.1 hq).1
      refine (sortM_any q mc T.length (T.map fun t => (t.1.m, t.1.sq)) wr cur hq (by simp) (by omega) (fun e => h0 (by simpa using e)) (fun i x hx => ?_) (fun x hx => ?_)).mono ?_
      · rw [List.getElem?_map, Option.map_eq_some_iff] at hx
        obtain ⟨t, ht, rfl⟩ := hx
        have hv : (tptrs T)[i]? = some (.pointer (some ⟨t.1.m, 0, none⟩)) := by simp [tptrs, ht]
        rw [← h4, List.getElem?_take] at hv
        split at hv
        · simpa using hv
        · cases hv
      · obtain ⟨t, ht, rfl⟩ := List.mem_map.1 hx
        obtain ⟨tot, o, n, _, e2, _⟩ := (h.ti.giv t ht).row
        have hmem : t.1 ∈ G0 := h.ti.perm.mem_iff.1 (List.mem_append_left _ (List.mem_map_of_mem ht))
        have hsq := hSO.2 t.1.sq (List.mem_map_of_mem hmem)
        refine ⟨fun e => ?_, (Array.getElem?_eq_some_iff.1 e2).1, cell_of_row _ _ _ _ _ _ e2, hsq.1, by simp only []; omega⟩
        simp only [] at e
        rw [e, hq] at e2
        simp [mrow] at e2
      · rintro e w' ⟨rfl, L', cur', hp, ha, hblk, hc, hg⟩
        have hp2 : L'.Perm ((G0.filter fun g => dp g.key).map fun g => (g.m, g.sq)) := by
          have h5 := hT.map (fun g : JG => (g.m, g.sq))
          rw [List.map_map] at h5
          exact hp.trans h5
        have hpw : ((G0.filter fun g => dp g.key).map JG.sq).Pairwise (· < ·) := hSO.1.sublist ((List.filter_sublist).map _)
        have hL := pairs_eq hp2 ha hpw
        have hkeep : ∀ (k : Nat) (o : Obj), wr.heap[k]? = some o → isJ o → w'.heap[k]? = some o := fun k o e1 hj => (hg.block k (Array.getElem?_eq_some_iff.1 e1).1 (fun e2 => by
          cases e2
          rw [hq] at e1
          cases e1
          rcases hj with ⟨c, fr, h | h | h⟩ | ⟨es, c, h⟩ <;> cases h)).trans e1
        refine ⟨rfl, hlen, ⟨fun i g hi => ?_⟩, by rw [← hG]; exact h.ti.ji.keep hkeep, h.ti.fr.grown_new hg fun k hk => by cases hk; exact hB⟩
        have hgm : g ∈ T.map Prod.fst := hT.mem_iff.2 (List.mem_of_getElem? hi)
        obtain ⟨t, ht, rfl⟩ := List.mem_map.1 hgm
        exact ⟨q, t.2, rfl, ⟨cur', hblk, hc i (t.1.m, t.1.sq) (by rw [hL, List.getElem?_map, hi]; rfl)⟩, (h.ti.giv t ht).keep hkeep⟩
end

theorem row_blk {w : World} {B : Nat} {v : Value} {n : Nat} {xs : List Value} (h : w.ownsRow B 58 1 v n xs) {k : Nat} (hk : v.ownBlock = some k) : B ≤ k ∧ ∃ c, w.heap[k]? = some (.cells c 58 (0, 0)) := by
  rcases h.2 with ⟨rfl, _⟩ | ⟨g, cap, cur, rfl, hB, hg, _⟩
  · cases hk
  · simp [Value.ownBlock] at hk
    subst hk
    exact ⟨hB, cur, hg⟩

def dpA : Key → Bool := fun _ => true

theorem drop33 (m : Nat) (W : World) : Calls Try.prog 33 #[.pointer (some ⟨m, 0, none⟩)] W fun e w' => e = .returned (.bool true) ∧ w' = W := by
  go_enter Try.func33, Try.ntmps33
  go_wp2
  go_ret
  exact ⟨rfl, rfl⟩

set_option maxHeartbeats 4000000 in
set_option maxRecDepth 100000 in
theorem takeA_any (B j : Nat) (lim : Int) (M : Nat → Prop) (pb : Nat → Nat) (els : Nat → List El) (seq : Int) (mb : Nat) (G0 : List JG) (w : World) (hJ : Hid (JI w B j lim M pb seq (some mb) G0)) (hSO : Hid (SO G0 seq)) (hs : seq ≤ 65536) (hBw : B ≤ w.heap.size) (hO : Hid (TOk w B pb els G0)) (hl : G0.length ≤ 65536) :
    Calls Try.prog 32 #[.pointer (some ⟨j, 0, none⟩), .func (.func 33) #[] #[]] w
      fun e w' => ∃ ma mc, e = .returned (.slice ma (G0.filter fun g => dpA g.key).length mc) ∧ Out w' pb els M ma (G0.filter fun g => dpA g.key) ∧ JI w' B j lim M pb seq (some mb) (G0.filter fun g => !dpA g.key) ∧ Fr isJ B w w' := by
  obtain ⟨es, clock, hmbw⟩ : ∃ es c, w.heap[mb]? = some (.map es c) := by
    rcases hJ.out.map with ⟨h1, _⟩ | ⟨mb', E, e1, _, ⟨es', c', e3, _⟩, _⟩
    · cases h1
    · cases e1; exact ⟨_, _, e3⟩
  have hj0 : w.cell? ⟨j, 0, none⟩ = some (.map (some mb)) := by obtain ⟨_, _, _, _, _, _, h, _⟩ := hJ.out.j_cells; exact h
  have hrg := run_range_map (P := Try.prog) w 57 97 58 mb es clock Try.underlying57 hmbw
  obtain ⟨i58, z58, hi58, hz58, hs58, hb58, hc58⟩ := Try.g58
  have H58 : Hid (Try.prog.info? 58 = some i58 ∧ i58.zero = some z58 ∧ i58.size = 1 ∧ i58.bytes = 8 ∧ z58.cells.size = 1) := ⟨hi58, hz58, hs58, hb58, hc58⟩
  clear hi58 hz58 hs58 hb58 hc58
  have HT0 : Hid (TL w (w.alloc (.mapIter (some mb) clock #[] clock)) B j lim M pb els seq mb dpA G0 G0 [] none none 0) := TL.start hJ.out hmbw
  clear hmbw hJ
  go_enter Try.func32, Try.ntmps32
  go_wp2
  generalize w.alloc (.mapIter (some mb) clock #[] clock) = w1 at *
  go_loopw [5, 6, 7] (fun v _ _ wr => ∃ (G : List JG) (T : List (JG × Nat)) (ma : Option Addr) (mc : Nat), v = .slice ma T.length mc ∧ Hid (TL w wr B j lim M pb els seq mb dpA G0 G T none ma mc)) (fun _ _ _ wr => wr.rangeLeft mb w.heap.size)
  case atStart => exact ⟨G0, [], none, 0, rfl, HT0⟩
  case round =>
    obtain ⟨G, T, ma, mc, rfl, HT⟩ := hrel
    clear HT0 hrg hj0
    rcases HT.out.next with ⟨hrun, hd⟩ | ⟨i, g, w2, hi, hrun, hent, hT2, hlt⟩
    · have HSR : Hid (Calls Try.prog 48 #[.slice ma T.length mc, .func (.func 49) #[] #[]] wr fun e w' => e = .returned (.tuple #[]) ∧ T.length = (G0.filter fun g => dpA g.key).length ∧ Out w' pb els M ma (G0.filter fun g => dpA g.key) ∧ JI w' B j lim M pb seq (some mb) (G0.filter fun g => !dpA g.key) ∧ Fr isJ B w w') := HT.out.sorted hd hSO.out hs hl
      clear hd HT
      go_wp2_with fail
      refine HSR.out.mono ?_
      rintro e w3 ⟨rfl, hln, hO3, hJ3, hF3⟩
      have H3 : Hid (T.length = (G0.filter fun g => dpA g.key).length ∧ Out w3 pb els M ma (G0.filter fun g => dpA g.key) ∧ JI w3 B j lim M pb seq (some mb) (G0.filter fun g => !dpA g.key) ∧ Fr isJ B w w3) := ⟨hln, hO3, hJ3, hF3⟩
      clear hln hO3 hJ3 hF3 HSR hrun
      go_wp2
      go_ret
      exact ⟨ma, mc, by rw [← H3.out.1]; rfl, H3.out.2.1, H3.out.2.2.1, H3.out.2.2.2⟩
    · have hent' : (Instr.entry (.pointer (some ⟨w.heap.size, 0, none⟩))).run Try.prog w2 = .ok (.tuple #[.agg #[.int .i64 g.key.typ, .int .u8 g.key.ton, .int .u8 g.key.npi, .string g.key.num, .int .i64 g.key.ref, .int .i64 g.key.tot], .pointer (some ⟨g.m, 0, none⟩)]) w2 := hent
      have HT2 : Hid (TL w w2 B j lim M pb els seq mb dpA G0 G T (some g.key) ma mc ∧ G[i]? = some g) := ⟨hT2, hi⟩
      clear hent hT2 hi HT
      have hb3 : Below w2.heap.size w2 (w2.alloc (.cells #[.int .i64 g.key.typ, .int .u8 g.key.ton, .int .u8 g.key.npi, .string g.key.num, .int .i64 g.key.ref, .int .i64 g.key.tot] 97)) := (Below.refl _ _).alloc (Nat.le_refl _) _
      have HT3 : Hid ((TL w (w2.alloc (.cells #[.int .i64 g.key.typ, .int .u8 g.key.ton, .int .u8 g.key.npi, .string g.key.num, .int .i64 g.key.ref, .int .i64 g.key.tot] 97)) B j lim M pb els seq mb dpA G0 G T (some g.key) ma mc ∧ (w2.alloc (.cells #[.int .i64 g.key.typ, .int .u8 g.key.ton, .int .u8 g.key.npi, .string g.key.num, .int .i64 g.key.ref, .int .i64 g.key.tot] 97)).rangeLeft mb w.heap.size = w2.rangeLeft mb w.heap.size) ∧ G[i]? = some g) := ⟨HT2.out.1.below hb3, HT2.out.2⟩
      clear hb3
      go_wp2_with fail
      refine (drop33 g.m _).mono ?_
      rintro e w3 ⟨rfl, rfl⟩
      have HFG : Hid (Calls Try.prog 42 #[.pointer (some ⟨j, 0, none⟩), .agg #[.int .i64 g.key.typ, .int .u8 g.key.ton, .int .u8 g.key.npi, .string g.key.num, .int .i64 g.key.ref, .int .i64 g.key.tot], .pointer (some ⟨g.m, 0, none⟩)] (w2.alloc (.cells #[.int .i64 g.key.typ, .int .u8 g.key.ton, .int .u8 g.key.npi, .string g.key.num, .int .i64 g.key.ref, .int .i64 g.key.tot] 97))
           fun e w' => e = .returned (.pointer (some ⟨g.m, 0, none⟩)) ∧ ∃ q, TI w w' B j lim M pb els seq mb w.heap.size dpA G0 (G.eraseIdx i) (T ++ [(g, q)]) none ∧ w'.ownsRow w.heap.size 58 1 (.slice ma T.length mc) T.length (tptrs T) ∧ w'.rangeLeft mb w.heap.size ≤ (w2.alloc (.cells #[.int .i64 g.key.typ, .int .u8 g.key.ton, .int .u8 g.key.npi, .string g.key.num, .int .i64 g.key.ref, .int .i64 g.key.tot] 97)).rangeLeft mb w.heap.size ∧ w.heap.size ≤ w'.heap.size) := HT3.out.1.1.forget HT3.out.2 rfl hBw hO.out
      have hTl := HT3.out.1.1.len
      go_wp2_with fail
      refine HFG.out.mono ?_
      rintro e w4 ⟨rfl, q, hT4, hO4, hl4, hs4⟩
      have hba : Below w4.heap.size w4 (w4.alloc (.cells #[.pointer (some ⟨g.m, 0, none⟩)] 58)) := (Below.refl _ _).alloc (Nat.le_refl _) _
      have HT5 : Hid (TI w (w4.alloc (.cells #[.pointer (some ⟨g.m, 0, none⟩)] 58)) B j lim M pb els seq mb w.heap.size dpA G0 (G.eraseIdx i) (T ++ [(g, q)]) none ∧ (w4.alloc (.cells #[.pointer (some ⟨g.m, 0, none⟩)] 58)).rangeLeft mb w.heap.size = w4.rangeLeft mb w.heap.size) := hT4.below hba
      have HO5 : Hid ((w4.alloc (.cells #[.pointer (some ⟨g.m, 0, none⟩)] 58)).ownsRow w.heap.size 58 1 (.slice ma T.length mc) T.length (tptrs T)) := World.ownsRow.alloc hO4 _
      have HS5 : Hid (w.heap.size ≤ (w4.alloc (.cells #[.pointer (some ⟨g.m, 0, none⟩)] 58)).heap.size) := by show _ ≤ _; simp; omega
      have hmeas : w4.rangeLeft mb w.heap.size < wr.rangeLeft mb w.heap.size := by have := HT3.out.1.2; omega
      clear HFG HT2 HT3 hT4 hO4 hl4 hba hent' hrun hlt
      go_wp2_with (refine wpList_append_own_at (P := Try.prog) _ rfl (.tmp 21) (.tmp 26) 67 rfl w.heap.size 58 i58 z58 1 8 Try.underlying67 H58.out.1 H58.out.2.1 H58.out.2.2.1 H58.out.2.2.2.1 H58.out.2.2.2.2 (by decide) (.slice ma T.length mc) T.length (tptrs T) rfl (by exact HO5.out) ⟨w4.heap.size, 0, none⟩ 1 1 [.pointer (some ⟨g.m, 0, none⟩)] rfl rfl (by exact cells_new w4 [.pointer (some ⟨g.m, 0, none⟩)] 58) (by intro u hu; simp at hu; subst hu; rfl) (by unfold maxLen; omega) (by omega) (by exact HS5.out) ?_; intro v' w5 hown' hgrow hnil hat')
      obtain ⟨ma', mc', rfl⟩ := grow_slice hown'
      have HN : Hid (TL w w5 B j lim M pb els seq mb dpA G0 (G.eraseIdx i) (T ++ [(g, q)]) none ma' mc' ∧ w5.rangeLeft mb w.heap.size = (w4.alloc (.cells #[.pointer (some ⟨g.m, 0, none⟩)] 58)).rangeLeft mb w.heap.size) := TL.grown HT5.out.1 hgrow (fun k hk => row_blk HO5.out hk) hown'
      have hmeas5 : w5.rangeLeft mb w.heap.size < wr.rangeLeft mb w.heap.size := by have := HN.out.2; have := HT5.out.2; omega
      clear hown' hgrow hnil hat' HO5 HS5 HT5
      go_wp2
      go_roundw
      case rel => exact ⟨G.eraseIdx i, T ++ [(g, q)], ma', mc', by rw [List.length_append]; rfl, HN.out.1⟩
      case measure => exact hmeas5

end Go.Proofs.Qxb6616208a
