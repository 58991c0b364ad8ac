/-
  take (32) with the closure of ZZtakeReference (36); over a nil map; ZZtakeAll (22), ZZtakeReference (26).
-/
import Derived.Test.Qxb6616208aTakeA
namespace Go.Proofs.Qxb6616208a
open Go.RowKit
set_option linter.unusedVariables false
set_option linter.unusedSimpArgs false

def dpR (ref : Int) : Key → Bool := fun k => k.ref == ref

set_option maxHeartbeats 1000000 in
theorem drop36 (m bx : Nat) (ref r : Int) (W : World) (h1 : W.cell? ⟨m, 1, none⟩ = some (.int .i64 r)) (h2 : W.cell? ⟨bx, 0, none⟩ = some (.int .i64 ref)) : Calls Try.prog 36 #[.pointer (some ⟨m, 0, none⟩), .pointer (some ⟨bx, 0, none⟩)] W fun e w' => e = .returned (.bool (r == ref)) ∧ w' = W.drew := by
  go_enter Try.func36, Try.ntmps36
  go_wp2
  go_region
  go_wp2
  go_ret
  exact ⟨rfl, rfl⟩

/-- the box of the closure -/
def Bx (w : World) (bx : Nat) (ref : Int) : Prop := w.heap[bx]? = some (.cells #[.int .i64 ref] 3 (0, 0))

theorem Bx.fr {w w' : World} {B bx : Nat} {ref : Int} (h : Bx w bx ref) (hf : Fr isJ B w w') : Bx w' bx ref := hf.keep h (by rintro (⟨c, fr, h | h | h⟩ | ⟨es, c, h⟩) <;> simp at h)

theorem TL.ref {w wr : World} {B j : Nat} {lim : Int} {M : Nat → Prop} {pb : Nat → Nat} {els : Nat → List El} {seq : Int} {mb : Nat} {dp : Key → Bool} {G0 G : List JG} {T : List (JG × Nat)} {ex : Option Key} {ma : Option Addr} {mc : Nat} (h : TL w wr B j lim M pb els seq mb dp G0 G T ex ma mc) {i : Nat} {g : JG} (hi : G[i]? = some g) : wr.cell? ⟨g.m, 1, none⟩ = some (.int .i64 g.key.ref) := by
  obtain ⟨_, ⟨o, n, e⟩, _, _⟩ := h.ti.ji.ok g (List.mem_of_getElem? hi)
  exact cell_of_row _ _ _ _ _ _ e

set_option maxHeartbeats 4000000 in
set_option maxRecDepth 100000 in
theorem takeR_any (B j : Nat) (lim : Int) (M : Nat → Prop) (pb : Nat → Nat) (els : Nat → List El) (seq : Int) (mb : Nat) (G0 : List JG) (w : World) (hJ : Hid (JI w B j lim M pb seq (some mb) G0)) (hSO : Hid (SO G0 seq)) (hs : seq ≤ 65536) (hBw : B ≤ w.heap.size) (hO : Hid (TOk w B pb els G0)) (hl : G0.length ≤ 65536) (bx : Nat) (ref : Int) (hBx : Hid (Bx w bx ref)) :
    Calls Try.prog 32 #[.pointer (some ⟨j, 0, none⟩), .func (.func 36) #[] #[.pointer (some ⟨bx, 0, none⟩)]] w
      fun e w' => ∃ ma mc, e = .returned (.slice ma (G0.filter fun g => dpR ref g.key).length mc) ∧ Out w' pb els M ma (G0.filter fun g => dpR ref g.key) ∧ JI w' B j lim M pb seq (some mb) (G0.filter fun g => !dpR ref g.key) ∧ Fr isJ B w w' := by
  obtain ⟨es, clock, hmbw⟩ : ∃ es c, w.heap[mb]? = some (.map es c) := by
    rcases hJ.out.map with ⟨h1, _⟩ | ⟨mb', E, e1, _, ⟨es', c', e3, _⟩, _⟩
    · cases h1
    · cases e1; exact ⟨_, _, e3⟩
  have hj0 : w.cell? ⟨j, 0, none⟩ = some (.map (some mb)) := by obtain ⟨_, _, _, _, _, _, h, _⟩ := hJ.out.j_cells; exact h
  have hrg := run_range_map (P := Try.prog) w 57 97 58 mb es clock Try.underlying57 hmbw
  obtain ⟨i58, z58, hi58, hz58, hs58, hb58, hc58⟩ := Try.g58
  have H58 : Hid (Try.prog.info? 58 = some i58 ∧ i58.zero = some z58 ∧ i58.size = 1 ∧ i58.bytes = 8 ∧ z58.cells.size = 1) := ⟨hi58, hz58, hs58, hb58, hc58⟩
  clear hi58 hz58 hs58 hb58 hc58
  have HT0 : Hid (TL w (w.alloc (.mapIter (some mb) clock #[] clock)) B j lim M pb els seq mb (dpR ref) G0 G0 [] none none 0) := TL.start hJ.out hmbw
  clear hmbw hJ
  go_enter Try.func32, Try.ntmps32
  go_wp2
  generalize w.alloc (.mapIter (some mb) clock #[] clock) = w1 at *
  go_loopw [5, 6, 7] (fun v _ _ wr => ∃ (G : List JG) (T : List (JG × Nat)) (ma : Option Addr) (mc : Nat), v = .slice ma T.length mc ∧ Hid (TL w wr B j lim M pb els seq mb (dpR ref) G0 G T none ma mc)) (fun _ _ _ wr => wr.rangeLeft mb w.heap.size)
  case atStart => exact ⟨G0, [], none, 0, rfl, HT0⟩
  case round =>
    obtain ⟨G, T, ma, mc, rfl, HT⟩ := hrel
    clear HT0 hrg hj0
    rcases HT.out.next with ⟨hrun, hd⟩ | ⟨i, g, w2, hi, hrun, hent, hT2, hlt⟩
    · have HSR : Hid (Calls Try.prog 48 #[.slice ma T.length mc, .func (.func 49) #[] #[]] wr fun e w' => e = .returned (.tuple #[]) ∧ T.length = (G0.filter fun g => dpR ref g.key).length ∧ Out w' pb els M ma (G0.filter fun g => dpR ref g.key) ∧ JI w' B j lim M pb seq (some mb) (G0.filter fun g => !dpR ref g.key) ∧ Fr isJ B w w') := HT.out.sorted hd hSO.out hs hl
      clear hd HT
      go_wp2_with fail
      refine HSR.out.mono ?_
      rintro e w3 ⟨rfl, hln, hO3, hJ3, hF3⟩
      have H3 : Hid (T.length = (G0.filter fun g => dpR ref g.key).length ∧ Out w3 pb els M ma (G0.filter fun g => dpR ref g.key) ∧ JI w3 B j lim M pb seq (some mb) (G0.filter fun g => !dpR ref g.key) ∧ Fr isJ B w w3) := ⟨hln, hO3, hJ3, hF3⟩
      clear hln hO3 hJ3 hF3 HSR hrun
      go_wp2
      go_ret
      exact ⟨ma, mc, by rw [← H3.out.1]; rfl, H3.out.2.1, H3.out.2.2.1, H3.out.2.2.2⟩
    · have hent' : (Instr.entry (.pointer (some ⟨w.heap.size, 0, none⟩))).run Try.prog w2 = .ok (.tuple #[.agg #[.int .i64 g.key.typ, .int .u8 g.key.ton, .int .u8 g.key.npi, .string g.key.num, .int .i64 g.key.ref, .int .i64 g.key.tot], .pointer (some ⟨g.m, 0, none⟩)]) w2 := hent
      have HT2 : Hid (TL w w2 B j lim M pb els seq mb (dpR ref) G0 G T (some g.key) ma mc ∧ G[i]? = some g) := ⟨hT2, hi⟩
      clear hent hT2 hi HT
      have hb3 : Below w2.heap.size w2 (w2.alloc (.cells #[.int .i64 g.key.typ, .int .u8 g.key.ton, .int .u8 g.key.npi, .string g.key.num, .int .i64 g.key.ref, .int .i64 g.key.tot] 97)) := (Below.refl _ _).alloc (Nat.le_refl _) _
      have HT3 : Hid ((TL w (w2.alloc (.cells #[.int .i64 g.key.typ, .int .u8 g.key.ton, .int .u8 g.key.npi, .string g.key.num, .int .i64 g.key.ref, .int .i64 g.key.tot] 97)).drew B j lim M pb els seq mb (dpR ref) G0 G T (some g.key) ma mc ∧ (w2.alloc (.cells #[.int .i64 g.key.typ, .int .u8 g.key.ton, .int .u8 g.key.npi, .string g.key.num, .int .i64 g.key.ref, .int .i64 g.key.tot] 97)).drew.rangeLeft mb w.heap.size = w2.rangeLeft mb w.heap.size) ∧ G[i]? = some g) := ⟨HT2.out.1.below hb3.drew, HT2.out.2⟩
      clear hb3
      go_wp2_with fail
      have dr1 := HT3.out.1.1.ref HT3.out.2
      have dr2 : (w2.alloc (.cells #[.int .i64 g.key.typ, .int .u8 g.key.ton, .int .u8 g.key.npi, .string g.key.num, .int .i64 g.key.ref, .int .i64 g.key.tot] 97)).drew.cell? ⟨bx, 0, none⟩ = some (.int .i64 ref) := cell_of_row _ _ _ _ _ _ (hBx.out.fr HT3.out.1.1.ti.fr)
      refine (drop36 g.m bx ref g.key.ref (w2.alloc (.cells #[.int .i64 g.key.typ, .int .u8 g.key.ton, .int .u8 g.key.npi, .string g.key.num, .int .i64 g.key.ref, .int .i64 g.key.tot] 97)) dr1 dr2).mono ?_
      rintro e w3 ⟨rfl, rfl⟩
      clear dr1 dr2
      cases hdk : (g.key.ref == ref) with
      | true =>
        have HDK : Hid (dpR ref g.key = true) := hdk
        clear hdk
        have HFG : Hid (Calls Try.prog 42 #[.pointer (some ⟨j, 0, none⟩), .agg #[.int .i64 g.key.typ, .int .u8 g.key.ton, .int .u8 g.key.npi, .string g.key.num, .int .i64 g.key.ref, .int .i64 g.key.tot], .pointer (some ⟨g.m, 0, none⟩)] (w2.alloc (.cells #[.int .i64 g.key.typ, .int .u8 g.key.ton, .int .u8 g.key.npi, .string g.key.num, .int .i64 g.key.ref, .int .i64 g.key.tot] 97)).drew
             fun e w' => e = .returned (.pointer (some ⟨g.m, 0, none⟩)) ∧ ∃ q, TI w w' B j lim M pb els seq mb w.heap.size (dpR ref) G0 (G.eraseIdx i) (T ++ [(g, q)]) none ∧ w'.ownsRow w.heap.size 58 1 (.slice ma T.length mc) T.length (tptrs T) ∧ w'.rangeLeft mb w.heap.size ≤ (w2.alloc (.cells #[.int .i64 g.key.typ, .int .u8 g.key.ton, .int .u8 g.key.npi, .string g.key.num, .int .i64 g.key.ref, .int .i64 g.key.tot] 97)).drew.rangeLeft mb w.heap.size ∧ w.heap.size ≤ w'.heap.size) := HT3.out.1.1.forget HT3.out.2 HDK.out hBw hO.out
        have hTl := HT3.out.1.1.len
        go_wp2_with fail
        refine HFG.out.mono ?_
        rintro e w4 ⟨rfl, q, hT4, hO4, hl4, hs4⟩
        have hba : Below w4.heap.size w4 (w4.alloc (.cells #[.pointer (some ⟨g.m, 0, none⟩)] 58)) := (Below.refl _ _).alloc (Nat.le_refl _) _
        have HT5 : Hid (TI w (w4.alloc (.cells #[.pointer (some ⟨g.m, 0, none⟩)] 58)) B j lim M pb els seq mb w.heap.size (dpR ref) G0 (G.eraseIdx i) (T ++ [(g, q)]) none ∧ (w4.alloc (.cells #[.pointer (some ⟨g.m, 0, none⟩)] 58)).rangeLeft mb w.heap.size = w4.rangeLeft mb w.heap.size) := hT4.below hba
        have HO5 : Hid ((w4.alloc (.cells #[.pointer (some ⟨g.m, 0, none⟩)] 58)).ownsRow w.heap.size 58 1 (.slice ma T.length mc) T.length (tptrs T)) := World.ownsRow.alloc hO4 _
        have HS5 : Hid (w.heap.size ≤ (w4.alloc (.cells #[.pointer (some ⟨g.m, 0, none⟩)] 58)).heap.size) := by show _ ≤ _; simp; omega
        have hmeas : w4.rangeLeft mb w.heap.size < wr.rangeLeft mb w.heap.size := by have := HT3.out.1.2; omega
        clear HFG HT2 HT3 hT4 hO4 hl4 hba hent' hrun hlt
        go_wp2_with (refine wpList_append_own_at (P := Try.prog) _ rfl (.tmp 21) (.tmp 26) 67 rfl w.heap.size 58 i58 z58 1 8 Try.underlying67 H58.out.1 H58.out.2.1 H58.out.2.2.1 H58.out.2.2.2.1 H58.out.2.2.2.2 (by decide) (.slice ma T.length mc) T.length (tptrs T) rfl (by exact HO5.out) ⟨w4.heap.size, 0, none⟩ 1 1 [.pointer (some ⟨g.m, 0, none⟩)] rfl rfl (by exact cells_new w4 [.pointer (some ⟨g.m, 0, none⟩)] 58) (by intro u hu; simp at hu; subst hu; rfl) (by unfold maxLen; omega) (by omega) (by exact HS5.out) ?_; intro v' w5 hown' hgrow hnil hat')
        obtain ⟨ma', mc', rfl⟩ := grow_slice hown'
        have HN : Hid (TL w w5 B j lim M pb els seq mb (dpR ref) G0 (G.eraseIdx i) (T ++ [(g, q)]) none ma' mc' ∧ w5.rangeLeft mb w.heap.size = (w4.alloc (.cells #[.pointer (some ⟨g.m, 0, none⟩)] 58)).rangeLeft mb w.heap.size) := TL.grown HT5.out.1 hgrow (fun k hk => row_blk HO5.out hk) hown'
        have hmeas5 : w5.rangeLeft mb w.heap.size < wr.rangeLeft mb w.heap.size := by have := HN.out.2; have := HT5.out.2; omega
        clear hown' hgrow hnil hat' HO5 HS5 HT5
        go_wp2
        go_roundw
        case rel => exact ⟨G.eraseIdx i, T ++ [(g, q)], ma', mc', by rw [List.length_append]; rfl, HN.out.1⟩
        case measure => exact hmeas5
      | false =>
        have HN : Hid (TL w (w2.alloc (.cells #[.int .i64 g.key.typ, .int .u8 g.key.ton, .int .u8 g.key.npi, .string g.key.num, .int .i64 g.key.ref, .int .i64 g.key.tot] 97)).drew B j lim M pb els seq mb (dpR ref) G0 G T none ma mc) := HT3.out.1.1.stay hdk
        have hmeas5 : (w2.alloc (.cells #[.int .i64 g.key.typ, .int .u8 g.key.ton, .int .u8 g.key.npi, .string g.key.num, .int .i64 g.key.ref, .int .i64 g.key.tot] 97)).drew.rangeLeft mb w.heap.size < wr.rangeLeft mb w.heap.size := by have := HT3.out.1.2; omega
        clear hdk HT2 HT3 hent' hrun hlt
        go_wp2
        go_roundw
        case rel => exact ⟨G, T, ma, mc, rfl, HN⟩
        case measure => exact hmeas5

set_option maxHeartbeats 2000000 in
theorem take_nil (j : Nat) (fv : Value) (w : World) (hj0 : w.cell? ⟨j, 0, none⟩ = some (.map none)) :
    Calls Try.prog 32 #[.pointer (some ⟨j, 0, none⟩), fv] w fun e w' => e = .returned (.slice none 0 0) ∧ Below w.heap.size w w' := by
  have hrg := run_range_nilMap (P := Try.prog) w 57 97 58 Try.underlying57
  have hnx := run_next_nilMap (P := Try.prog) w 0 0 0 #[]
  go_enter Try.func32, Try.ntmps32
  go_wp2
  refine wp_loop_rounds 1 ?_
  rw [rounds_succ]
  go_wp2_with fail
  refine (sortM_none none 0 _ _).mono ?_
  rintro e w' ⟨rfl, rfl⟩
  go_wp2
  go_ret
  exact ⟨rfl, (Below.refl _ _).alloc (Nat.le_refl _) _⟩

/-- ZZtakeAll -/
theorem takeAll_any (B j : Nat) (lim : Int) (M : Nat → Prop) (pb : Nat → Nat) (els : Nat → List El) (seq : Int) (pend : Option Nat) (G0 : List JG) (w : World) (hJ : JI w B j lim M pb seq pend G0) (hSO : SO G0 seq) (hs : seq ≤ 65536) (hBw : B ≤ w.heap.size) (hO : TOk w B pb els G0) (hl : G0.length ≤ 65536) :
    Calls Try.prog 22 #[.pointer (some ⟨j, 0, none⟩)] w fun e w' => ∃ ma mc, e = .returned (.slice ma G0.length mc) ∧ Out w' pb els M ma G0 ∧ JI w' B j lim M pb seq pend [] ∧ Fr isJ B w w' := by
  have HC : Hid (Calls Try.prog 32 #[.pointer (some ⟨j, 0, none⟩), .func (.func 33) #[] #[]] w fun e w' => ∃ ma mc, e = .returned (.slice ma G0.length mc) ∧ Out w' pb els M ma G0 ∧ JI w' B j lim M pb seq pend [] ∧ Fr isJ B w w') := by
    cases pend with
    | none =>
      have hG : G0 = [] := by
        rcases hJ.map with ⟨_, h1⟩ | ⟨_, _, h1, _⟩
        · exact h1
        · cases h1
      subst hG
      have hj0 : w.cell? ⟨j, 0, none⟩ = some (.map none) := by obtain ⟨_, _, _, _, _, _, h, _⟩ := hJ.j_cells; exact h
      refine (take_nil j _ w hj0).mono ?_
      rintro e w' ⟨rfl, hb⟩
      exact ⟨none, 0, rfl, ⟨fun i g hi => by simp at hi⟩, hJ.below hb, Fr.of_below hb⟩
    | some mb =>
      refine (takeA_any B j lim M pb els seq mb G0 w hJ hSO hs hBw hO hl).mono ?_
      rintro e w' ⟨ma, mc, rfl, h1, h2, h3⟩
      have e1 : (G0.filter fun g => dpA g.key) = G0 := List.filter_eq_self.2 fun _ _ => rfl
      have e2 : (G0.filter fun g => !dpA g.key) = [] := List.filter_eq_nil_iff.2 fun _ _ => by simp [dpA]
      rw [e1] at h1
      rw [e2] at h2
      exact ⟨ma, mc, by rw [e1], h1, h2, h3⟩
  clear hJ hSO hO
  go_enter Try.func22, Try.ntmps22
  go_wp2_with fail
  refine HC.out.mono ?_
  rintro e w' ⟨ma, mc, rfl, h1, h2, h3⟩
  have HF : Hid (Out w' pb els M ma G0 ∧ JI w' B j lim M pb seq pend [] ∧ Fr isJ B w w') := ⟨h1, h2, h3⟩
  clear h1 h2 h3 HC
  go_wp2
  go_ret
  exact ⟨ma, mc, rfl, HF.out⟩

/-- ZZtakeReference -/
theorem takeRef_any (B j : Nat) (lim : Int) (M : Nat → Prop) (pb : Nat → Nat) (els : Nat → List El) (seq : Int) (pend : Option Nat) (G0 : List JG) (ref : Int) (w : World) (hJ : JI w B j lim M pb seq pend G0) (hSO : SO G0 seq) (hs : seq ≤ 65536) (hBw : B ≤ w.heap.size) (hO : TOk w B pb els G0) (hl : G0.length ≤ 65536) :
    Calls Try.prog 26 #[.pointer (some ⟨j, 0, none⟩), .int .i64 ref] w fun e w' => ∃ ma mc, e = .returned (.slice ma (G0.filter fun g => dpR ref g.key).length mc) ∧ Out w' pb els M ma (G0.filter fun g => dpR ref g.key) ∧ JI w' B j lim M pb seq pend (G0.filter fun g => !dpR ref g.key) ∧ Fr isJ B w w' := by
  have hba : Below w.heap.size w (w.alloc (.cells #[.int .i64 ref] 3)) := (Below.refl _ _).alloc (Nat.le_refl _) _
  have HC : Hid (Calls Try.prog 32 #[.pointer (some ⟨j, 0, none⟩), .func (.func 36) #[] #[.pointer (some ⟨w.heap.size, 0, none⟩)]] (w.alloc (.cells #[.int .i64 ref] 3)) fun e w' => ∃ ma mc, e = .returned (.slice ma (G0.filter fun g => dpR ref g.key).length mc) ∧ Out w' pb els M ma (G0.filter fun g => dpR ref g.key) ∧ JI w' B j lim M pb seq pend (G0.filter fun g => !dpR ref g.key) ∧ Fr isJ B w w') := by
    have hJa := hJ.below hba
    cases pend with
    | none =>
      have hG : G0 = [] := by
        rcases hJ.map with ⟨_, h1⟩ | ⟨_, _, h1, _⟩
        · exact h1
        · cases h1
      subst hG
      have hj0 : (w.alloc (.cells #[.int .i64 ref] 3)).cell? ⟨j, 0, none⟩ = some (.map none) := by obtain ⟨_, _, _, _, _, _, h, _⟩ := hJa.j_cells; exact h
      refine (take_nil j _ _ hj0).mono ?_
      rintro e w' ⟨rfl, hb⟩
      exact ⟨none, 0, rfl, ⟨fun i g hi => by simp at hi⟩, hJa.below hb, (Fr.of_below hba).trans (Fr.of_below hb)⟩
    | some mb =>
      refine (takeR_any B j lim M pb els seq mb G0 _ hJa hSO hs (Nat.le_trans hBw hba.size) (fun g hg => ?_) hl w.heap.size ref (heap_alloc_new _ _)).mono ?_
      · obtain ⟨o1, o2, o3⟩ := hO g hg
        exact ⟨o1, o2, fun a ha => ⟨(o3 a ha).1.below ((hba.mono hBw)), (o3 a ha).2⟩⟩
      · rintro e w' ⟨ma, mc, rfl, h1, h2, h3⟩
        exact ⟨ma, mc, rfl, h1, h2, (Fr.of_below hba).trans h3⟩
  clear hJ hSO hO hba
  go_enter Try.func26, Try.ntmps26
  go_wp2_with fail
  refine HC.out.mono ?_
  rintro e w' ⟨ma, mc, rfl, h1, h2, h3⟩
  have HF : Hid (Out w' pb els M ma (G0.filter fun g => dpR ref g.key) ∧ JI w' B j lim M pb seq pend (G0.filter fun g => !dpR ref g.key) ∧ Fr isJ B w w') := ⟨h1, h2, h3⟩
  clear h1 h2 h3 HC
  go_wp2
  go_ret
  exact ⟨ma, mc, rfl, HF.out⟩

end Go.Proofs.Qxb6616208a
