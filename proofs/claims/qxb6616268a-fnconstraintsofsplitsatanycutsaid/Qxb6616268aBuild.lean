/-
  ZZnewDependent (27), zzBuildDeps (13).
-/
import Derived.Test.Qxb6616268aBase
import Derived.Deep.MidRow
namespace Go.Proofs.Qxb6616268a
open Go.RowKit
set_option linter.unusedVariables false
set_option linter.unusedSimpArgs false

/-- the 25 cells of a dependent -/
def Dp.wide (d : Dp) : List Value :=
  [.string d.describe, .string d.catalog, .string d.kind, .int .u32 0, .string ⟨#[]⟩, .string ⟨#[]⟩, .pointer none, .pointer none, .bool false, .bool false, .bool false, .bool false, .bool d.uniq, .bool false, .bool false, .pointer none,
   .slice d.ra d.rn d.rc, pv d.pred, .map none, .slice none 0 0, .slice none 0 0, .pointer none, pv d.cond, pv d.lt, pv d.lc]

theorem Try.info51 : (Try.prog.info? 51).map (fun i => (i.zero, i.size, i.bytes)) = some (some (.agg #[.string ⟨#[]⟩, .string ⟨#[]⟩, .string ⟨#[]⟩, .int .u32 0, .string ⟨#[]⟩, .string ⟨#[]⟩, .pointer none, .pointer none, .bool false, .bool false, .bool false, .bool false, .bool false, .bool false, .bool false, .pointer none,
   .slice none 0 0, .pointer none, .map none, .slice none 0 0, .slice none 0 0, .pointer none, .pointer none, .pointer none, .pointer none]), 25, 240) := by kernel_rfl

theorem below_row {B : Nat} {a w : World} (h : Below B a w) {g : Nat} (hg : B ≤ g) (cs : Array Value) : Below B a (w.setRow g cs) :=
  h.trans ⟨rfl, rfl, rfl, by simp [World.setRow], fun k hk => setRow_other w g k cs (by omega)⟩

theorem heap_setCells (b : Nat) : ∀ (vs : List Value) (o : Nat) (w : World) (k : Nat), k ≠ b → (w.setCells b o vs).heap[k]? = w.heap[k]?
  | [], _, _, _, _ => rfl
  | v :: r, o, w, k, h => by
    rw [World.setCells, heap_setCells b r (o + 1) _ k h, Below.heap_setCell _ _ _ _ (by exact h)]
theorem size_setCells (b : Nat) : ∀ (vs : List Value) (o : Nat) (w : World), (w.setCells b o vs).heap.size = w.heap.size
  | [], _, _ => rfl
  | v :: r, o, w => by rw [World.setCells, size_setCells b r]; simp
theorem os_setCells (b : Nat) : ∀ (vs : List Value) (o : Nat) (w : World), (w.setCells b o vs).os = w.os ∧ (w.setCells b o vs).tape = w.tape ∧ (w.setCells b o vs).output = w.output
  | [], _, _ => ⟨rfl, rfl, rfl⟩
  | v :: r, o, w => by rw [World.setCells]; exact os_setCells b r (o + 1) _
theorem below_cells {B : Nat} {a w : World} (h : Below B a w) {g : Nat} (hg : B ≤ g) (o : Nat) (vs : List Value) : Below B a (w.setCells g o vs) :=
  h.trans ⟨(os_setCells g vs o w).1, (os_setCells g vs o w).2.1, (os_setCells g vs o w).2.2, by rw [size_setCells]; exact Nat.le_refl _, fun k hk => heap_setCells g vs o w k (by omega)⟩

theorem below_after {wr w2 : World} {o : Obj} (hb2 : Below (wr.alloc o).heap.size (wr.alloc o) w2) : Below wr.heap.size wr w2 :=
  ((Below.refl _ _).alloc (Nat.le_refl _) _).trans (hb2.mono (by simp))

theorem range_below {B : Nat} {w w' : World} {g o : Nat} {cs : List Value} (h : w.rangeAt g o cs) (hb : Below B w w') (hg : g < B) : w'.rangeAt g o cs := fun j v hv => (hb.cell (by exact hg)).trans (h j v hv)
theorem there_below {B : Nat} {w w' : World} {g o n : Nat} (h : w.there g o n) (hb : Below B w w') (hg : g < B) : w'.there g o n := fun j hj => by
  rw [hb.cell (by exact hg), hb.frozen (by exact hg)]; exact h j hj

theorem Try.size51 : (Try.prog.info? 51).map (·.size) = some 25 := by kernel_rfl
theorem Try.under51 : ∃ fs, Try.prog.underlying 51 = some (.struct fs) := ⟨_, Try.underlying51⟩
theorem wide_one (d : Dp) : d.wide.toArray.all (·.oneCell') = true := by
  refine all_oneCell_toArray fun v hv => ?_
  simp only [Dp.wide, List.mem_cons, List.not_mem_nil, or_false] at hv
  rcases hv with h | h | h | h | h | h | h | h | h | h | h | h | h | h | h | h | h | h | h | h | h | h | h | h | h <;> (subst h; rfl)
theorem wide_len (d : Dp) : d.wide.length = 25 := rfl
theorem wide_size (d : Dp) : (Try.prog.info? 51).map (·.size) = some d.wide.toArray.size := by rw [Try.size51]; simp [wide_len]

set_option maxHeartbeats 400000 in
theorem newDep_any (d : Dp) (w : World) :
    Calls Try.prog 27 #[.string d.describe, .string d.catalog, .string d.kind, .bool d.uniq, .slice d.ra d.rn d.rc, pv d.pred, pv d.cond, pv d.lt, pv d.lc] w fun e w' => e = .returned (.agg d.wide.toArray) ∧ Below w.heap.size w w' := by
  obtain ⟨fs, hfs⟩ := Try.under51
  have H51 : Hid (Try.prog.underlying 51 = some (.struct fs)) := hfs
  clear hfs
  go_enter Try.func27, Try.ntmps27
  go_wp2_with (refine wpList_store_row rfl 51 (.tmp 18) (.tmp 28) rfl w.heap.size d.wide.toArray rfl rfl 51 _ (heap_alloc_new w _) Try.size51 rfl (wide_one d) ?_)
  exact bodyPost_ret (v := .agg d.wide.toArray) (results_cell_row Try.results27 _ _ w.heap.size 51 d.wide.toArray (0, 0) _ rfl (setRow_heap _ _ _ _ 51 (0, 0) (heap_alloc_new w _)) H51.out rfl Try.size51) rfl ⟨rfl, below_row ((Below.refl _ _).alloc (Nat.le_refl _) _) (Nat.le_refl _) _⟩

/-- the dependents as they were built: block g holds them, 25 cells each -/
def Built (w : World) (g : Nat) (l : List Dp) : Prop := g < w.heap.size ∧ ∀ i d, l[i]? = some d → w.rangeAt g (i * 25) d.wide

theorem Built.below {w w' : World} {g : Nat} {l : List Dp} (h : Built w g l) (hb : Below w.heap.size w w') : Built w' g l :=
  ⟨Nat.lt_of_lt_of_le h.1 hb.size, fun i d hd => range_below (h.2 i d hd) hb h.1⟩

/-- one element more -/
theorem built_step {w : World} {g k n : Nat} {l : List Dp} {d : Dp} (hr : ∀ i x, i < k → l[i]? = some x → w.rangeAt g (i * 25) x.wide) (ht : w.there g 0 (n * 25)) (hk : k < n) (hd : l[k]? = some d) :
    (∀ i x, i < k + 1 → l[i]? = some x → (w.setCells g (k * 25) d.wide).rangeAt g (i * 25) x.wide) ∧ (w.setCells g (k * 25) d.wide).there g 0 (n * 25) := by
  refine ⟨fun i x hi hx => ?_, World.there_setCells ht _ _ _⟩
  by_cases e : i = k
  · subst e
    rw [hd] at hx
    cases hx
    refine World.rangeAt_setCells_same _ _ _ _ fun j hj => ?_
    have := ht (i * 25 + j) (by rw [wide_len] at hj; omega)
    simpa using this
  · exact World.rangeAt_setCells_apart (hr i x (by omega) hx) _ _ _ (Or.inr (Or.inl (by rw [wide_len]; omega)))

def BuiltAnswer (l : List Dp) (n : Nat) (w : World) (e : Ending) (w' : World) : Prop :=
  ∃ g, e = .returned (.slice (some ⟨g, 0, none⟩) n n) ∧ Built w' g l ∧ Below w.heap.size w w'

set_option maxHeartbeats 1000000 in
set_option maxRecDepth 100000 in
theorem build_any (ao : Option Addr) (n cap : Nat) (l : List Dp) (w : World) (hl : l.length = n) (hn : n ≤ 65536) (hD : Hid (Deps w ao l)) :
    Calls Try.prog 13 #[.slice ao n cap] w fun e w' => BuiltAnswer l n w e w' := by
  have HL : Hid (l.length = n) := hl
  clear hl
  obtain ⟨i0, hi, hz0, hz1, hz2⟩ := info_parts Try.info51
  go_enter Try.func13, Try.ntmps13
  go_wp2_with (at_make; refine wpList_make_full _ rfl _ _ 36 rfl w.heap.size 51 i0 _ 25 Try.underlying36 hi hz0 hz1 _ _ _ _ n rfl rfl rfl rfl (by rw [hz2]; omega) (by unfold maxLen; omega) (Nat.le_refl _) ?_)
  intro w1 own1 gr1
  have hb1 : Below w.heap.size w w1 := (Below.refl _ _).grown gr1 (Nat.le_refl _) (by simp)
  have ht1 : w1.there w.heap.size 0 (n * 25) := fun j hj => by
    refine ⟨?_, own1.frozenAt _⟩
    rw [own1.cellAt _ (by omega), List.getElem?_eq_getElem (by have := own1.1; omega)]
    rfl
  have hs1 : w.heap.size < w1.heap.size := (own1.lt _ rfl).2
  have HT : Hid (w1.there w.heap.size 0 (n * 25)) := ht1
  clear gr1 own1 hz0 ht1
  go_wp2
  go_loopw [4, 5] (fun i _ wr => ∃ k : Nat, k ≤ n ∧ i = .int .i64 k ∧ Hid (∀ i x, i < k → l[i]? = some x → wr.rangeAt w.heap.size (i * 25) x.wide) ∧ Hid (wr.there w.heap.size 0 (n * 25)) ∧ w.heap.size < wr.heap.size ∧ Below w.heap.size w wr) (fun i _ _ => n - (intOf i).toNat)
  case atStart => exact ⟨0, Nat.zero_le _, rfl, fun i x hi _ => by omega, HT, hs1, hb1⟩
  case round =>
    obtain ⟨k, hk, rfl, hr, ht, hsw, hb⟩ := hrel
    clear HT hs1 hb1
    by_cases hlt : k < n
    · obtain ⟨d, hd⟩ : ∃ d, l[k]? = some d := ⟨_, List.getElem?_eq_getElem (by have := HL.out; omega)⟩
      obtain ⟨b, off, rfl, hlb, hat, hin⟩ := hD.out k d hd
      obtain ⟨c0, c1, c2, c3, c4, c5, c6, c7, c8⟩ := hat
      rw [← hb.cell (by exact hlb)] at c0 c1 c2 c3 c4 c5 c6 c7 c8
      have hkn : (k : Int) < n := by omega
      go_wp2_with fail
      refine (newDep_any d _).mono ?_
      rintro e w2 ⟨rfl, hb2⟩
      have hb02 : Below wr.heap.size wr w2 := below_after hb2
      have hr2 : ∀ i x, i < k → l[i]? = some x → w2.rangeAt w.heap.size (i * 25) x.wide := fun i x h1 h2 => range_below (hr.out i x h1 h2) hb02 hsw
      have ht2 : w2.there w.heap.size 0 (n * 25) := there_below ht.out hb02 hsw
      obtain ⟨r3, t3⟩ := built_step hr2 ht2 hlt hd
      have hth : w2.there w.heap.size (k * 25) d.wide.toArray.size := fun j hj => by
        have := ht2 (k * 25 + j) (by simp [wide_len] at hj; omega)
        simpa using this
      have hb3 : Below w.heap.size w (w2.setCells w.heap.size (k * 25) d.wide) := below_cells ((hb.trans (hb02.mono hb.size))) (Nat.le_refl _) _ _
      have hs3 : w.heap.size < (w2.setCells w.heap.size (k * 25) d.wide).heap.size := by rw [size_setCells]; have := hb02.size; omega
      have H : Hid (_ ∧ _ ∧ _ ∧ _) := ⟨r3, t3, hs3, hb3⟩
      have HTH : Hid (w2.there w.heap.size (k * 25) d.wide.toArray.size) := hth
      clear hr2 ht2 r3 t3 hb3 hs3 hth hb2 hb02 c0 c1 c2 c3 c4 c5 c6 c7 c8 hr ht hd hin
      go_wp2_with (show wpList _ _ _ (⟨_, Op.store 51 (.tmp 40) (.tmp 39), _, _, _, _⟩ :: _) _ _; refine wpList_store_mid rfl 51 (.tmp 40) (.tmp 39) rfl w.heap.size (k * 25) d.wide.toArray rfl rfl (by exact HTH.out) (wide_size d) (wide_one d) ?_)
      go_roundw
      case rel => exact ⟨k + 1, by omega, by go_num, H.out.1, H.out.2.1, H.out.2.2.1, H.out.2.2.2⟩
      case measure => simp [intOf]; omega
    · have hB : Hid (Built wr w.heap.size l) := ⟨hsw, fun i d hd => hr.out i d (by have := (List.getElem?_eq_some_iff.1 hd).1; have := HL.out; omega) hd⟩
      go_wp2
      go_ret
      exact ⟨_, rfl, hB, hb⟩

end Go.Proofs.Qxb6616268a
