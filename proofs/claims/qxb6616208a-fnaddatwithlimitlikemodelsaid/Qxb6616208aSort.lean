/-
  slices.SortFunc over the parts (57), its closure (58).
-/
import Derived.Test.Qxb6616208aPart
import Derived.Shelf.SlSortCmp.Whole1
import Derived.Shelf.Lay
import Derived.Ground.SlsfProg
namespace Go.Proofs.Qxb6616208a
open Go.Shelf Go.RowKit Go.Lib
open Go.Sort hiding Below
set_option linter.unusedVariables false
set_option linter.unusedSimpArgs false

shelf_lay_g SlLaysF.n6 Slsf 6 at Try 57 as Try.sortP

theorem grow_of_below {W w' : World} (h : RowKit.Below W.heap.size W w') (hd : W.drawn ≤ w'.drawn) : ∃ q os', w' = grow (W.drewN q) os' := by
  refine ⟨w'.drawn - W.drawn, w'.heap.extract W.heap.size w'.heap.size, ?_⟩
  have hh : w'.heap = W.heap ++ w'.heap.extract W.heap.size w'.heap.size := by
    apply Array.ext_getElem?
    intro i
    rw [Array.getElem?_append]
    split
    · rename_i hi
      exact h.block i hi
    · rename_i hi
      rw [Array.getElem?_extract]
      split
      · congr 1; omega
      · rename_i h2
        exact Array.getElem?_eq_none (by omega)
  have h1 := h.os
  have h2 := h.tape
  have h3 := h.output
  cases w'; cases W
  simp only [grow, World.drewN] at *
  subst h1 h2 h3
  congr 1
  omega

set_option maxHeartbeats 1000000 in
theorem cmp_any (p1 p2 : Nat) (es1 es2 : List El) (W : World) (h1 : Hid (PEl W p1 es1)) (h2 : Hid (PEl W p2 es2)) (b1 : 0 ≤ pno es1 ∧ pno es1 < 256) (b2 : 0 ≤ pno es2 ∧ pno es2 < 256) :
    Calls Try.prog 58 #[.pointer (some ⟨p1, 0, none⟩), .pointer (some ⟨p2, 0, none⟩)] W fun e w' => e = .returned (.int .i64 (pno es1 - pno es2)) ∧ RowKit.Below W.heap.size W w' ∧ W.drawn ≤ w'.drawn := by
  have H1 : Hid (Calls Try.prog 27 #[.pointer (some ⟨p1, 0, none⟩)] W fun e w' => e = .returned (.int .i64 (pno es1)) ∧ RowKit.Below W.heap.size W w' ∧ W.drawn ≤ w'.drawn) := partOf_any2 p1 es1 W h1
  have H2 : Hid (∀ W', RowKit.Below W.heap.size W W' → Calls Try.prog 27 #[.pointer (some ⟨p2, 0, none⟩)] W' fun e w' => e = .returned (.int .i64 (pno es2)) ∧ RowKit.Below W'.heap.size W' w' ∧ W'.drawn ≤ w'.drawn) := fun W' hb => partOf_any2 p2 es2 W' (h2.out.below hb)
  clear h1 h2
  generalize pno es1 = a at *
  generalize pno es2 = b at *
  go_enter Try.func58, Try.ntmps58
  go_wp2_with fail
  refine H1.out.mono ?_
  rintro e w1 ⟨rfl, hb1, hd1⟩
  go_wp2_with fail
  refine (H2.out w1 hb1).mono ?_
  rintro e w2 ⟨rfl, hb2, hd2⟩
  have HF : Hid (RowKit.Below W.heap.size W w2 ∧ W.drawn ≤ w2.drawn) := ⟨hb1.trans (hb2.mono hb1.size), Nat.le_trans hd1 hd2⟩
  clear hb1 hb2 hd1 hd2 H1 H2
  go_wp2
  go_ret
  exact ⟨rfl, HF.out.1, HF.out.2⟩

/-- a part that stands below B -/
def Good (B : Nat) (w : World) (x : Nat × List El) : Prop := (∀ W, RowKit.Below B w W → PEl W x.1 x.2) ∧ 0 ≤ pno x.2 ∧ pno x.2 < 256

section
variable {B : Nat} {w : World}
def encP (x : { x : Nat × List El // Good B w x }) : Value := .pointer (some ⟨x.1.1, 0, none⟩)
def cfP (x y : { x : Nat × List El // Good B w x }) : Int := pno x.1.2 - pno y.1.2

theorem ltP (x y : { x : Nat × List El // Good B w x }) : ltOf cfP x y = decide (pno x.1.2 < pno y.1.2) := by
  unfold ltOf cfP
  congr 1
  apply propext
  omega

theorem swoP : SWO (ltOf (cfP (B := B) (w := w))) where
  irrefl x := by rw [ltP]; simp
  trans x y z h1 h2 := by rw [ltP] at *; simp at *; omega
  ntrans x y z h1 h2 := by rw [ltP] at *; simp at *; omega
end

theorem heap_map_other {w : World} {b k : Nat} {f : Array Value → Array Value} (h : k ≠ b) : (mapBlock w b f).heap[k]? = w.heap[k]? := by
  simp only [mapBlock, Array.getElem?_modify]
  rw [if_neg (by omega)]

theorem sort_heap {α : Type} [Inhabited α] (enc : α → Value) (w : World) (q n : Nat) (d : Array α) (os : Array Obj) {k : Nat} (hk : k < w.heap.size) (hne : k ≠ q) : (sortWorld enc w q 0 n d os).heap[k]? = w.heap[k]? := by
  unfold sortWorld
  rw [heap_grow_old _ _ (by simpa using hk)]
  exact heap_map_other hne

theorem below_sort {α : Type} [Inhabited α] {B : Nat} (enc : α → Value) (w : World) (q n : Nat) (d : Array α) (os : Array Obj) (hB : B ≤ q) (hq : q < w.heap.size) : RowKit.Below B w (sortWorld enc w q 0 n d os) :=
  ⟨rfl, rfl, rfl, by unfold sortWorld; simp, fun k hk => sort_heap enc w q n d os (by omega) (by omega)⟩

/-- THE SORT: the row holds the same parts, by number -/
theorem sort_any (B q cap n : Nat) (L : List (Nat × List El)) (w : World) (cur : Array Value) (hB : B ≤ q) (hblk : w.heap[q]? = some (.cells cur 32 (0, 0))) (hn : L.length = n) (hlen : n < 4611686018427387904) (hne : L ≠ [])
    (hc : ∀ (i : Nat) (x : Nat × List El), L[i]? = some x → cur[i]? = some (Value.pointer (some ⟨x.1, 0, none⟩))) (hP : ∀ x ∈ L, Good B w x) :
    Calls Try.prog 57 #[.slice (some ⟨q, 0, none⟩) n cap, .func (.func 58) #[] #[]] w fun e w' => e = .returned (.tuple #[]) ∧ ∃ (L' : List (Nat × List El)) (cur' : Array Value),
      L'.Perm L ∧ (∀ (i j : Nat) (x y : Nat × List El), i < j → L'[i]? = some x → L'[j]? = some y → pno x.2 ≤ pno y.2) ∧ w'.heap[q]? = some (.cells cur' 32 (0, 0)) ∧ (∀ (i : Nat) (x : Nat × List El), L'[i]? = some x → cur'[i]? = some (Value.pointer (some ⟨x.1, 0, none⟩))) ∧
      w.grownBy w' (some q) := by
  have hql : q < w.heap.size := (Array.getElem?_eq_some_iff.1 hblk).1
  obtain ⟨x0, hx0⟩ := List.exists_mem_of_ne_nil L hne
  haveI : Inhabited { x : Nat × List El // Good B w x } := ⟨⟨x0, hP x0 hx0⟩⟩
  obtain ⟨d, hd⟩ : ∃ d : Array { x : Nat × List El // Good B w x }, d.toList.map (·.1) = L := ⟨(L.attach.map fun x => ⟨x.1, hP x.1 x.2⟩).toArray, by simpa [List.map_map, Function.comp_def] using List.attach_map_subtype_val L⟩
  have hds : d.size = n := by
    have := congrArg List.length hd
    simp at this
    omega
  have hdi : ∀ i (hi : i < d.size), L[i]? = some d[i].1 := fun i hi => by
    rw [← hd, List.getElem?_map]
    simp [hi]
  have hH : Holds encP w q 0 d := fun j hj => by
    refine ⟨?_, by simp [World.frozen?, hblk]⟩
    rw [Nat.zero_add, cell_of_row _ _ _ _ _ _ hblk, hc j _ (hdi j hj)]
    rw [getElem!_pos d j hj]
    rfl
  have eg : ∀ args w, (callFunc 58 args).run Try.prog w = .ok (.enter 58 args) w := enters_of Try.func58 (by kernel_rfl) rfl
  have hcmp : CmpLays1 Try.prog 58 #[] (encP (B := B) (w := w)) cfP q 0 d.size w := fun m os dk hs x y => by
    have hbs := below_sort encP w q m dk os hB hql
    show Calls Try.prog 58 #[.pointer (some ⟨x.1.1, 0, none⟩), .pointer (some ⟨y.1.1, 0, none⟩)] (sortWorld encP w q 0 m dk os) _
    refine (cmp_any x.1.1 y.1.1 x.1.2 y.1.2 _ (x.2.1 _ hbs) (y.2.1 _ hbs) x.2.2 y.2.2).mono ?_
    rintro e w' ⟨rfl, h1, h2⟩
    exact ⟨rfl, grow_of_below h1 h2⟩
  have hcon := Any.slices_SortFunc Try.sortP (encP (B := B) (w := w)) (fun _ => rfl) cfP swoP 58 #[] q 0 cap d w eg hcmp hH hql (by omega)
  change Calls Try.prog 57 _ _ _ at hcon
  rw [hds] at hcon
  refine hcon.mono ?_
  rintro e w' ⟨rfl, d', m, os, hp, hs, rfl⟩
  have hds' : d'.size = n := hp.1.trans hds
  have hperm : (d'.toList).Perm d.toList := by
    have := hp.2.2
    have e1 : (d'.extract 0 n) = d' := by rw [← hds']; exact Array.extract_size
    have e2 : (d.extract 0 n) = d := by rw [← hds]; exact Array.extract_size
    rwa [e1, e2] at this
  have hget : ∀ i x, (d'.toList.map (·.1))[i]? = some x → ∃ hi : i < d'.size, x = d'[i].1 := fun i x h => by
    rw [List.getElem?_map] at h
    rcases Nat.lt_or_ge i d'.size with hi | hi
    · simp [hi] at h
      exact ⟨hi, h.symm⟩
    · simp [hi] at h
  refine ⟨rfl, d'.toList.map (·.1), putCells encP 0 d' cur, ?_, ?_, ?_, ?_, ?_⟩
  · rw [← hd]
    exact hperm.map _
  · intro i j x y hij hx hy
    obtain ⟨hi, rfl⟩ := hget i x hx
    obtain ⟨hj, rfl⟩ := hget j y hy
    have := hs i j (Nat.zero_le _) hij (by omega)
    rw [getElem!_pos d' j hj, getElem!_pos d' i hi, ltP] at this
    simp at this
    omega
  · unfold sortWorld
    rw [heap_grow_old _ _ (by simpa using hql)]
    simp only [putRow, mapBlock, Array.getElem?_modify, if_true]
    show ((Go.Sort.ahead w m).heap[q]?).map _ = _
    rw [heap_ahead, hblk]
    rfl
  · intro i x hx
    obtain ⟨hi, rfl⟩ := hget i x hx
    have hci : i < cur.size := by
      have := hc i _ (hdi i (by omega))
      exact (Array.getElem?_eq_some_iff.1 this).1
    simp only [putCells, Array.getElem?_mapIdx]
    rw [Array.getElem?_eq_getElem hci]
    simp only [Option.map_some]
    rw [if_pos ⟨Nat.zero_le _, by omega⟩, Nat.sub_zero, getElem!_pos d' i hi]
    rfl
  · exact ⟨rfl, rfl, rfl, by unfold sortWorld; simp, fun k hk hne => sort_heap encP w q m d' os hk (fun e => hne (by rw [e]))⟩

end Go.Proofs.Qxb6616208a
