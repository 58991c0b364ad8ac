/-
  slices.SortFunc over the parts (57), its closure (58).
-/
import Derived.Test.Qxb6616208aPart
import Derived.Shelf.SlSortCmp.Whole1
namespace Go.Proofs.Qxb6616208a
open Go.Shelf Go.RowKit Go.Lib
open Go.Sort
set_option linter.unusedVariables false
set_option linter.unusedSimpArgs false

def Try.sortP_ren : Go.Shelf.Ren := ⟨fun | 6 => 57 | 15 => 56 | 14 => 69 | 28 => 67 | 29 => 68 | 20 => 75 | 21 => 76 | 22 => 77 | 23 => 78 | 24 => 79 | 25 => 80 | 26 => 81 | 27 => 82 | 46 => 84 | 47 => 71 | 48 => 72 | 49 => 85 | 50 => 86 | 57 => 87 | n => n, fun | 22 => 55 | 24 => 32 | 25 => 119 | 3 => 3 | 39 => 116 | 0 => 0 | 53 => 129 | 55 => 36 | 4 => 4 | 46 => 122 | 45 => 121 | 50 => 126 | 5 => 5 | 9 => 9 | 66 => 132 | 70 => 136 | 76 => 143 | 77 => 144 | n => n, fun | n => n⟩
theorem Try.sortP : Go.Proofs.SlLaysF.n6 Try.prog Try.sortP_ren := {
  mixed := by kernel_rfl
  f6 := ⟨Try.f57.name, by decide, Try.func57.trans (congrArg some (by kernel_rfl))⟩
  f14 := ⟨Try.f69.name, by decide, Try.func69.trans (congrArg some (by kernel_rfl))⟩
  f15 := Try.func56.trans (congrArg some (by kernel_rfl))
  f20 := ⟨Try.f75.name, by decide, Try.func75.trans (congrArg some (by kernel_rfl))⟩
  f21 := ⟨Try.f76.name, by decide, Try.func76.trans (congrArg some (by kernel_rfl))⟩
  f22 := ⟨Try.f77.name, by decide, Try.func77.trans (congrArg some (by kernel_rfl))⟩
  f23 := ⟨Try.f78.name, by decide, Try.func78.trans (congrArg some (by kernel_rfl))⟩
  f24 := ⟨Try.f79.name, by decide, Try.func79.trans (congrArg some (by kernel_rfl))⟩
  f25 := ⟨Try.f80.name, by decide, Try.func80.trans (congrArg some (by kernel_rfl))⟩
  f26 := ⟨Try.f81.name, by decide, Try.func81.trans (congrArg some (by kernel_rfl))⟩
  f27 := ⟨Try.f82.name, by decide, Try.func82.trans (congrArg some (by kernel_rfl))⟩
  f28 := Try.func67.trans (congrArg some (by kernel_rfl))
  f29 := Try.func68.trans (congrArg some (by kernel_rfl))
  f46 := ⟨Try.f84.name, by decide, Try.func84.trans (congrArg some (by kernel_rfl))⟩
  f47 := Try.func71.trans (congrArg some (by kernel_rfl))
  f48 := Try.func72.trans (congrArg some (by kernel_rfl))
  f49 := ⟨Try.f85.name, by decide, Try.func85.trans (congrArg some (by kernel_rfl))⟩
  f50 := ⟨Try.f86.name, by decide, Try.func86.trans (congrArg some (by kernel_rfl))⟩
  f57 := ⟨Try.f87.name, by decide, Try.func87.trans (congrArg some (by kernel_rfl))⟩
  t0 := Try.underlying0
  a0 := Try.isAgg0
  z0 := Try.sizeOf0
  v0 := Try.zeroValue0
  t3 := Try.underlying3
  a3 := Try.isAgg3
  z3 := Try.sizeOf3
  v3 := Try.zeroValue3
  t4 := Try.underlying4
  a4 := Try.isAgg4
  z4 := Try.sizeOf4
  v4 := Try.zeroValue4
  t5 := Try.underlying5
  a5 := Try.isAgg5
  z5 := Try.sizeOf5
  v5 := Try.zeroValue5
  t9 := Try.underlying9
  a9 := Try.isAgg9
  z9 := Try.sizeOf9
  v9 := Try.zeroValue9
  t22 := Try.underlying55
  a22 := Try.isAgg55
  z22 := Try.sizeOf55
  v22 := Try.zeroValue55
  a24 := Try.isAgg32
  z24 := Try.sizeOf32
  t25 := Try.underlying119
  a25 := Try.isAgg119
  z25 := Try.sizeOf119
  v25 := Try.zeroValue119
  t39 := Try.underlying116
  a39 := Try.isAgg116
  z39 := Try.sizeOf116
  v39 := Try.zeroValue116
  t45 := Try.underlying121
  a45 := Try.isAgg121
  z45 := Try.sizeOf121
  v45 := Try.zeroValue121
  t46 := Try.underlying122
  a46 := Try.isAgg122
  z46 := Try.sizeOf122
  v46 := Try.zeroValue122
  t50 := Try.underlying126
  a50 := Try.isAgg126
  z50 := Try.sizeOf126
  v50 := Try.zeroValue126
  t53 := Try.underlying129
  a53 := Try.isAgg129
  z53 := Try.sizeOf129
  v53 := Try.zeroValue129
  t55 := Try.underlying36
  a55 := Try.isAgg36
  z55 := Try.sizeOf36
  v55 := Try.zeroValue36
  t66 := Try.underlying132
  a66 := Try.isAgg132
  z66 := Try.sizeOf132
  v66 := Try.zeroValue132
  t70 := Try.underlying136
  a70 := Try.isAgg136
  z70 := Try.sizeOf136
  v70 := Try.zeroValue136
  t76 := Try.underlying143
  a76 := Try.isAgg143
  z76 := Try.sizeOf143
  v76 := Try.zeroValue143
  t77 := Try.underlying144
  a77 := Try.isAgg144
  z77 := Try.sizeOf144
  v77 := Try.zeroValue144 }

theorem grow_of_below {W w' : World} (h : RowKit.Below W.heap.size W w') (hd : W.drawn ≤ w'.drawn) : ∃ q os', w' = grow (W.drewN q) os' := by
  refine ⟨w'.drawn - W.drawn, w'.heap.extract W.heap.size w'.heap.size, ?_⟩
  have hh : w'.heap = W.heap ++ w'.heap.extract W.heap.size w'.heap.size := by
    apply Array.ext_getElem?
    intro i
    rw [Array.getElem?_append]
    split
    · rename_i hi
      exact h.block i hi
    · rename_i hi
      rw [Array.getElem?_extract]
      split
      · congr 1; omega
      · rename_i h2
        exact Array.getElem?_eq_none (by omega)
  have h1 := h.os
  have h2 := h.tape
  have h3 := h.output
  cases w'; cases W
  simp only [grow, World.drewN] at *
  subst h1 h2 h3
  congr 1
  omega

set_option maxHeartbeats 1000000 in
theorem cmp_any (p1 p2 : Nat) (es1 es2 : List El) (W : World) (h1 : Hid (PEl W p1 es1)) (h2 : Hid (PEl W p2 es2)) (b1 : 0 ≤ pno es1 ∧ pno es1 < 256) (b2 : 0 ≤ pno es2 ∧ pno es2 < 256) :
    Calls Try.prog 58 #[.pointer (some ⟨p1, 0, none⟩), .pointer (some ⟨p2, 0, none⟩)] W fun e w' => e = .returned (.int .i64 (pno es1 - pno es2)) ∧ RowKit.Below W.heap.size W w' ∧ W.drawn ≤ w'.drawn := by
  have H1 : Hid (Calls Try.prog 27 #[.pointer (some ⟨p1, 0, none⟩)] W fun e w' => e = .returned (.int .i64 (pno es1)) ∧ RowKit.Below W.heap.size W w' ∧ W.drawn ≤ w'.drawn) := partOf_any2 p1 es1 W h1
  have H2 : Hid (∀ W', RowKit.Below W.heap.size W W' → Calls Try.prog 27 #[.pointer (some ⟨p2, 0, none⟩)] W' fun e w' => e = .returned (.int .i64 (pno es2)) ∧ RowKit.Below W'.heap.size W' w' ∧ W'.drawn ≤ w'.drawn) := fun W' hb => partOf_any2 p2 es2 W' (h2.out.below hb)
  clear h1 h2
  generalize pno es1 = a at *
  generalize pno es2 = b at *
  go_enter Try.func58, Try.ntmps58
  go_wp2_with fail
  refine H1.out.mono ?_
  rintro e w1 ⟨rfl, hb1, hd1⟩
  go_wp2_with fail
  refine (H2.out w1 hb1).mono ?_
  rintro e w2 ⟨rfl, hb2, hd2⟩
  have HF : Hid (RowKit.Below W.heap.size W w2 ∧ W.drawn ≤ w2.drawn) := ⟨hb1.trans (hb2.mono hb1.size), Nat.le_trans hd1 hd2⟩
  clear hb1 hb2 hd1 hd2 H1 H2
  go_wp2
  go_ret
  exact ⟨rfl, HF.out.1, HF.out.2⟩

/-- a part that stands below B -/
def Good (B : Nat) (w : World) (x : Nat × List El) : Prop := (∀ W, RowKit.Below B w W → PEl W x.1 x.2) ∧ 0 ≤ pno x.2 ∧ pno x.2 < 256

section
variable {B : Nat} {w : World}
def encP (x : { x : Nat × List El // Good B w x }) : Value := .pointer (some ⟨x.1.1, 0, none⟩)
def cfP (x y : { x : Nat × List El // Good B w x }) : Int := pno x.1.2 - pno y.1.2

theorem ltP (x y : { x : Nat × List El // Good B w x }) : ltOf cfP x y = decide (pno x.1.2 < pno y.1.2) := by
  unfold ltOf cfP
  congr 1
  apply propext
  omega

theorem swoP : SWO (ltOf (cfP (B := B) (w := w))) := {
  irrefl := fun x => by rw [ltP]; simp
  trans := fun x y z h1 h2 => by rw [ltP] at *; simp at *; omega
  ntrans := fun x y z h1 h2 => by rw [ltP] at *; simp at *; omega }
end

theorem heap_map_other {w : World} {b k : Nat} {f : Array Value → Array Value} (h : k ≠ b) : (mapBlock w b f).heap[k]? = w.heap[k]? := by
  simp only [mapBlock, Array.getElem?_modify]
  rw [if_neg (by omega)]

theorem sort_heap {α : Type} [Inhabited α] (enc : α → Value) (w : World) (q n : Nat) (d : Array α) (os : Array Obj) {k : Nat} (hk : k < w.heap.size) (hne : k ≠ q) : (sortWorld enc w q 0 n d os).heap[k]? = w.heap[k]? := by
  unfold sortWorld
  rw [heap_grow_old _ _ (by simpa using hk)]
  exact heap_map_other hne

theorem below_sort {α : Type} [Inhabited α] {B : Nat} (enc : α → Value) (w : World) (q n : Nat) (d : Array α) (os : Array Obj) (hB : B ≤ q) (hq : q < w.heap.size) : RowKit.Below B w (sortWorld enc w q 0 n d os) :=
  ⟨rfl, rfl, rfl, by unfold sortWorld; simp, fun k hk => sort_heap enc w q n d os (by omega) (by omega)⟩

/-- THE SORT: the row holds the same parts, by number -/
theorem sort_any (B q cap n : Nat) (L : List (Nat × List El)) (w : World) (cur : Array Value) (hB : B ≤ q) (hblk : w.heap[q]? = some (.cells cur 32 (0, 0))) (hn : L.length = n) (hlen : n < 4611686018427387904) (hne : L ≠ [])
    (hc : ∀ (i : Nat) (x : Nat × List El), L[i]? = some x → cur[i]? = some (Value.pointer (some ⟨x.1, 0, none⟩))) (hP : ∀ x ∈ L, Good B w x) :
    Calls Try.prog 57 #[.slice (some ⟨q, 0, none⟩) n cap, .func (.func 58) #[] #[]] w fun e w' => e = .returned (.tuple #[]) ∧ ∃ (L' : List (Nat × List El)) (cur' : Array Value),
      L'.Perm L ∧ (∀ (i j : Nat) (x y : Nat × List El), i < j → L'[i]? = some x → L'[j]? = some y → pno x.2 ≤ pno y.2) ∧ w'.heap[q]? = some (.cells cur' 32 (0, 0)) ∧ (∀ (i : Nat) (x : Nat × List El), L'[i]? = some x → cur'[i]? = some (Value.pointer (some ⟨x.1, 0, none⟩))) ∧
      w.grownBy w' (some q) := by
  have hql : q < w.heap.size := (Array.getElem?_eq_some_iff.1 hblk).1
  obtain ⟨x0, hx0⟩ := List.exists_mem_of_ne_nil L hne
  haveI : Inhabited { x : Nat × List El // Good B w x } := ⟨⟨x0, hP x0 hx0⟩⟩
  obtain ⟨d, hd⟩ : ∃ d : Array { x : Nat × List El // Good B w x }, d.toList.map (·.1) = L := ⟨(L.attach.map fun x => ⟨x.1, hP x.1 x.2⟩).toArray, by simpa [List.map_map, Function.comp_def] using List.attach_map_subtype_val L⟩
  have hds : d.size = n := by
    have := congrArg List.length hd
    simp at this
    omega
  have hdi : ∀ i (hi : i < d.size), L[i]? = some d[i].1 := fun i hi => by
    rw [← hd, List.getElem?_map]
    simp [hi]
  have hH : Holds encP w q 0 d := fun j hj => by
    refine ⟨?_, by simp [World.frozen?, hblk]⟩
    rw [Nat.zero_add, cell_of_row _ _ _ _ _ _ hblk, hc j _ (hdi j hj)]
    rw [getElem!_pos d j hj]
    rfl
  have eg : ∀ args w, (callFunc 58 args).run Try.prog w = .ok (.enter 58 args) w := enters_of Try.func58 (by kernel_rfl) rfl
  have hcmp : CmpLays1 Try.prog 58 #[] (encP (B := B) (w := w)) cfP q 0 d.size w := fun m os dk hs x y => by
    have hbs := below_sort encP w q m dk os hB hql
    show Calls Try.prog 58 #[.pointer (some ⟨x.1.1, 0, none⟩), .pointer (some ⟨y.1.1, 0, none⟩)] (sortWorld encP w q 0 m dk os) _
    refine (cmp_any x.1.1 y.1.1 x.1.2 y.1.2 _ (x.2.1 _ hbs) (y.2.1 _ hbs) x.2.2 y.2.2).mono ?_
    rintro e w' ⟨rfl, h1, h2⟩
    exact ⟨rfl, grow_of_below h1 h2⟩
  have hcon := Any.slices_SortFunc Try.sortP (encP (B := B) (w := w)) (fun _ => rfl) cfP swoP 58 #[] q 0 cap d w eg hcmp hH hql (by omega)
  change Calls Try.prog 57 _ _ _ at hcon
  rw [hds] at hcon
  refine hcon.mono ?_
  rintro e w' ⟨rfl, d', m, os, hp, hs, rfl⟩
  have hds' : d'.size = n := hp.1.trans hds
  have hperm : (d'.toList).Perm d.toList := by
    have := hp.2.2
    have e1 : (d'.extract 0 n) = d' := by rw [← hds']; exact Array.extract_size
    have e2 : (d.extract 0 n) = d := by rw [← hds]; exact Array.extract_size
    rwa [e1, e2] at this
  have hget : ∀ i x, (d'.toList.map (·.1))[i]? = some x → ∃ hi : i < d'.size, x = d'[i].1 := fun i x h => by
    rw [List.getElem?_map] at h
    rcases Nat.lt_or_ge i d'.size with hi | hi
    · simp [hi] at h
      exact ⟨hi, h.symm⟩
    · simp [hi] at h
  refine ⟨rfl, d'.toList.map (·.1), putCells encP 0 d' cur, ?_, ?_, ?_, ?_, ?_⟩
  · rw [← hd]
    exact hperm.map _
  · intro i j x y hij hx hy
    obtain ⟨hi, rfl⟩ := hget i x hx
    obtain ⟨hj, rfl⟩ := hget j y hy
    have := hs i j (Nat.zero_le _) hij (by omega)
    rw [getElem!_pos d' j hj, getElem!_pos d' i hi, ltP] at this
    simp at this
    omega
  · unfold sortWorld
    rw [heap_grow_old _ _ (by simpa using hql)]
    simp only [putRow, mapBlock, Array.getElem?_modify, if_true]
    show ((Go.Sort.ahead w m).heap[q]?).map _ = _
    rw [heap_ahead, hblk]
    rfl
  · intro i x hx
    obtain ⟨hi, rfl⟩ := hget i x hx
    have hci : i < cur.size := by
      have := hc i _ (hdi i (by omega))
      exact (Array.getElem?_eq_some_iff.1 this).1
    simp only [putCells, Array.getElem?_mapIdx]
    rw [Array.getElem?_eq_getElem hci]
    simp only [Option.map_some]
    rw [if_pos ⟨Nat.zero_le _, by omega⟩, Nat.sub_zero, getElem!_pos d' i hi]
    rfl
  · exact ⟨rfl, rfl, rfl, by unfold sortWorld; simp, fun k hk hne => sort_heap encP w q m d' os hk (fun e => hne (by rw [e]))⟩

end Go.Proofs.Qxb6616208a
