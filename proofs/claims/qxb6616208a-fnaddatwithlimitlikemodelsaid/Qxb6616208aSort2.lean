/-
  slices.SortFunc over the messages (48), its closure (49): by seq. At no message: nothing turns.
-/
import Derived.Test.Qxb6616208aSort
import Derived.Test.Qxb6616208aLink
import Derived.BigQuiet
namespace Go.Proofs.Qxb6616208a
open Go.Shelf Go.RowKit Go.Lib
open Go.Sort
set_option linter.unusedVariables false
set_option linter.unusedSimpArgs false

def Try.sortM_ren : Go.Shelf.Ren := ⟨fun | 6 => 48 | 15 => 56 | 14 => 55 | 28 => 67 | 29 => 68 | 20 => 59 | 21 => 60 | 22 => 61 | 23 => 62 | 24 => 63 | 25 => 64 | 26 => 65 | 27 => 66 | 46 => 70 | 47 => 71 | 48 => 72 | 49 => 73 | 50 => 74 | 57 => 83 | n => n, fun | 22 => 67 | 24 => 58 | 25 => 109 | 3 => 3 | 39 => 116 | 0 => 0 | 53 => 129 | 55 => 36 | 4 => 4 | 46 => 122 | 45 => 121 | 50 => 126 | 5 => 5 | 9 => 9 | 66 => 132 | 70 => 136 | 76 => 143 | 77 => 144 | n => n, fun | n => n⟩
theorem Try.sortM : Go.Proofs.SlLaysF.n6 Try.prog Try.sortM_ren := {
  mixed := by kernel_rfl
  f6 := ⟨Try.f48.name, by decide, Try.func48.trans (congrArg some (by kernel_rfl))⟩
  f14 := ⟨Try.f55.name, by decide, Try.func55.trans (congrArg some (by kernel_rfl))⟩
  f15 := Try.func56.trans (congrArg some (by kernel_rfl))
  f20 := ⟨Try.f59.name, by decide, Try.func59.trans (congrArg some (by kernel_rfl))⟩
  f21 := ⟨Try.f60.name, by decide, Try.func60.trans (congrArg some (by kernel_rfl))⟩
  f22 := ⟨Try.f61.name, by decide, Try.func61.trans (congrArg some (by kernel_rfl))⟩
  f23 := ⟨Try.f62.name, by decide, Try.func62.trans (congrArg some (by kernel_rfl))⟩
  f24 := ⟨Try.f63.name, by decide, Try.func63.trans (congrArg some (by kernel_rfl))⟩
  f25 := ⟨Try.f64.name, by decide, Try.func64.trans (congrArg some (by kernel_rfl))⟩
  f26 := ⟨Try.f65.name, by decide, Try.func65.trans (congrArg some (by kernel_rfl))⟩
  f27 := ⟨Try.f66.name, by decide, Try.func66.trans (congrArg some (by kernel_rfl))⟩
  f28 := Try.func67.trans (congrArg some (by kernel_rfl))
  f29 := Try.func68.trans (congrArg some (by kernel_rfl))
  f46 := ⟨Try.f70.name, by decide, Try.func70.trans (congrArg some (by kernel_rfl))⟩
  f47 := Try.func71.trans (congrArg some (by kernel_rfl))
  f48 := Try.func72.trans (congrArg some (by kernel_rfl))
  f49 := ⟨Try.f73.name, by decide, Try.func73.trans (congrArg some (by kernel_rfl))⟩
  f50 := ⟨Try.f74.name, by decide, Try.func74.trans (congrArg some (by kernel_rfl))⟩
  f57 := ⟨Try.f83.name, by decide, Try.func83.trans (congrArg some (by kernel_rfl))⟩
  t0 := Try.underlying0
  a0 := Try.isAgg0
  z0 := Try.sizeOf0
  v0 := Try.zeroValue0
  t3 := Try.underlying3
  a3 := Try.isAgg3
  z3 := Try.sizeOf3
  v3 := Try.zeroValue3
  t4 := Try.underlying4
  a4 := Try.isAgg4
  z4 := Try.sizeOf4
  v4 := Try.zeroValue4
  t5 := Try.underlying5
  a5 := Try.isAgg5
  z5 := Try.sizeOf5
  v5 := Try.zeroValue5
  t9 := Try.underlying9
  a9 := Try.isAgg9
  z9 := Try.sizeOf9
  v9 := Try.zeroValue9
  t22 := Try.underlying67
  a22 := Try.isAgg67
  z22 := Try.sizeOf67
  v22 := Try.zeroValue67
  a24 := Try.isAgg58
  z24 := Try.sizeOf58
  t25 := Try.underlying109
  a25 := Try.isAgg109
  z25 := Try.sizeOf109
  v25 := Try.zeroValue109
  t39 := Try.underlying116
  a39 := Try.isAgg116
  z39 := Try.sizeOf116
  v39 := Try.zeroValue116
  t45 := Try.underlying121
  a45 := Try.isAgg121
  z45 := Try.sizeOf121
  v45 := Try.zeroValue121
  t46 := Try.underlying122
  a46 := Try.isAgg122
  z46 := Try.sizeOf122
  v46 := Try.zeroValue122
  t50 := Try.underlying126
  a50 := Try.isAgg126
  z50 := Try.sizeOf126
  v50 := Try.zeroValue126
  t53 := Try.underlying129
  a53 := Try.isAgg129
  z53 := Try.sizeOf129
  v53 := Try.zeroValue129
  t55 := Try.underlying36
  a55 := Try.isAgg36
  z55 := Try.sizeOf36
  v55 := Try.zeroValue36
  t66 := Try.underlying132
  a66 := Try.isAgg132
  z66 := Try.sizeOf132
  v66 := Try.zeroValue132
  t70 := Try.underlying136
  a70 := Try.isAgg136
  z70 := Try.sizeOf136
  v70 := Try.zeroValue136
  t76 := Try.underlying143
  a76 := Try.isAgg143
  z76 := Try.sizeOf143
  v76 := Try.zeroValue143
  t77 := Try.underlying144
  a77 := Try.isAgg144
  z77 := Try.sizeOf144
  v77 := Try.zeroValue144 }

set_option maxHeartbeats 1000000 in
theorem cmpM_any (p1 p2 : Nat) (a b : Int) (W : World) (h1 : W.cell? ⟨p1, 2, none⟩ = some (.int .i64 a)) (h2 : W.cell? ⟨p2, 2, none⟩ = some (.int .i64 b)) (b1 : 0 ≤ a ∧ a < 65536) (b2 : 0 ≤ b ∧ b < 65536) :
    Calls Try.prog 49 #[.pointer (some ⟨p1, 0, none⟩), .pointer (some ⟨p2, 0, none⟩)] W fun e w' => e = .returned (.int .i64 (a - b)) ∧ w' = W.drew := by
  go_enter Try.func49, Try.ntmps49
  go_wp2
  go_region
  go_wp2
  go_ret
  exact ⟨rfl, rfl⟩

/-- a message to be sorted: its block, its number -/
def GoodM (w : World) (q : Nat) (x : Nat × Int) : Prop := x.1 ≠ q ∧ x.1 < w.heap.size ∧ w.cell? ⟨x.1, 2, none⟩ = some (.int .i64 x.2) ∧ 0 ≤ x.2 ∧ x.2 < 65536

section
variable {w : World} {q : Nat}
def encM (x : { x : Nat × Int // GoodM w q x }) : Value := .pointer (some ⟨x.1.1, 0, none⟩)
def cfM (x y : { x : Nat × Int // GoodM w q x }) : Int := x.1.2 - y.1.2

theorem ltM (x y : { x : Nat × Int // GoodM w q x }) : ltOf cfM x y = decide (x.1.2 < y.1.2) := by
  unfold ltOf cfM
  congr 1
  apply propext
  omega

theorem swoM : SWO (ltOf (cfM (w := w) (q := q))) := {
  irrefl := fun x => by rw [ltM]; simp
  trans := fun x y z h1 h2 => by rw [ltM] at *; simp at *; omega
  ntrans := fun x y z h1 h2 => by rw [ltM] at *; simp at *; omega }
end

theorem cell_of_blk {w w' : World} {b o : Nat} (h : w'.heap[b]? = w.heap[b]?) : w'.cell? ⟨b, o, none⟩ = w.cell? ⟨b, o, none⟩ := World.cell?_of_block (w := w) h

/-- THE SORT: the row holds the same messages, by seq -/
theorem sortM_any (q cap n : Nat) (L : List (Nat × Int)) (w : World) (cur : Array Value) (hblk : w.heap[q]? = some (.cells cur 58 (0, 0))) (hn : L.length = n) (hlen : n < 4611686018427387904) (hne : L ≠ [])
    (hc : ∀ (i : Nat) (x : Nat × Int), L[i]? = some x → cur[i]? = some (Value.pointer (some ⟨x.1, 0, none⟩))) (hP : ∀ x ∈ L, GoodM w q x) :
    Calls Try.prog 48 #[.slice (some ⟨q, 0, none⟩) n cap, .func (.func 49) #[] #[]] w fun e w' => e = .returned (.tuple #[]) ∧ ∃ (L' : List (Nat × Int)) (cur' : Array Value),
      L'.Perm L ∧ (∀ (i j : Nat) (x y : Nat × Int), i < j → L'[i]? = some x → L'[j]? = some y → x.2 ≤ y.2) ∧ w'.heap[q]? = some (.cells cur' 58 (0, 0)) ∧ (∀ (i : Nat) (x : Nat × Int), L'[i]? = some x → cur'[i]? = some (Value.pointer (some ⟨x.1, 0, none⟩))) ∧
      w.grownBy w' (some q) := by
  have hql : q < w.heap.size := (Array.getElem?_eq_some_iff.1 hblk).1
  obtain ⟨x0, hx0⟩ := List.exists_mem_of_ne_nil L hne
  haveI : Inhabited { x : Nat × Int // GoodM w q x } := ⟨⟨x0, hP x0 hx0⟩⟩
  obtain ⟨d, hd⟩ : ∃ d : Array { x : Nat × Int // GoodM w q x }, d.toList.map (·.1) = L := ⟨(L.attach.map fun x => ⟨x.1, hP x.1 x.2⟩).toArray, by simpa [List.map_map, Function.comp_def] using List.attach_map_subtype_val L⟩
  have hds : d.size = n := by
    have := congrArg List.length hd
    simp at this
    omega
  have hdi : ∀ i (hi : i < d.size), L[i]? = some d[i].1 := fun i hi => by
    rw [← hd, List.getElem?_map]
    simp [hi]
  have hH : Holds encM w q 0 d := fun j hj => by
    refine ⟨?_, by simp [World.frozen?, hblk]⟩
    rw [Nat.zero_add, cell_of_row _ _ _ _ _ _ hblk, hc j _ (hdi j hj)]
    rw [getElem!_pos d j hj]
    rfl
  have eg : ∀ args w, (callFunc 49 args).run Try.prog w = .ok (.enter 49 args) w := enters_of Try.func49 (by kernel_rfl) rfl
  have hcmp : CmpLays1 Try.prog 49 #[] (encM (w := w) (q := q)) cfM q 0 d.size w := fun m os dk hs x y => by
    have hk : ∀ z : { x : Nat × Int // GoodM w q x }, (sortWorld encM w q 0 m dk os).cell? ⟨z.1.1, 2, none⟩ = some (.int .i64 z.1.2) := fun z => (cell_of_blk (sort_heap encM w q m dk os z.2.2.1 z.2.1)).trans z.2.2.2.1
    show Calls Try.prog 49 #[.pointer (some ⟨x.1.1, 0, none⟩), .pointer (some ⟨y.1.1, 0, none⟩)] (sortWorld encM w q 0 m dk os) _
    refine (cmpM_any x.1.1 y.1.1 x.1.2 y.1.2 _ (hk x) (hk y) x.2.2.2.2 y.2.2.2.2).mono ?_
    rintro e w' ⟨rfl, rfl⟩
    exact ⟨rfl, grow_of_below (RowKit.Below.refl _ _).drew (Nat.le_succ _)⟩
  have hcon := Any.slices_SortFunc Try.sortM (encM (w := w) (q := q)) (fun _ => rfl) cfM swoM 49 #[] q 0 cap d w eg hcmp hH hql (by omega)
  change Calls Try.prog 48 _ _ _ at hcon
  rw [hds] at hcon
  refine hcon.mono ?_
  rintro e w' ⟨rfl, d', m, os, hp, hs, rfl⟩
  have hds' : d'.size = n := hp.1.trans hds
  have hperm : (d'.toList).Perm d.toList := by
    have := hp.2.2
    have e1 : (d'.extract 0 n) = d' := by rw [← hds']; exact Array.extract_size
    have e2 : (d.extract 0 n) = d := by rw [← hds]; exact Array.extract_size
    rwa [e1, e2] at this
  have hget : ∀ i x, (d'.toList.map (·.1))[i]? = some x → ∃ hi : i < d'.size, x = d'[i].1 := fun i x h => by
    rw [List.getElem?_map] at h
    rcases Nat.lt_or_ge i d'.size with hi | hi
    · simp [hi] at h
      exact ⟨hi, h.symm⟩
    · simp [hi] at h
  refine ⟨rfl, d'.toList.map (·.1), putCells encM 0 d' cur, ?_, ?_, ?_, ?_, ?_⟩
  · rw [← hd]
    exact hperm.map _
  · intro i j x y hij hx hy
    obtain ⟨hi, rfl⟩ := hget i x hx
    obtain ⟨hj, rfl⟩ := hget j y hy
    have := hs i j (Nat.zero_le _) hij (by omega)
    rw [getElem!_pos d' j hj, getElem!_pos d' i hi, ltM] at this
    simp at this
    omega
  · unfold sortWorld
    rw [heap_grow_old _ _ (by simpa using hql)]
    simp only [putRow, mapBlock, Array.getElem?_modify, if_true]
    show ((Go.Sort.ahead w m).heap[q]?).map _ = _
    rw [heap_ahead, hblk]
    rfl
  · intro i x hx
    obtain ⟨hi, rfl⟩ := hget i x hx
    have hci : i < cur.size := by
      have := hc i _ (hdi i (by omega))
      exact (Array.getElem?_eq_some_iff.1 this).1
    simp only [putCells, Array.getElem?_mapIdx]
    rw [Array.getElem?_eq_getElem hci]
    simp only [Option.map_some]
    rw [if_pos ⟨Nat.zero_le _, by omega⟩, Nat.sub_zero, getElem!_pos d' i hi]
    rfl
  · exact ⟨rfl, rfl, rfl, by unfold sortWorld; simp, fun k hk hne => sort_heap encM w q m d' os hk (fun e => hne (by rw [e]))⟩

set_option maxHeartbeats 2000000 in
theorem ins_none (p : Option Addr) (cap : Nat) (fv : Value) (w : World) :
    Calls Try.prog 59 #[.slice p 0 cap, .int .i64 0, .int .i64 0, fv] w fun e w' => e = .returned (.tuple #[]) ∧ w' = w := by
  go_enter Try.func59, Try.ntmps59
  go_wp2
  refine wp_loop_rounds 1 ?_
  rw [rounds_succ]
  go_wp2
  go_end0
  exact ⟨rfl, rfl⟩

set_option maxHeartbeats 2000000 in
theorem pdq_none (p : Option Addr) (cap : Nat) (lim : Int) (fv : Value) (w : World) :
    Calls Try.prog 55 #[.slice p 0 cap, .int .i64 0, .int .i64 0, .int .i64 lim, fv] w fun e w' => e = .returned (.tuple #[]) ∧ w' = w := by
  go_enter Try.func55, Try.ntmps55
  go_wp2
  refine wp_loop_rounds 1 ?_
  rw [rounds_succ]
  go_wp2_with fail
  refine (ins_none p cap fv _).mono ?_
  rintro e w' ⟨rfl, rfl⟩
  go_wp2
  (try simp only [Exit.inBlock, Exit.then]); refine bodyPost_ret (results_none rfl _ _ _) rfl ?_
  exact ⟨rfl, rfl⟩

set_option maxHeartbeats 2000000 in
theorem sortM_none (p : Option Addr) (cap : Nat) (fv : Value) (w : World) :
    Calls Try.prog 48 #[.slice p 0 cap, fv] w fun e w' => e = .returned (.tuple #[]) ∧ w' = w := by
  have hl : ∀ W, Calls Try.prog 56 #[.int .u64 0] W fun e w' => e = .returned (.int .i64 0) ∧ w' = W := fun W => Any.bits_Len (SlLaysF0.n15.bits (P := Try.prog) { Try.sortM with }) 0 W (by omega) (by omega)
  go_enter Try.func48, Try.ntmps48
  go_wp2_with fail
  refine (hl _).mono ?_
  rintro e w' ⟨rfl, rfl⟩
  go_wp2_with fail
  refine (pdq_none p cap _ fv _).mono ?_
  rintro e w' ⟨rfl, rfl⟩
  go_wp2
  go_end0
  exact ⟨rfl, rfl⟩

end Go.Proofs.Qxb6616208a
