/-
  constraintsOf (26), ZZconstraintsOf (12).
-/
import Derived.Test.Qxb6616268aConsInv
import Derived.Deep.RegionHeldLaw
import Derived.Deep.DeepCutAuto
namespace Go.Proofs.Qxb6616268a
open Go.RowKit
set_option linter.unusedVariables false
set_option linter.unusedSimpArgs false

theorem Try.info54 : (Try.prog.info? 54).map (fun i => (i.zero, i.size, i.bytes)) = some (some (.agg #[.string ⟨#[]⟩, .string ⟨#[]⟩, .string ⟨#[]⟩]), 3, 48) := by kernel_rfl
theorem Try.info56 : (Try.prog.info? 56).map (fun i => (i.zero, i.size, i.bytes)) = some (some (.agg #[.string ⟨#[]⟩, .string ⟨#[]⟩, .string ⟨#[]⟩]), 3, 48) := by kernel_rfl
theorem Try.info9 : (Try.prog.info? 9).map (fun i => (i.zero, i.size, i.bytes)) = some (some (.string ⟨#[]⟩), 1, 16) := by kernel_rfl
theorem wide_lsize (d : Dp) : (Try.prog.info? 51).map (·.size) = some d.wide.length := by rw [Try.size51]; simp [wide_len]
theorem wide_block (d : Dp) {w : World} {q : Nat} (h : w.heap[q]? = some (.cells d.wide.toArray 51 (0, 0))) :
    w.cell? ⟨q, 0, none⟩ = some (.string d.describe) ∧ w.cell? ⟨q, 1, none⟩ = some (.string d.catalog) ∧ w.cell? ⟨q, 2, none⟩ = some (.string d.kind) ∧ w.cell? ⟨q, 12, none⟩ = some (.bool d.uniq) ∧ w.cell? ⟨q, 16, none⟩ = some (.slice d.ra d.rn d.rc) ∧
    w.cell? ⟨q, 17, none⟩ = some (pv d.pred) ∧ w.cell? ⟨q, 22, none⟩ = some (pv d.cond) ∧ w.cell? ⟨q, 23, none⟩ = some (pv d.lt) ∧ w.cell? ⟨q, 24, none⟩ = some (pv d.lc) := by
  refine ⟨?_, ?_, ?_, ?_, ?_, ?_, ?_, ?_, ?_⟩ <;> (rw [cell_of_row w q _ _ 51 (0, 0) h]; rfl)

theorem own_mono {w : World} {B B' e z n : Nat} {v : Value} {xs : List Value} (h : w.ownsRow B e z v n xs) (hb : B' ≤ B) : w.ownsRow B' e z v n xs := by
  refine ⟨h.1, ?_⟩
  rcases h.2 with h1 | ⟨g, cap, cur, hv, hg, r⟩
  · exact Or.inl h1
  · exact Or.inr ⟨g, cap, cur, hv, by omega, r⟩

/-- the three rows of an answer -/
structure Ans (w' : World) (B : Nat) (u : List ByteArray) (c k : List S3) (au ac ak : Option Addr) (pu pc pk : Nat) : Prop where
  u : w'.ownsRow B 9 1 (.slice au u.length pu) u.length (cs1 u)
  c : w'.ownsRow B 54 3 (.slice ac c.length pc) c.length (cs3 c)
  k : w'.ownsRow B 56 3 (.slice ak k.length pk) k.length (cs3 k)

def Said3 (w : World) (u : List ByteArray) (c k : List S3) (e : Ending) (w' : World) : Prop :=
  ∃ au ac ak pu pc pk, e = .returned (.agg #[.bool false, .slice au u.length pu, .slice ac c.length pc, .slice ak k.length pk]) ∧ Ans w' w.heap.size u c k au ac ak pu pc pk ∧ Below w.heap.size w w'

abbrev Z51 : Obj := .cells #[.string ⟨#[]⟩, .string ⟨#[]⟩, .string ⟨#[]⟩, .int .u32 0, .string ⟨#[]⟩, .string ⟨#[]⟩, .pointer none, .pointer none, .bool false, .bool false, .bool false, .bool false, .bool false, .bool false, .bool false, .pointer none,
   .slice none 0 0, .pointer none, .map none, .slice none 0 0, .slice none 0 0, .pointer none, .pointer none, .pointer none, .pointer none] 51

theorem boxed (wr : World) (d : Dp) : Below wr.heap.size wr ((wr.alloc Z51).setRow wr.heap.size d.wide.toArray) ∧ ((wr.alloc Z51).setRow wr.heap.size d.wide.toArray).heap[wr.heap.size]? = some (.cells d.wide.toArray 51 (0, 0)) :=
  ⟨below_row ((Below.refl _ _).alloc (Nat.le_refl _) _) (Nat.le_refl _) _, setRow_heap _ _ _ _ 51 (0, 0) (heap_alloc_new wr _)⟩

theorem uL_step {l : List Dp} {k : Nat} {d : Dp} (h : l[k]? = some d) : uL (l.take (k + 1)) = uL (l.take k) ++ (if d.isUnique = true then [d.describe] else []) := by
  rw [take_snoc h, uL_append]; congr 1; cases hu : d.isUnique <;> simp [uL, hu]
theorem cL_step {l : List Dp} {k : Nat} {d : Dp} (col : ByteArray) (h : l[k]? = some d) : cL col (l.take (k + 1)) = cL col (l.take k) ++ (if d.isCheck = true then [(d.describe, col, ps d.cond)] else []) := by
  rw [take_snoc h, cL_append]; congr 1; cases hu : d.isCheck <;> simp [cL, hu]
theorem kL_step {l : List Dp} {k : Nat} {d : Dp} (h : l[k]? = some d) : kL (l.take (k + 1)) = kL (l.take k) ++ (if d.isLookup = true then [(d.describe, ps d.lt, ps d.lc)] else []) := by
  rw [take_snoc h, kL_append]; congr 1; cases hu : d.isLookup <;> simp [kL, hu]

/-- what a round hands on -/
structure Next (W : World) (l : List Dp) (col : ByteArray) (k : Nat) (w' : World) : Prop where
  ex : ∃ (au ac ak : Option Addr) (pu pc pk : Nat), CInv W w' (W.heap.size + 1) W.heap.size (uL (l.take k)) (cL col (l.take k)) (kL (l.take k)) au ac ak pu pc pk

theorem next_none {W w' : World} {l : List Dp} {col : ByteArray} {k : Nat} {d : Dp} {au ac ak : Option Addr} {pu pc pk : Nat} (hd : l[k]? = some d) (I : CInv W w' (W.heap.size + 1) W.heap.size (uL (l.take k)) (cL col (l.take k)) (kL (l.take k)) au ac ak pu pc pk)
    (h1 : d.isUnique = false) (h2 : d.isCheck = false) (h3 : d.isLookup = false) : Next W l col (k + 1) w' := by
  refine ⟨au, ac, ak, pu, pc, pk, ?_⟩
  rw [uL_step hd, cL_step col hd, kL_step hd, h1, h2, h3]
  simpa using I

theorem uL_len (l : List Dp) : (uL l).length ≤ l.length := by simp only [uL, List.length_map]; exact List.length_filter_le _ _
theorem cL_len (col : ByteArray) (l : List Dp) : (cL col l).length ≤ l.length := by simp only [cL, List.length_map]; exact List.length_filter_le _ _
theorem kL_len (l : List Dp) : (kL l).length ≤ l.length := by simp only [kL, List.length_map]; exact List.length_filter_le _ _

theorem cells_new (w : World) (cs : List Value) (e : TypeId) : ∀ j u, cs[j]? = some u → (w.alloc (.cells cs.toArray e)).cell? ((⟨w.heap.size, 0, none⟩ : Addr).add j) = some u := by
  intro j u hu
  rw [Addr.add_lit, cell_of_row _ w.heap.size (0 + j) cs.toArray e (0, 0) (heap_alloc_new w _)]
  simpa using hu
theorem cells3_one (x : S3) : ∀ u ∈ cells3 x, u.oneCell' = true := by
  intro u hu
  simp [cells3] at hu
  rcases hu with rfl | rfl | rfl <;> rfl

theorem CInv.boxed {w wr : World} {B S : Nat} {u : List ByteArray} {c k : List S3} {au ac ak : Option Addr} {pu pc pk : Nat} (h : CInv w wr B S u c k au ac ak pu pc pk) (o : Obj) : CInv w (wr.alloc o).drew B S u c k au ac ak pu pc pk :=
  h.kept ((Below.refl _ _).alloc (Nat.le_refl _) o).drew

/-- a cell of a block that is no row stays -/
theorem far {w2 w3 : World} {o : Obj} {v : Value} (gr : (w2.alloc o).drew.grownBy w3 v.ownBlock) {b : Nat} (hb : b < w2.heap.size) (hne : ∀ j, v.ownBlock = some j → j ≠ b) {f : Nat} {x : Value} (hx : w2.cell? ⟨b, f, none⟩ = some x) : w3.cell? ⟨b, f, none⟩ = some x := by
  rw [gr.cell_far ⟨b, f, none⟩ (by simp [World.drew]; omega) (fun e => hne b e.symm rfl)]
  show (w2.alloc o).cell? ⟨b, f, none⟩ = some x
  rw [World.cell?_alloc_lt w2 _ _ (by exact hb)]
  exact hx
theorem far_frozen {w2 w3 : World} {o : Obj} {v : Value} (gr : (w2.alloc o).drew.grownBy w3 v.ownBlock) {b : Nat} (hb : b < w2.heap.size) (hne : ∀ j, v.ownBlock = some j → j ≠ b) {f : Nat} (hx : w2.frozen? ⟨b, f, none⟩ = false) : w3.frozen? ⟨b, f, none⟩ = false := by
  rw [gr.frozen_far ⟨b, f, none⟩ (by simp [World.drew]; omega) (fun e => hne b e.symm rfl)]
  show (w2.alloc o).frozen? ⟨b, f, none⟩ = false
  rw [World.frozen?_alloc_past _ _ _ hb]
  exact hx

theorem CInv.boxed0 {w wr : World} {B S : Nat} {u : List ByteArray} {c k : List S3} {au ac ak : Option Addr} {pu pc pk : Nat} (h : CInv w wr B S u c k au ac ak pu pc pk) (o : Obj) : CInv w (wr.alloc o) B S u c k au ac ak pu pc pk :=
  h.kept ((Below.refl _ _).alloc (Nat.le_refl _) o)
theorem far0 {w2 w3 : World} {o : Obj} {v : Value} (gr : (w2.alloc o).grownBy w3 v.ownBlock) {b : Nat} (hb : b < w2.heap.size) (hne : ∀ j, v.ownBlock = some j → j ≠ b) {f : Nat} {x : Value} (hx : w2.cell? ⟨b, f, none⟩ = some x) : w3.cell? ⟨b, f, none⟩ = some x := by
  rw [gr.cell_far ⟨b, f, none⟩ (by simp; omega) (fun e => hne b e.symm rfl), World.cell?_alloc_lt w2 _ _ (by exact hb)]
  exact hx
theorem far0_frozen {w2 w3 : World} {o : Obj} {v : Value} (gr : (w2.alloc o).grownBy w3 v.ownBlock) {b : Nat} (hb : b < w2.heap.size) (hne : ∀ j, v.ownBlock = some j → j ≠ b) {f : Nat} (hx : w2.frozen? ⟨b, f, none⟩ = false) : w3.frozen? ⟨b, f, none⟩ = false := by
  rw [gr.frozen_far ⟨b, f, none⟩ (by simp; omega) (fun e => hne b e.symm rfl), World.frozen?_alloc_past _ _ _ hb]
  exact hx

theorem next_check {W w' : World} {l : List Dp} {col : ByteArray} {k : Nat} {d : Dp} {au ac ak : Option Addr} {pu pc pk : Nat} (hd : l[k]? = some d) (h1 : d.isUnique = false) (h2 : d.isCheck = true) (h3 : d.isLookup = false)
    (I : CInv W w' (W.heap.size + 1) W.heap.size (uL (l.take k)) (cL col (l.take k) ++ [(d.describe, col, ps d.cond)]) (kL (l.take k)) au ac ak pu pc pk) : Next W l col (k + 1) w' := by
  refine ⟨au, ac, ak, pu, pc, pk, ?_⟩
  rw [uL_step hd, cL_step col hd, kL_step hd, h1, h2, h3]
  simpa using I
theorem next_lookup {W w' : World} {l : List Dp} {col : ByteArray} {k : Nat} {d : Dp} {au ac ak : Option Addr} {pu pc pk : Nat} (hd : l[k]? = some d) (h1 : d.isUnique = false) (h2 : d.isCheck = false) (h3 : d.isLookup = true)
    (I : CInv W w' (W.heap.size + 1) W.heap.size (uL (l.take k)) (cL col (l.take k)) (kL (l.take k) ++ [(d.describe, ps d.lt, ps d.lc)]) au ac ak pu pc pk) : Next W l col (k + 1) w' := by
  refine ⟨au, ac, ak, pu, pc, pk, ?_⟩
  rw [uL_step hd, cL_step col hd, kL_step hd, h1, h2, h3]
  simpa using I
theorem next_unique {W w' : World} {l : List Dp} {col : ByteArray} {k : Nat} {d : Dp} {au ac ak : Option Addr} {pu pc pk : Nat} (hd : l[k]? = some d) (h1 : d.isUnique = true) (h2 : d.isCheck = false) (h3 : d.isLookup = false)
    (I : CInv W w' (W.heap.size + 1) W.heap.size (uL (l.take k) ++ [d.describe]) (cL col (l.take k)) (kL (l.take k)) au ac ak pu pc pk) : Next W l col (k + 1) w' := by
  refine ⟨au, ac, ak, pu, pc, pk, ?_⟩
  rw [uL_step hd, cL_step col hd, kL_step hd, h1, h2, h3]
  simpa using I

/-! ### the tests' outcomes -/
theorem t_reads {d : Dp} (h : 0 < d.rn) : d.isUnique = false ∧ d.isCheck = false ∧ d.isLookup = false := by
  have e : ((d.rn : Int) == 0) = false := by rw [beq_eq_false_iff_ne]; omega
  exact ⟨by simp [Dp.isUnique, h], by simp [Dp.isCheck, e], by simp [Dp.isLookup, e]⟩
theorem t_check {d : Dp} (h : ¬ 0 < d.rn) (h1 : (d.catalog.toList == sCon) = true) (h2 : (d.kind.toList == [99]) = true) : d.isUnique = false ∧ d.isCheck = true ∧ d.isLookup = false := by
  have e : ((d.rn : Int) == 0) = true := by rw [beq_iff_eq]; omega
  have e2 : d.kind.toList = [99] := by simpa using h2
  exact ⟨by simp [Dp.isUnique, h, h1, e2], by simp [Dp.isCheck, e, h1, h2], by simp [Dp.isLookup, e2]⟩
theorem t_lookup {d : Dp} (h : ¬ 0 < d.rn) (h1 : (d.catalog.toList == sCon) = true) (h2 : (d.kind.toList == [102]) = true) : d.isUnique = false ∧ d.isCheck = false ∧ d.isLookup = true := by
  have e : ((d.rn : Int) == 0) = true := by rw [beq_iff_eq]; omega
  have e2 : d.kind.toList = [102] := by simpa using h2
  exact ⟨by simp [Dp.isUnique, h, h1, e2], by simp [Dp.isCheck, e2], by simp [Dp.isLookup, e, h1, h2]⟩
theorem t_con {d : Dp} (h : ¬ 0 < d.rn) (h1 : (d.catalog.toList == sCon) = true) (h2 : (d.kind.toList == [99]) = false) (h3 : (d.kind.toList == [102]) = false) : d.isUnique = (d.kind.toList == [117] || d.kind.toList == [112]) ∧ d.isCheck = false ∧ d.isLookup = false :=
  ⟨by simp [Dp.isUnique, h, h1], by simp [Dp.isCheck, h2], by simp [Dp.isLookup, h3]⟩
theorem t_cls {d : Dp} (h : ¬ 0 < d.rn) (h1 : (d.catalog.toList == sCon) = false) (h2 : (d.catalog.toList == sCls) = true) : d.isUnique = ((d.kind.toList == [105, 97] || d.kind.toList == [73, 97]) && d.uniq && d.pred.isNone) ∧ d.isCheck = false ∧ d.isLookup = false :=
  ⟨by simp [Dp.isUnique, h, h1, h2], by simp [Dp.isCheck, h1], by simp [Dp.isLookup, h1]⟩
theorem t_other {d : Dp} (h : ¬ 0 < d.rn) (h1 : (d.catalog.toList == sCon) = false) (h2 : (d.catalog.toList == sCls) = false) : d.isUnique = false ∧ d.isCheck = false ∧ d.isLookup = false :=
  ⟨by simp [Dp.isUnique, h1, h2], by simp [Dp.isCheck, h1], by simp [Dp.isLookup, h1]⟩

abbrev Z34 : Obj := .cells #[.bool false, .slice none 0 0, .slice none 0 0, .slice none 0 0] 34

theorem inv_start (W : World) : CInv W (W.alloc Z34) (W.heap.size + 1) W.heap.size [] [] [] none none none 0 0 0 :=
  ⟨heap_alloc_new W _, World.ownsRow_nil _ _ _ _, World.ownsRow_nil _ _ _ _, World.ownsRow_nil _ _ _ _, ⟨Nat.le_refl _, by omega, by simp⟩, (Below.refl _ _).alloc (Nat.le_refl _) _⟩

theorem Try.size34 : (Try.prog.info? 34).map (·.size) = some 4 := by kernel_rfl
theorem Try.under34 : ∃ fs, Try.prog.underlying 34 = some (.struct fs) := ⟨_, Try.underlying34⟩

theorem four_one (au ac ak : Option Addr) (n1 n2 n3 c1 c2 c3 : Nat) : (#[Value.bool false, .slice au n1 c1, .slice ac n2 c2, .slice ak n3 c3]).all (·.oneCell') = true :=
  all_oneCell_toArray (cs := [Value.bool false, .slice au n1 c1, .slice ac n2 c2, .slice ak n3 c3]) fun v hv => by
    simp only [List.mem_cons, List.not_mem_nil, or_false] at hv
    rcases hv with h | h | h | h <;> (subst h; rfl)

theorem grown_row (w : World) (g : Nat) (cs : Array Value) : w.grownBy (w.setRow g cs) (some g) := ⟨rfl, rfl, rfl, by simp [World.setRow], fun k _ hk => setRow_other w g k cs (fun e => hk (by simp [e]))⟩

theorem ans_fin {w W wr : World} {U : List ByteArray} {C KK : List S3} {au ac ak : Option Addr} {pu pc pk : Nat} {cs : Array Value} (hs : W.heap.size = w.heap.size + 1) (hb : Below w.heap.size w W) (I : CInv W wr (W.heap.size + 1) W.heap.size U C KK au ac ak pu pc pk) :
    Said3 w U C KK (.returned (.agg #[.bool false, .slice au U.length pu, .slice ac C.length pc, .slice ak KK.length pk])) (wr.setRow w.heap.size cs) := by
  have g := grown_row wr w.heap.size cs
  have u1 := I.u.kept g (ne_low I.u (by omega))
  have c1 := I.c.kept g (ne_low I.c (by omega))
  have k1 := I.k.kept g (ne_low I.k (by omega))
  refine ⟨au, ac, ak, pu, pc, pk, rfl, ⟨own_mono u1 (by omega), own_mono c1 (by omega), own_mono k1 (by omega)⟩, ?_⟩
  exact below_row (hb.trans (I.below.mono (by omega))) (Nat.le_refl _) _

set_option maxHeartbeats 4000000 in
set_option maxRecDepth 100000 in
theorem cons_any (g n cap : Nat) (l : List Dp) (col : ByteArray) (w : World) (hl : l.length = n) (hn : n ≤ 65536) (hB : Hid (Built w g l)) (hI : Hid (∀ d, d ∈ l → DIn w d ∧ d.Ok)) :
    Calls Try.prog 26 #[.slice (some ⟨g, 0, none⟩) n cap, .string col] w fun e w' => Said3 w (uL l) (cL col l) (kL l) e w' := by
  have HL : Hid (l.length = n) := hl
  clear hl
  obtain ⟨fs, hfs⟩ := Try.under51
  have H51 : Hid (Try.prog.underlying 51 = some (.struct fs)) := hfs
  clear hfs
  obtain ⟨W, hW⟩ : ∃ W, W = w.alloc Z34 := ⟨_, rfl⟩
  have hWs : W.heap.size = w.heap.size + 1 := by rw [hW]; simp
  have hWb : Hid (Below w.heap.size w W) := by rw [hW]; exact (Below.refl _ _).alloc (Nat.le_refl _) _
  have hBW : Hid (Built W g l) := hB.out.below hWb.out
  have hIW : Hid (∀ d, d ∈ l → DIn W d ∧ d.Ok) := fun d hd => ⟨(hI.out d hd).1.below hWb.out, (hI.out d hd).2⟩
  have hWc : Hid (W.heap[w.heap.size]? = some Z34) := by rw [hW]; exact heap_alloc_new w _
  have I0 := inv_start W
  have HW : Hid (W = w.alloc Z34) := hW
  clear hB hI hW
  go_enter Try.func26, Try.ntmps26
  go_wp2
  rw [show (w.alloc (Obj.cells #[Value.bool false, Value.slice none 0 0, Value.slice none 0 0, Value.slice none 0 0] 34)) = W from HW.out.symm]
  rw [← hWs]
  have HWs : Hid (W.heap.size = w.heap.size + 1) := hWs
  clear HW hWs
  generalize W.alloc Z34 = w1 at *
  go_loopw [7, 10] (fun _ i wr => ∃ (k : Nat) (au ac ak : Option Addr) (pu pc pk : Nat), k ≤ n ∧ i = .int .i64 k ∧ CInv W wr (W.heap.size + 1) W.heap.size (uL (l.take k)) (cL col (l.take k)) (kL (l.take k)) au ac ak pu pc pk) (fun _ i _ => n - (intOf i).toNat)
  case atStart => exact ⟨0, _, _, _, _, _, _, Nat.zero_le _, rfl, I0⟩
  case round =>
    obtain ⟨k, au, ac, ak, pu, pc, pk, hk, rfl, I⟩ := hrel
    clear I0
    by_cases hlt : k < n
    · obtain ⟨d, hd⟩ : ∃ d, l[k]? = some d := ⟨_, List.getElem?_eq_getElem (by have := HL.out; omega)⟩
      obtain ⟨hin, hok⟩ := hIW.out d (List.mem_of_getElem? hd)
      have hkn : (k : Int) < n := by omega
      have HR : Hid (wr.rangeAt g (k * 25) d.wide) := range_below (hBW.out.2 k d hd) I.below hBW.out.1
      go_upto_region 5 with (first
        | (show wpList _ _ _ (⟨_, Op.load 51 (.tmp 12), _, _, _, _⟩ :: _) _ _; refine wpList_load_mid rfl 51 (.tmp 12) rfl g (k * 25) rfl d.wide (.struct fs) (by exact HR.out) H51.out rfl (wide_lsize d) ?_)
        | (show wpList _ _ _ (⟨_, Op.store 51 (.tmp 7) (.tmp 13), _, _, _, _⟩ :: _) _ _; refine wpList_store_row rfl 51 (.tmp 7) (.tmp 13) rfl wr.heap.size d.wide.toArray rfl rfl 51 _ (heap_alloc_new wr _) (wide_size d) rfl (wide_one d) ?_))
      simp only [Act.put, List.setIfInBounds_toArray, List.set_cons_succ, List.set_cons_zero]
      have hbx := boxed wr d
      generalize hw2 : (wr.alloc Z51).setRow wr.heap.size d.wide.toArray = w2 at hbx ⊢
      clear hw2
      obtain ⟨hb2, hblk⟩ := hbx
      have I2 := I.kept hb2
      obtain ⟨x0, x1, x2, x12, x16, x17, x22, x23, x24⟩ := wide_block d hblk
      have hqS : W.heap.size < wr.heap.size := (Array.getElem?_eq_some_iff.1 I.blk).1
      have hqw : wr.heap.size < w2.heap.size := (Array.getElem?_eq_some_iff.1 hblk).1
      have hrow : Hid ((∀ j, (Value.slice ac (cL col (l.take k)).length pc).ownBlock = some j → W.heap.size + 1 ≤ j ∧ j < wr.heap.size) ∧ (∀ j, (Value.slice ak (kL (l.take k)).length pk).ownBlock = some j → W.heap.size + 1 ≤ j ∧ j < wr.heap.size)) := ⟨I.c.lt, I.k.lt⟩
      have hrowu : Hid (∀ j, (Value.slice au (uL (l.take k)).length pu).ownBlock = some j → W.heap.size + 1 ≤ j ∧ j < wr.heap.size) := I.u.lt
      have hinW : Hid (DIn W d) := hin
      have hin2 : DIn w2 d := (hin.below I.below).below hb2
      have hrn := hin.rn
      unfold maxLen at hrn
      clear hblk I HR hin
      generalize wr.heap.size = q at *
      by_cases h1 : 0 < d.rn
      · have HN : Hid (Next W l col (k + 1) w2) := next_none hd I2 (t_reads h1).1 (t_reads h1).2.1 (t_reads h1).2.2
        clear I2 hin2 hok
        go_wp2
        go_roundw
        case rel =>
          obtain ⟨au, ac, ak, pu, pc, pk, I3⟩ := HN.out.ex
          exact ⟨k + 1, au, ac, ak, pu, pc, pk, by omega, by go_num, I3⟩
        case measure => simp [intOf]; omega
      · have hlen : (l.take k).length ≤ k := List.length_take_le _ _
        cases h2 : (d.catalog.toList == sCon)
        · cases h3 : (d.catalog.toList == sCls)
          · have T0 := t_other h1 h2 h3
            unfold sCon at h2
            unfold sCls at h3
            have HN : Hid (Next W l col (k + 1) w2) := next_none hd I2 (T0).1 (T0).2.1 (T0).2.2
            clear I2 hin2 hok
            go_wp2
            go_roundw
            case rel =>
              obtain ⟨au, ac, ak, pu, pc, pk, I3⟩ := HN.out.ex
              exact ⟨k + 1, au, ac, ak, pu, pc, pk, by omega, by go_num, I3⟩
            case measure => simp [intOf]; omega
          · have T0 := t_cls h1 h2 h3
            unfold sCon at h2
            unfold sCls at h3
            cases h4 : (d.kind.toList == [105, 97])
            · cases h5 : (d.kind.toList == [73, 97])
              · rw [h4, h5] at T0
                simp only [Bool.or_self, Bool.false_and] at T0
                have HN : Hid (Next W l col (k + 1) w2) := next_none hd I2 (T0).1 (T0).2.1 (T0).2.2
                clear I2 hin2 hok
                go_wp2
                go_roundw
                case rel =>
                  obtain ⟨au, ac, ak, pu, pc, pk, I3⟩ := HN.out.ex
                  exact ⟨k + 1, au, ac, ak, pu, pc, pk, by omega, by go_num, I3⟩
                case measure => simp [intOf]; omega
              · rw [h4, h5] at T0
                simp only [Bool.false_or, Bool.true_and] at T0
                cases h6 : d.uniq
                · rw [h6] at T0 x12
                  simp only [Bool.false_and] at T0
                  have HN : Hid (Next W l col (k + 1) w2) := next_none hd I2 (T0).1 (T0).2.1 (T0).2.2
                  clear I2 hin2 hok
                  go_wp2
                  go_roundw
                  case rel =>
                    obtain ⟨au, ac, ak, pu, pc, pk, I3⟩ := HN.out.ex
                    exact ⟨k + 1, au, ac, ak, pu, pc, pk, by omega, by go_num, I3⟩
                  case measure => simp [intOf]; omega
                · rw [h6] at T0 x12
                  simp only [Bool.true_and] at T0
                  rw [← pa_isNone] at T0
                  cases h7 : (pa d.pred).isNone
                  · rw [h7] at T0
                    obtain ⟨pp, hpp⟩ : ∃ pp, pa d.pred = some pp := by cases hh : pa d.pred <;> simp_all
                    simp only [pv] at x17
                    rw [hpp] at x17
                    have HN : Hid (Next W l col (k + 1) w2) := next_none hd I2 (T0).1 (T0).2.1 (T0).2.2
                    clear I2 hin2 hok
                    go_wp2
                    go_roundw
                    case rel =>
                      obtain ⟨au, ac, ak, pu, pc, pk, I3⟩ := HN.out.ex
                      exact ⟨k + 1, au, ac, ak, pu, pc, pk, by omega, by go_num, I3⟩
                    case measure => simp [intOf]; omega
                  · rw [h7] at T0
                    have hpp : pa d.pred = none := by simpa using h7
                    simp only [pv] at x17
                    rw [hpp] at x17
                    have T : d.isUnique = true ∧ d.isCheck = false ∧ d.isLookup = false := T0
                    obtain ⟨i0, hi, hz0, hz1, hz2⟩ := info_parts Try.info9
                    have hun := uL_len (l.take k)
                    have f1 : w2.cell? ⟨W.heap.size, 1, none⟩ = some (.slice au (uL (l.take k)).length pu) := cell_of_row w2 _ 1 _ 34 (0, 0) I2.blk
                    have fz1 : Hid (w2.frozen? ⟨W.heap.size, 1, none⟩ = false) := frozen_of_row w2 _ 1 _ 34 I2.blk
                    have HI : Hid (CInv W w2 _ _ _ _ _ _ _ _ _ _ _) := I2
                    have HT : Hid (d.isUnique = true ∧ d.isCheck = false ∧ d.isLookup = false) := T
                    have HD : Hid (l[k]? = some d) := hd
                    have ha1 : ∀ o, (w2.alloc o).cell? ⟨W.heap.size, 1, none⟩ = some (.slice au (uL (l.take k)).length pu) := fun o => (World.cell?_alloc_lt w2 _ _ (by show W.heap.size < _; omega)).trans f1
                    clear hin2 hok I2 T hd
                    generalize hcL : uL (l.take k) = uu at *
                    have HC : Hid (uL (l.take k) = uu) := hcL
                    clear hcL
                    go_wp2_with (at_builtin; refine wpList_append_lies _ rfl (.tmp 102) (.tmp 105) 27 rfl (W.heap.size + 1) 9 i0 _ 1 16 Try.underlying27 hi hz0 hz1 hz2 rfl (by decide) _ uu.length (cs1 uu) rfl (by exact (HI.out.boxed0 _).u) ⟨w2.heap.size, 0, none⟩ 1 1 [.string d.describe] rfl rfl (by exact cells_new w2 [.string d.describe] 9) (by intro u hu; simp at hu; subst hu; rfl) (by decide) (by unfold maxLen; omega) (by omega) (by exact (HI.out.boxed0 _).lo.2.2) _ rfl ?_)
                    intro g3 cap3 w3 ow gr _ _
                    have hN := next_unique HD.out HT.out.1 HT.out.2.1 HT.out.2.2 (by rw [HC.out]; exact (HI.out.boxed0 _).unique ow gr)
                    have HN : Hid (Next W l col (k + 1) _) := hN
                    have f3 : w3.cell? ⟨W.heap.size, 1, none⟩ = some _ := far0 gr (by omega) (fun j hj => by have := hrowu.out j hj; omega) f1
                    have z3 : w3.frozen? ⟨W.heap.size, 1, none⟩ = false := far0_frozen gr (by omega) (fun j hj => by have := hrowu.out j hj; omega) fz1.out
                    clear hN ow gr ha1 f1 x0 x1 x2 x12 x16 x17 x22 x23 x24
                    go_wp2
                    go_roundw
                    case rel =>
                      obtain ⟨au, ac, ak, pu, pc, pk, I3⟩ := HN.out.ex
                      exact ⟨k + 1, au, ac, ak, pu, pc, pk, by omega, by go_num, I3⟩
                    case measure => simp [intOf]; omega
            · rw [h4] at T0
              simp only [Bool.true_or, Bool.true_and] at T0
              cases h6 : d.uniq
              · rw [h6] at T0 x12
                simp only [Bool.false_and] at T0
                have HN : Hid (Next W l col (k + 1) w2) := next_none hd I2 (T0).1 (T0).2.1 (T0).2.2
                clear I2 hin2 hok
                go_wp2
                go_roundw
                case rel =>
                  obtain ⟨au, ac, ak, pu, pc, pk, I3⟩ := HN.out.ex
                  exact ⟨k + 1, au, ac, ak, pu, pc, pk, by omega, by go_num, I3⟩
                case measure => simp [intOf]; omega
              · rw [h6] at T0 x12
                simp only [Bool.true_and] at T0
                rw [← pa_isNone] at T0
                cases h7 : (pa d.pred).isNone
                · rw [h7] at T0
                  obtain ⟨pp, hpp⟩ : ∃ pp, pa d.pred = some pp := by cases hh : pa d.pred <;> simp_all
                  simp only [pv] at x17
                  rw [hpp] at x17
                  have HN : Hid (Next W l col (k + 1) w2) := next_none hd I2 (T0).1 (T0).2.1 (T0).2.2
                  clear I2 hin2 hok
                  go_wp2
                  go_roundw
                  case rel =>
                    obtain ⟨au, ac, ak, pu, pc, pk, I3⟩ := HN.out.ex
                    exact ⟨k + 1, au, ac, ak, pu, pc, pk, by omega, by go_num, I3⟩
                  case measure => simp [intOf]; omega
                · rw [h7] at T0
                  have hpp : pa d.pred = none := by simpa using h7
                  simp only [pv] at x17
                  rw [hpp] at x17
                  have T : d.isUnique = true ∧ d.isCheck = false ∧ d.isLookup = false := T0
                  obtain ⟨i0, hi, hz0, hz1, hz2⟩ := info_parts Try.info9
                  have hun := uL_len (l.take k)
                  have f1 : w2.cell? ⟨W.heap.size, 1, none⟩ = some (.slice au (uL (l.take k)).length pu) := cell_of_row w2 _ 1 _ 34 (0, 0) I2.blk
                  have fz1 : Hid (w2.frozen? ⟨W.heap.size, 1, none⟩ = false) := frozen_of_row w2 _ 1 _ 34 I2.blk
                  have HI : Hid (CInv W w2 _ _ _ _ _ _ _ _ _ _ _) := I2
                  have HT : Hid (d.isUnique = true ∧ d.isCheck = false ∧ d.isLookup = false) := T
                  have HD : Hid (l[k]? = some d) := hd
                  have ha1 : ∀ o, (w2.alloc o).cell? ⟨W.heap.size, 1, none⟩ = some (.slice au (uL (l.take k)).length pu) := fun o => (World.cell?_alloc_lt w2 _ _ (by show W.heap.size < _; omega)).trans f1
                  clear hin2 hok I2 T hd
                  generalize hcL : uL (l.take k) = uu at *
                  have HC : Hid (uL (l.take k) = uu) := hcL
                  clear hcL
                  go_wp2_with (at_builtin; refine wpList_append_lies _ rfl (.tmp 102) (.tmp 105) 27 rfl (W.heap.size + 1) 9 i0 _ 1 16 Try.underlying27 hi hz0 hz1 hz2 rfl (by decide) _ uu.length (cs1 uu) rfl (by exact (HI.out.boxed0 _).u) ⟨w2.heap.size, 0, none⟩ 1 1 [.string d.describe] rfl rfl (by exact cells_new w2 [.string d.describe] 9) (by intro u hu; simp at hu; subst hu; rfl) (by decide) (by unfold maxLen; omega) (by omega) (by exact (HI.out.boxed0 _).lo.2.2) _ rfl ?_)
                  intro g3 cap3 w3 ow gr _ _
                  have hN := next_unique HD.out HT.out.1 HT.out.2.1 HT.out.2.2 (by rw [HC.out]; exact (HI.out.boxed0 _).unique ow gr)
                  have HN : Hid (Next W l col (k + 1) _) := hN
                  have f3 : w3.cell? ⟨W.heap.size, 1, none⟩ = some _ := far0 gr (by omega) (fun j hj => by have := hrowu.out j hj; omega) f1
                  have z3 : w3.frozen? ⟨W.heap.size, 1, none⟩ = false := far0_frozen gr (by omega) (fun j hj => by have := hrowu.out j hj; omega) fz1.out
                  clear hN ow gr ha1 f1 x0 x1 x2 x12 x16 x17 x22 x23 x24
                  go_wp2
                  go_roundw
                  case rel =>
                    obtain ⟨au, ac, ak, pu, pc, pk, I3⟩ := HN.out.ex
                    exact ⟨k + 1, au, ac, ak, pu, pc, pk, by omega, by go_num, I3⟩
                  case measure => simp [intOf]; omega
        · cases h3 : (d.kind.toList == [99])
          · cases h4 : (d.kind.toList == [102])
            · have T0 := t_con h1 h2 h3 h4
              unfold sCon at h2
              have hncls : (d.catalog.toList == [112, 103, 95, 99, 108, 97, 115, 115]) = false := by rw [beq_iff_eq] at h2; rw [h2]; rfl
              cases h5 : (d.kind.toList == [117])
              · cases h6 : (d.kind.toList == [112])
                · rw [h5, h6] at T0
                  simp only [Bool.or_self] at T0
                  have HN : Hid (Next W l col (k + 1) w2) := next_none hd I2 (T0).1 (T0).2.1 (T0).2.2
                  clear I2 hin2 hok
                  go_wp2
                  go_roundw
                  case rel =>
                    obtain ⟨au, ac, ak, pu, pc, pk, I3⟩ := HN.out.ex
                    exact ⟨k + 1, au, ac, ak, pu, pc, pk, by omega, by go_num, I3⟩
                  case measure => simp [intOf]; omega
                · rw [h5, h6] at T0
                  simp only [Bool.false_or] at T0
                  have T : d.isUnique = true ∧ d.isCheck = false ∧ d.isLookup = false := T0
                  obtain ⟨i0, hi, hz0, hz1, hz2⟩ := info_parts Try.info9
                  have hun := uL_len (l.take k)
                  have f1 : w2.cell? ⟨W.heap.size, 1, none⟩ = some (.slice au (uL (l.take k)).length pu) := cell_of_row w2 _ 1 _ 34 (0, 0) I2.blk
                  have fz1 : Hid (w2.frozen? ⟨W.heap.size, 1, none⟩ = false) := frozen_of_row w2 _ 1 _ 34 I2.blk
                  have HI : Hid (CInv W w2 _ _ _ _ _ _ _ _ _ _ _) := I2
                  have HT : Hid (d.isUnique = true ∧ d.isCheck = false ∧ d.isLookup = false) := T
                  have HD : Hid (l[k]? = some d) := hd
                  have ha1 : ∀ o, (w2.alloc o).cell? ⟨W.heap.size, 1, none⟩ = some (.slice au (uL (l.take k)).length pu) := fun o => (World.cell?_alloc_lt w2 _ _ (by show W.heap.size < _; omega)).trans f1
                  clear hin2 hok I2 T hd
                  generalize hcL : uL (l.take k) = uu at *
                  have HC : Hid (uL (l.take k) = uu) := hcL
                  clear hcL
                  go_wp2_with (at_builtin; refine wpList_append_lies _ rfl (.tmp 102) (.tmp 105) 27 rfl (W.heap.size + 1) 9 i0 _ 1 16 Try.underlying27 hi hz0 hz1 hz2 rfl (by decide) _ uu.length (cs1 uu) rfl (by exact (HI.out.boxed0 _).u) ⟨w2.heap.size, 0, none⟩ 1 1 [.string d.describe] rfl rfl (by exact cells_new w2 [.string d.describe] 9) (by intro u hu; simp at hu; subst hu; rfl) (by decide) (by unfold maxLen; omega) (by omega) (by exact (HI.out.boxed0 _).lo.2.2) _ rfl ?_)
                  intro g3 cap3 w3 ow gr _ _
                  have hN := next_unique HD.out HT.out.1 HT.out.2.1 HT.out.2.2 (by rw [HC.out]; exact (HI.out.boxed0 _).unique ow gr)
                  have HN : Hid (Next W l col (k + 1) _) := hN
                  have f3 : w3.cell? ⟨W.heap.size, 1, none⟩ = some _ := far0 gr (by omega) (fun j hj => by have := hrowu.out j hj; omega) f1
                  have z3 : w3.frozen? ⟨W.heap.size, 1, none⟩ = false := far0_frozen gr (by omega) (fun j hj => by have := hrowu.out j hj; omega) fz1.out
                  clear hN ow gr ha1 f1 x0 x1 x2 x12 x16 x17 x22 x23 x24
                  go_wp2
                  go_roundw
                  case rel =>
                    obtain ⟨au, ac, ak, pu, pc, pk, I3⟩ := HN.out.ex
                    exact ⟨k + 1, au, ac, ak, pu, pc, pk, by omega, by go_num, I3⟩
                  case measure => simp [intOf]; omega
              · rw [h5] at T0
                simp only [Bool.true_or] at T0
                have T : d.isUnique = true ∧ d.isCheck = false ∧ d.isLookup = false := T0
                obtain ⟨i0, hi, hz0, hz1, hz2⟩ := info_parts Try.info9
                have hun := uL_len (l.take k)
                have f1 : w2.cell? ⟨W.heap.size, 1, none⟩ = some (.slice au (uL (l.take k)).length pu) := cell_of_row w2 _ 1 _ 34 (0, 0) I2.blk
                have fz1 : Hid (w2.frozen? ⟨W.heap.size, 1, none⟩ = false) := frozen_of_row w2 _ 1 _ 34 I2.blk
                have HI : Hid (CInv W w2 _ _ _ _ _ _ _ _ _ _ _) := I2
                have HT : Hid (d.isUnique = true ∧ d.isCheck = false ∧ d.isLookup = false) := T
                have HD : Hid (l[k]? = some d) := hd
                have ha1 : ∀ o, (w2.alloc o).cell? ⟨W.heap.size, 1, none⟩ = some (.slice au (uL (l.take k)).length pu) := fun o => (World.cell?_alloc_lt w2 _ _ (by show W.heap.size < _; omega)).trans f1
                clear hin2 hok I2 T hd
                generalize hcL : uL (l.take k) = uu at *
                have HC : Hid (uL (l.take k) = uu) := hcL
                clear hcL
                go_wp2_with (at_builtin; refine wpList_append_lies _ rfl (.tmp 102) (.tmp 105) 27 rfl (W.heap.size + 1) 9 i0 _ 1 16 Try.underlying27 hi hz0 hz1 hz2 rfl (by decide) _ uu.length (cs1 uu) rfl (by exact (HI.out.boxed0 _).u) ⟨w2.heap.size, 0, none⟩ 1 1 [.string d.describe] rfl rfl (by exact cells_new w2 [.string d.describe] 9) (by intro u hu; simp at hu; subst hu; rfl) (by decide) (by unfold maxLen; omega) (by omega) (by exact (HI.out.boxed0 _).lo.2.2) _ rfl ?_)
                intro g3 cap3 w3 ow gr _ _
                have hN := next_unique HD.out HT.out.1 HT.out.2.1 HT.out.2.2 (by rw [HC.out]; exact (HI.out.boxed0 _).unique ow gr)
                have HN : Hid (Next W l col (k + 1) _) := hN
                have f3 : w3.cell? ⟨W.heap.size, 1, none⟩ = some _ := far0 gr (by omega) (fun j hj => by have := hrowu.out j hj; omega) f1
                have z3 : w3.frozen? ⟨W.heap.size, 1, none⟩ = false := far0_frozen gr (by omega) (fun j hj => by have := hrowu.out j hj; omega) fz1.out
                clear hN ow gr ha1 f1 x0 x1 x2 x12 x16 x17 x22 x23 x24
                go_wp2
                go_roundw
                case rel =>
                  obtain ⟨au, ac, ak, pu, pc, pk, I3⟩ := HN.out.ex
                  exact ⟨k + 1, au, ac, ak, pu, pc, pk, by omega, by go_num, I3⟩
                case measure => simp [intOf]; omega
            · have T := t_lookup h1 h2 h4
              obtain ⟨n1, n2⟩ := hok.2 T.2.2
              obtain ⟨⟨tb, tof, tt⟩, hc1⟩ := Option.ne_none_iff_exists'.1 n1
              obtain ⟨⟨lb, lo, lt⟩, hc2⟩ := Option.ne_none_iff_exists'.1 n2
              obtain ⟨-, htc, -⟩ := hin2.lt _ hc1
              obtain ⟨htl, -, -⟩ := hinW.out.lt _ hc1
              obtain ⟨-, hlc, -⟩ := hin2.lc _ hc2
              obtain ⟨hll, -, -⟩ := hinW.out.lc _ hc2
              simp only at htl htc hll hlc
              have hct : Hid (ps d.lt = tt ∧ ps d.lc = lt) := by show ps d.lt = tt ∧ ps d.lc = lt; rw [hc1, hc2]; exact ⟨rfl, rfl⟩
              rw [hc1] at x23
              rw [hc2] at x24
              simp only [pv, pa] at x23 x24
              have hcn := kL_len (l.take k)
              obtain ⟨i0, hi, hz0, hz1, hz2⟩ := info_parts Try.info56
              unfold sCon at h2
              have f2 : w2.cell? ⟨W.heap.size, 3, none⟩ = some (.slice ak (kL (l.take k)).length pk) := cell_of_row w2 _ 3 _ 34 (0, 0) I2.blk
              have fz2 : Hid (w2.frozen? ⟨W.heap.size, 3, none⟩ = false) := frozen_of_row w2 _ 3 _ 34 I2.blk
              have HI : Hid (CInv W w2 _ _ _ _ _ _ _ _ _ _ _) := I2
              have HT : Hid (d.isUnique = false ∧ d.isCheck = false ∧ d.isLookup = true) := T
              have HD : Hid (l[k]? = some d) := hd
              clear x12 x17 x22 hin2 hok I2 hc1 hc2 n1 n2 T hd
              generalize hcL : kL (l.take k) = cc at *
              have HC : Hid (kL (l.take k) = cc) := hcL
              clear hcL
              go_wp2_with fail
              clear x1 x2 x16
              refine wp_region_held_drew (S := fun w' => w'.cell? ⟨q, 0, none⟩ = some (.string d.describe) ∧ w'.cell? ⟨q, 23, none⟩ = some (.pointer (some ⟨tb, tof, none⟩)) ∧ w'.cell? ⟨tb, tof, none⟩ = some (.string tt) ∧ w'.cell? ⟨q, 24, none⟩ = some (.pointer (some ⟨lb, lo, none⟩)) ∧ w'.cell? ⟨lb, lo, none⟩ = some (.string lt)) (by kernel_rfl) ⟨x0, x23, htc, x24, hlc⟩ ?_
              intro hSd
              have hal : ∀ o, ((w2.alloc o).cell? ⟨q, 0, none⟩ = some (.string d.describe) ∧ (w2.alloc o).cell? ⟨q, 23, none⟩ = some (.pointer (some ⟨tb, tof, none⟩)) ∧ (w2.alloc o).cell? ⟨tb, tof, none⟩ = some (.string tt) ∧ (w2.alloc o).cell? ⟨q, 24, none⟩ = some (.pointer (some ⟨lb, lo, none⟩)) ∧ (w2.alloc o).cell? ⟨lb, lo, none⟩ = some (.string lt)) := fun o =>
                ⟨(World.cell?_alloc_lt w2 _ _ (by exact hqw)).trans x0, (World.cell?_alloc_lt w2 _ _ (by exact hqw)).trans x23, (World.cell?_alloc_lt w2 _ _ (by show tb < _; omega)).trans htc, (World.cell?_alloc_lt w2 _ _ (by exact hqw)).trans x24, (World.cell?_alloc_lt w2 _ _ (by show lb < _; omega)).trans hlc⟩
              have HA : Hid _ := hal
              have ha2 : ∀ o, (w2.alloc o).cell? ⟨W.heap.size, 3, none⟩ = some (.slice ak cc.length pk) := fun o => (World.cell?_alloc_lt w2 _ _ (by show W.heap.size < _; omega)).trans f2
              clear hal
              refine wpAnyH_take (i := 0) (v := ?_) rfl (by kernel_rfl) (by kernel_rfl) (by kernel_rfl) (fun _ _ _ h => h) (Or.inl ⟨by rfl, ?_⟩) hSd ?_
              rotate_left
              · intro wz hSw
                obtain ⟨s0, s1, s2, s3, s4⟩ := hSw
                go_simp
                try rfl
              try simp only [Act.put, List.setIfInBounds_toArray, List.set_cons_zero, List.set_cons_succ]
              refine wpAnyH_take (i := 2) (v := ?_) rfl (by kernel_rfl) (by kernel_rfl) (by kernel_rfl) (fun _ _ _ h => h) (Or.inl ⟨by rfl, ?_⟩) hSd ?_
              rotate_left
              · intro wz hSw
                obtain ⟨s0, s1, s2, s3, s4⟩ := hSw
                go_simp
                try rfl
              try simp only [Act.put, List.setIfInBounds_toArray, List.set_cons_zero, List.set_cons_succ]
              refine wpAnyH_take (i := 3) (v := ?_) rfl (by kernel_rfl) (by kernel_rfl) (by kernel_rfl) (fun _ _ _ h => h) (Or.inl ⟨by rfl, ?_⟩) hSd ?_
              rotate_left
              · intro wz hSw
                obtain ⟨s0, s1, s2, s3, s4⟩ := hSw
                go_simp
                try rfl
              try simp only [Act.put, List.setIfInBounds_toArray, List.set_cons_zero, List.set_cons_succ]
              refine wpAnyH_take (i := 4) (v := ?_) rfl (by kernel_rfl) (by kernel_rfl) (by kernel_rfl) (fun _ _ _ h => h) (Or.inl ⟨by rfl, ?_⟩) hSd ?_
              rotate_left
              · intro wz hSw
                obtain ⟨s0, s1, s2, s3, s4⟩ := hSw
                go_simp
                try rfl
              try simp only [Act.put, List.setIfInBounds_toArray, List.set_cons_zero, List.set_cons_succ]
              refine wpAnyH_take (i := 5) (v := ?_) rfl (by kernel_rfl) (by kernel_rfl) (by kernel_rfl) (fun _ _ _ h => h) (Or.inl ⟨by rfl, ?_⟩) hSd ?_
              rotate_left
              · intro wz hSw
                obtain ⟨s0, s1, s2, s3, s4⟩ := hSw
                go_simp
                try rfl
              try simp only [Act.put, List.setIfInBounds_toArray, List.set_cons_zero, List.set_cons_succ]
              refine wpAnyH_take (i := 6) (v := ?_) rfl (by kernel_rfl) (by kernel_rfl) (by kernel_rfl) (fun _ _ _ h => h) (Or.inl ⟨by rfl, ?_⟩) hSd ?_
              rotate_left
              · intro wz hSw
                obtain ⟨s0, s1, s2, s3, s4⟩ := hSw
                go_simp
                try rfl
              try simp only [Act.put, List.setIfInBounds_toArray, List.set_cons_zero, List.set_cons_succ]
              refine wpAnyH_take (i := 7) (v := ?_) rfl (by kernel_rfl) (by kernel_rfl) (by kernel_rfl) (fun _ _ _ h => h) (Or.inl ⟨by rfl, ?_⟩) hSd ?_
              rotate_left
              · intro wz hSw
                obtain ⟨s0, s1, s2, s3, s4⟩ := hSw
                go_simp
                try rfl
              try simp only [Act.put, List.setIfInBounds_toArray, List.set_cons_zero, List.set_cons_succ]
              refine wpAnyH_take (i := 8) (v := ?_) rfl (by kernel_rfl) (by kernel_rfl) (by kernel_rfl) (fun _ _ _ h => h) (Or.inl ⟨by rfl, ?_⟩) hSd ?_
              rotate_left
              · intro wz hSw
                obtain ⟨s0, s1, s2, s3, s4⟩ := hSw
                go_simp
                try rfl
              try simp only [Act.put, List.setIfInBounds_toArray, List.set_cons_zero, List.set_cons_succ]
              refine wpAnyH_take (i := 9) (v := ?_) rfl (by kernel_rfl) (by kernel_rfl) (by kernel_rfl) (fun _ _ _ h => h) (Or.inl ⟨by rfl, ?_⟩) hSd ?_
              rotate_left
              · intro wz hSw
                obtain ⟨s0, s1, s2, s3, s4⟩ := hSw
                go_simp
                try rfl
              try simp only [Act.put, List.setIfInBounds_toArray, List.set_cons_zero, List.set_cons_succ]
              refine wpAnyH_take (i := 10) (v := ?_) rfl (by kernel_rfl) (by kernel_rfl) (by kernel_rfl) (fun _ _ _ h => h) (Or.inl ⟨by rfl, ?_⟩) hSd ?_
              rotate_left
              · intro wz hSw
                obtain ⟨s0, s1, s2, s3, s4⟩ := hSw
                go_simp
                try rfl
              try simp only [Act.put, List.setIfInBounds_toArray, List.set_cons_zero, List.set_cons_succ]
              refine wpAnyH_take (i := 11) (v := ?_) rfl (by kernel_rfl) (by kernel_rfl) (by kernel_rfl) (fun _ _ _ h => h) (Or.inl ⟨by rfl, ?_⟩) hSd ?_
              rotate_left
              · intro wz hSw
                obtain ⟨s0, s1, s2, s3, s4⟩ := hSw
                go_simp
                try rfl
              try simp only [Act.put, List.setIfInBounds_toArray, List.set_cons_zero, List.set_cons_succ]
              refine wpAnyH_take (i := 12) (v := ?_) rfl (by kernel_rfl) (by kernel_rfl) (by kernel_rfl) (fun _ _ _ h => h) (Or.inl ⟨by rfl, ?_⟩) hSd ?_
              rotate_left
              · intro wz hSw
                obtain ⟨s0, s1, s2, s3, s4⟩ := hSw
                go_simp
                try rfl
              try simp only [Act.put, List.setIfInBounds_toArray, List.set_cons_zero, List.set_cons_succ]
              refine wpAnyH_ready (rs := [1, 13]) (by kernel_rfl) (by simp) ?_
              refine AllReadyH.cons rfl (fun K hK => ?_) (AllReadyH.cons rfl (fun K hK => ?_) AllReadyH.nil)
              · go_simp
                refine hK.out _ _ hSd (fun hSd => ?_)
                clear hK K
                try simp only [Act.put, List.setIfInBounds_toArray, List.set_cons_zero, List.set_cons_succ]
                refine wpAnyH_ready (rs := [13]) (by kernel_rfl) (by simp) ?_
                refine AllReadyH.cons rfl (fun K hK => ?_) AllReadyH.nil
                go_simp
                refine hK.out _ _ (HA.out _) (fun hSd => ?_)
                clear hK K
                try simp only [Act.put, List.setIfInBounds_toArray, List.set_cons_zero, List.set_cons_succ]
                refine wpAnyH_ready (rs := [14]) (by kernel_rfl) (by simp) ?_
                refine AllReadyH.cons rfl (fun K hK => ?_) AllReadyH.nil
                refine step_append_lies _ rfl (.tmp 50) (.tmp 62) 32 rfl (W.heap.size + 1) 56 i0 _ 3 48 Try.underlying32 hi hz0 hz1 hz2 rfl (by decide) _ cc.length (cs3 cc) rfl (by exact (HI.out.boxed _).k) ⟨w2.heap.size, 0, none⟩ 1 1 (cells3 (d.describe, tt, lt)) rfl rfl (by exact cells_new w2 (cells3 _) 56) (cells3_one _) (by decide) (by unfold maxLen; omega) (by omega) (by exact (HI.out.boxed _).lo.2.2) _ rfl ?_
                intro g3 cap3 w3 ow gr _ _
                have hN := next_lookup HD.out HT.out.1 HT.out.2.1 HT.out.2.2 (by rw [HC.out, hct.out.1, hct.out.2]; exact (HI.out.boxed _).lookup ow gr)
                have HN : Hid (Next W l col (k + 1) _) := hN
                have f3 : w3.cell? ⟨W.heap.size, 3, none⟩ = some _ := far gr (by omega) (fun j hj => by have := hrow.out.2 j hj; omega) f2
                have z3 : w3.frozen? ⟨W.heap.size, 3, none⟩ = false := far_frozen gr (by omega) (fun j hj => by have := hrow.out.2 j hj; omega) fz2.out
                have hS3 : w3.cell? ⟨q, 0, none⟩ = some (.string d.describe) ∧ w3.cell? ⟨q, 23, none⟩ = some (.pointer (some ⟨tb, tof, none⟩)) ∧ w3.cell? ⟨tb, tof, none⟩ = some (.string tt) ∧ w3.cell? ⟨q, 24, none⟩ = some (.pointer (some ⟨lb, lo, none⟩)) ∧ w3.cell? ⟨lb, lo, none⟩ = some (.string lt) :=
                  ⟨far gr hqw (fun j hj => by have := hrow.out.2 j hj; omega) x0, far gr hqw (fun j hj => by have := hrow.out.2 j hj; omega) x23, far gr (by omega) (fun j hj => by have := hrow.out.2 j hj; omega) htc, far gr hqw (fun j hj => by have := hrow.out.2 j hj; omega) x24, far gr (by omega) (fun j hj => by have := hrow.out.2 j hj; omega) hlc⟩
                clear hN ow gr
                refine hK.out _ _ hS3 (fun hSd => ?_)
                clear hK K
                try simp only [Act.put, List.setIfInBounds_toArray, List.set_cons_zero, List.set_cons_succ]
                refine wpAnyH_take (i := 15) (v := ?_) rfl (by kernel_rfl) (by kernel_rfl) (by kernel_rfl) (fun _ _ _ h => h) (Or.inl ⟨by rfl, ?_⟩) hSd ?_
                rotate_left
                · intro wz hSw
                  obtain ⟨s0, s1, s2, s3, s4⟩ := hSw
                  go_simp
                  try rfl
                try simp only [Act.put, List.setIfInBounds_toArray, List.set_cons_zero, List.set_cons_succ]
                refine wpAnyH_ready (rs := [16]) (by kernel_rfl) (by simp) ?_
                refine AllReadyH.cons rfl (fun K hK => ?_) AllReadyH.nil
                go_simp
                refine hK.out _ _ ⟨(World.cell?_setCell_far _ _ _ _ (by show W.heap.size ≠ q; omega)).trans hSd.1, (World.cell?_setCell_far _ _ _ _ (by show W.heap.size ≠ q; omega)).trans hSd.2.1, (World.cell?_setCell_far _ _ _ _ (by show W.heap.size ≠ tb; omega)).trans hSd.2.2.1, (World.cell?_setCell_far _ _ _ _ (by show W.heap.size ≠ q; omega)).trans hSd.2.2.2.1, (World.cell?_setCell_far _ _ _ _ (by show W.heap.size ≠ lb; omega)).trans hSd.2.2.2.2⟩ (fun hSd => ?_)
                clear hK K
                try simp only [Act.put, List.setIfInBounds_toArray, List.set_cons_zero, List.set_cons_succ]
                refine wpAnyH_done (by kernel_rfl) ?_ _
                clear hSd hS3 f3 z3 HA ha2
                go_wp2
                go_roundw
                case rel =>
                  obtain ⟨au, ac, ak, pu, pc, pk, I3⟩ := HN.out.ex
                  exact ⟨k + 1, au, ac, ak, pu, pc, pk, by omega, by go_num, I3⟩
                case measure => simp [intOf]; omega
              · go_simp
                refine hK.out _ _ (HA.out _) (fun hSd => ?_)
                clear hK K
                try simp only [Act.put, List.setIfInBounds_toArray, List.set_cons_zero, List.set_cons_succ]
                refine wpAnyH_ready (rs := [1]) (by kernel_rfl) (by simp) ?_
                refine AllReadyH.cons rfl (fun K hK => ?_) AllReadyH.nil
                go_simp
                refine hK.out _ _ hSd (fun hSd => ?_)
                clear hK K
                try simp only [Act.put, List.setIfInBounds_toArray, List.set_cons_zero, List.set_cons_succ]
                refine wpAnyH_ready (rs := [14]) (by kernel_rfl) (by simp) ?_
                refine AllReadyH.cons rfl (fun K hK => ?_) AllReadyH.nil
                refine step_append_lies _ rfl (.tmp 50) (.tmp 62) 32 rfl (W.heap.size + 1) 56 i0 _ 3 48 Try.underlying32 hi hz0 hz1 hz2 rfl (by decide) _ cc.length (cs3 cc) rfl (by exact (HI.out.boxed _).k) ⟨w2.heap.size, 0, none⟩ 1 1 (cells3 (d.describe, tt, lt)) rfl rfl (by exact cells_new w2 (cells3 _) 56) (cells3_one _) (by decide) (by unfold maxLen; omega) (by omega) (by exact (HI.out.boxed _).lo.2.2) _ rfl ?_
                intro g3 cap3 w3 ow gr _ _
                have hN := next_lookup HD.out HT.out.1 HT.out.2.1 HT.out.2.2 (by rw [HC.out, hct.out.1, hct.out.2]; exact (HI.out.boxed _).lookup ow gr)
                have HN : Hid (Next W l col (k + 1) _) := hN
                have f3 : w3.cell? ⟨W.heap.size, 3, none⟩ = some _ := far gr (by omega) (fun j hj => by have := hrow.out.2 j hj; omega) f2
                have z3 : w3.frozen? ⟨W.heap.size, 3, none⟩ = false := far_frozen gr (by omega) (fun j hj => by have := hrow.out.2 j hj; omega) fz2.out
                have hS3 : w3.cell? ⟨q, 0, none⟩ = some (.string d.describe) ∧ w3.cell? ⟨q, 23, none⟩ = some (.pointer (some ⟨tb, tof, none⟩)) ∧ w3.cell? ⟨tb, tof, none⟩ = some (.string tt) ∧ w3.cell? ⟨q, 24, none⟩ = some (.pointer (some ⟨lb, lo, none⟩)) ∧ w3.cell? ⟨lb, lo, none⟩ = some (.string lt) :=
                  ⟨far gr hqw (fun j hj => by have := hrow.out.2 j hj; omega) x0, far gr hqw (fun j hj => by have := hrow.out.2 j hj; omega) x23, far gr (by omega) (fun j hj => by have := hrow.out.2 j hj; omega) htc, far gr hqw (fun j hj => by have := hrow.out.2 j hj; omega) x24, far gr (by omega) (fun j hj => by have := hrow.out.2 j hj; omega) hlc⟩
                clear hN ow gr
                refine hK.out _ _ hS3 (fun hSd => ?_)
                clear hK K
                try simp only [Act.put, List.setIfInBounds_toArray, List.set_cons_zero, List.set_cons_succ]
                refine wpAnyH_take (i := 15) (v := ?_) rfl (by kernel_rfl) (by kernel_rfl) (by kernel_rfl) (fun _ _ _ h => h) (Or.inl ⟨by rfl, ?_⟩) hSd ?_
                rotate_left
                · intro wz hSw
                  obtain ⟨s0, s1, s2, s3, s4⟩ := hSw
                  go_simp
                  try rfl
                try simp only [Act.put, List.setIfInBounds_toArray, List.set_cons_zero, List.set_cons_succ]
                refine wpAnyH_ready (rs := [16]) (by kernel_rfl) (by simp) ?_
                refine AllReadyH.cons rfl (fun K hK => ?_) AllReadyH.nil
                go_simp
                refine hK.out _ _ ⟨(World.cell?_setCell_far _ _ _ _ (by show W.heap.size ≠ q; omega)).trans hSd.1, (World.cell?_setCell_far _ _ _ _ (by show W.heap.size ≠ q; omega)).trans hSd.2.1, (World.cell?_setCell_far _ _ _ _ (by show W.heap.size ≠ tb; omega)).trans hSd.2.2.1, (World.cell?_setCell_far _ _ _ _ (by show W.heap.size ≠ q; omega)).trans hSd.2.2.2.1, (World.cell?_setCell_far _ _ _ _ (by show W.heap.size ≠ lb; omega)).trans hSd.2.2.2.2⟩ (fun hSd => ?_)
                clear hK K
                try simp only [Act.put, List.setIfInBounds_toArray, List.set_cons_zero, List.set_cons_succ]
                refine wpAnyH_done (by kernel_rfl) ?_ _
                clear hSd hS3 f3 z3 HA ha2
                go_wp2
                go_roundw
                case rel =>
                  obtain ⟨au, ac, ak, pu, pc, pk, I3⟩ := HN.out.ex
                  exact ⟨k + 1, au, ac, ak, pu, pc, pk, by omega, by go_num, I3⟩
                case measure => simp [intOf]; omega
          · have T := t_check h1 h2 h3
            have h4 : (d.kind.toList == [102]) = false := by rw [beq_iff_eq] at h3; rw [h3]; rfl
            obtain ⟨⟨cb, co, ct⟩, hc⟩ := Option.ne_none_iff_exists'.1 (hok.1 T.2.1)
            obtain ⟨-, hcc, -⟩ := hin2.cond _ hc
            obtain ⟨hcl, -, -⟩ := hinW.out.cond _ hc
            simp only at hcl hcc
            have hct : Hid (ps d.cond = ct) := by show ps d.cond = ct; rw [hc]; rfl
            rw [hc] at x22
            simp only [pv, pa] at x22
            have hcn := cL_len col (l.take k)
            obtain ⟨i0, hi, hz0, hz1, hz2⟩ := info_parts Try.info54
            unfold sCon at h2
            have f2 : w2.cell? ⟨W.heap.size, 2, none⟩ = some (.slice ac (cL col (l.take k)).length pc) := cell_of_row w2 _ 2 _ 34 (0, 0) I2.blk
            have fz2 : Hid (w2.frozen? ⟨W.heap.size, 2, none⟩ = false) := frozen_of_row w2 _ 2 _ 34 I2.blk
            have HI : Hid (CInv W w2 _ _ _ _ _ _ _ _ _ _ _) := I2
            have HT : Hid (d.isUnique = false ∧ d.isCheck = true ∧ d.isLookup = false) := T
            have HD : Hid (l[k]? = some d) := hd
            clear x12 x17 x23 x24 hin2 hok I2 hc T hd
            generalize hcL : cL col (l.take k) = cc at *
            have HC : Hid (cL col (l.take k) = cc) := hcL
            clear hcL
            go_wp2_with fail
            clear x1 x2 x16
            refine wp_region_held_drew (S := fun w' => w'.cell? ⟨q, 0, none⟩ = some (.string d.describe) ∧ w'.cell? ⟨q, 22, none⟩ = some (.pointer (some ⟨cb, co, none⟩)) ∧ w'.cell? ⟨cb, co, none⟩ = some (.string ct)) (by kernel_rfl) ⟨x0, x22, hcc⟩ ?_
            intro hSd
            have hal : ∀ o, ((w2.alloc o).cell? ⟨q, 0, none⟩ = some (.string d.describe) ∧ (w2.alloc o).cell? ⟨q, 22, none⟩ = some (.pointer (some ⟨cb, co, none⟩)) ∧ (w2.alloc o).cell? ⟨cb, co, none⟩ = some (.string ct)) := fun o =>
              ⟨(World.cell?_alloc_lt w2 _ _ (by exact hqw)).trans x0, (World.cell?_alloc_lt w2 _ _ (by exact hqw)).trans x22, (World.cell?_alloc_lt w2 _ _ (by show cb < _; omega)).trans hcc⟩
            have HA : Hid _ := hal
            have ha2 : ∀ o, (w2.alloc o).cell? ⟨W.heap.size, 2, none⟩ = some (.slice ac cc.length pc) := fun o => (World.cell?_alloc_lt w2 _ _ (by show W.heap.size < _; omega)).trans f2
            clear hal
            refine wpAnyH_take (i := 0) (v := ?_) rfl (by kernel_rfl) (by kernel_rfl) (by kernel_rfl) (fun _ _ _ h => h) (Or.inl ⟨by rfl, ?_⟩) hSd ?_
            rotate_left
            · intro wz hSw
              obtain ⟨s0, s1, s2⟩ := hSw
              go_simp
              try rfl
            try simp only [Act.put, List.setIfInBounds_toArray, List.set_cons_zero, List.set_cons_succ]
            refine wpAnyH_take (i := 2) (v := ?_) rfl (by kernel_rfl) (by kernel_rfl) (by kernel_rfl) (fun _ _ _ h => h) (Or.inl ⟨by rfl, ?_⟩) hSd ?_
            rotate_left
            · intro wz hSw
              obtain ⟨s0, s1, s2⟩ := hSw
              go_simp
              try rfl
            try simp only [Act.put, List.setIfInBounds_toArray, List.set_cons_zero, List.set_cons_succ]
            refine wpAnyH_take (i := 3) (v := ?_) rfl (by kernel_rfl) (by kernel_rfl) (by kernel_rfl) (fun _ _ _ h => h) (Or.inl ⟨by rfl, ?_⟩) hSd ?_
            rotate_left
            · intro wz hSw
              obtain ⟨s0, s1, s2⟩ := hSw
              go_simp
              try rfl
            try simp only [Act.put, List.setIfInBounds_toArray, List.set_cons_zero, List.set_cons_succ]
            refine wpAnyH_take (i := 4) (v := ?_) rfl (by kernel_rfl) (by kernel_rfl) (by kernel_rfl) (fun _ _ _ h => h) (Or.inl ⟨by rfl, ?_⟩) hSd ?_
            rotate_left
            · intro wz hSw
              obtain ⟨s0, s1, s2⟩ := hSw
              go_simp
              try rfl
            try simp only [Act.put, List.setIfInBounds_toArray, List.set_cons_zero, List.set_cons_succ]
            refine wpAnyH_take (i := 5) (v := ?_) rfl (by kernel_rfl) (by kernel_rfl) (by kernel_rfl) (fun _ _ _ h => h) (Or.inl ⟨by rfl, ?_⟩) hSd ?_
            rotate_left
            · intro wz hSw
              obtain ⟨s0, s1, s2⟩ := hSw
              go_simp
              try rfl
            try simp only [Act.put, List.setIfInBounds_toArray, List.set_cons_zero, List.set_cons_succ]
            refine wpAnyH_take (i := 6) (v := ?_) rfl (by kernel_rfl) (by kernel_rfl) (by kernel_rfl) (fun _ _ _ h => h) (Or.inl ⟨by rfl, ?_⟩) hSd ?_
            rotate_left
            · intro wz hSw
              obtain ⟨s0, s1, s2⟩ := hSw
              go_simp
              try rfl
            try simp only [Act.put, List.setIfInBounds_toArray, List.set_cons_zero, List.set_cons_succ]
            refine wpAnyH_take (i := 7) (v := ?_) rfl (by kernel_rfl) (by kernel_rfl) (by kernel_rfl) (fun _ _ _ h => h) (Or.inl ⟨by rfl, ?_⟩) hSd ?_
            rotate_left
            · intro wz hSw
              obtain ⟨s0, s1, s2⟩ := hSw
              go_simp
              try rfl
            try simp only [Act.put, List.setIfInBounds_toArray, List.set_cons_zero, List.set_cons_succ]
            refine wpAnyH_take (i := 8) (v := ?_) rfl (by kernel_rfl) (by kernel_rfl) (by kernel_rfl) (fun _ _ _ h => h) (Or.inl ⟨by rfl, ?_⟩) hSd ?_
            rotate_left
            · intro wz hSw
              obtain ⟨s0, s1, s2⟩ := hSw
              go_simp
              try rfl
            try simp only [Act.put, List.setIfInBounds_toArray, List.set_cons_zero, List.set_cons_succ]
            refine wpAnyH_take (i := 9) (v := ?_) rfl (by kernel_rfl) (by kernel_rfl) (by kernel_rfl) (fun _ _ _ h => h) (Or.inl ⟨by rfl, ?_⟩) hSd ?_
            rotate_left
            · intro wz hSw
              obtain ⟨s0, s1, s2⟩ := hSw
              go_simp
              try rfl
            try simp only [Act.put, List.setIfInBounds_toArray, List.set_cons_zero, List.set_cons_succ]
            refine wpAnyH_ready (rs := [1, 10]) (by kernel_rfl) (by simp) ?_
            refine AllReadyH.cons rfl (fun K hK => ?_) (AllReadyH.cons rfl (fun K hK => ?_) AllReadyH.nil)
            · go_simp
              refine hK.out _ _ hSd (fun hSd => ?_)
              clear hK K
              try simp only [Act.put, List.setIfInBounds_toArray, List.set_cons_zero, List.set_cons_succ]
              refine wpAnyH_ready (rs := [10]) (by kernel_rfl) (by simp) ?_
              refine AllReadyH.cons rfl (fun K hK => ?_) AllReadyH.nil
              go_simp
              refine hK.out _ _ (HA.out _) (fun hSd => ?_)
              clear hK K
              try simp only [Act.put, List.setIfInBounds_toArray, List.set_cons_zero, List.set_cons_succ]
              refine wpAnyH_ready (rs := [11]) (by kernel_rfl) (by simp) ?_
              refine AllReadyH.cons rfl (fun K hK => ?_) AllReadyH.nil
              refine step_append_lies _ rfl (.tmp 28) (.tmp 37) 31 rfl (W.heap.size + 1) 54 i0 _ 3 48 Try.underlying31 hi hz0 hz1 hz2 rfl (by decide) _ cc.length (cs3 cc) rfl (by exact (HI.out.boxed _).c) ⟨w2.heap.size, 0, none⟩ 1 1 (cells3 (d.describe, col, ct)) rfl rfl (by exact cells_new w2 (cells3 _) 54) (cells3_one _) (by decide) (by unfold maxLen; omega) (by omega) (by exact (HI.out.boxed _).lo.2.2) _ rfl ?_
              intro g3 cap3 w3 ow gr _ _
              have hN := next_check HD.out HT.out.1 HT.out.2.1 HT.out.2.2 (by rw [HC.out, hct.out]; exact (HI.out.boxed _).check ow gr)
              have HN : Hid (Next W l col (k + 1) _) := hN
              have f3 : w3.cell? ⟨W.heap.size, 2, none⟩ = some _ := far gr (by omega) (fun j hj => by have := hrow.out.1 j hj; omega) f2
              have z3 : w3.frozen? ⟨W.heap.size, 2, none⟩ = false := far_frozen gr (by omega) (fun j hj => by have := hrow.out.1 j hj; omega) fz2.out
              have hS3 : w3.cell? ⟨q, 0, none⟩ = some (.string d.describe) ∧ w3.cell? ⟨q, 22, none⟩ = some (.pointer (some ⟨cb, co, none⟩)) ∧ w3.cell? ⟨cb, co, none⟩ = some (.string ct) :=
                ⟨far gr hqw (fun j hj => by have := hrow.out.1 j hj; omega) x0, far gr hqw (fun j hj => by have := hrow.out.1 j hj; omega) x22, far gr (by omega) (fun j hj => by have := hrow.out.1 j hj; omega) hcc⟩
              clear hN ow gr
              refine hK.out _ _ hS3 (fun hSd => ?_)
              clear hK K
              try simp only [Act.put, List.setIfInBounds_toArray, List.set_cons_zero, List.set_cons_succ]
              refine wpAnyH_take (i := 12) (v := ?_) rfl (by kernel_rfl) (by kernel_rfl) (by kernel_rfl) (fun _ _ _ h => h) (Or.inl ⟨by rfl, ?_⟩) hSd ?_
              rotate_left
              · intro wz hSw
                obtain ⟨s0, s1, s2⟩ := hSw
                go_simp
                try rfl
              try simp only [Act.put, List.setIfInBounds_toArray, List.set_cons_zero, List.set_cons_succ]
              refine wpAnyH_ready (rs := [13]) (by kernel_rfl) (by simp) ?_
              refine AllReadyH.cons rfl (fun K hK => ?_) AllReadyH.nil
              go_simp
              refine hK.out _ _ ⟨(World.cell?_setCell_far _ _ _ _ (by show W.heap.size ≠ q; omega)).trans hSd.1, (World.cell?_setCell_far _ _ _ _ (by show W.heap.size ≠ q; omega)).trans hSd.2.1, (World.cell?_setCell_far _ _ _ _ (by show W.heap.size ≠ cb; omega)).trans hSd.2.2⟩ (fun hSd => ?_)
              clear hK K
              try simp only [Act.put, List.setIfInBounds_toArray, List.set_cons_zero, List.set_cons_succ]
              refine wpAnyH_done (by kernel_rfl) ?_ _
              clear hSd hS3 f3 z3 HA ha2
              go_wp2
              go_roundw
              case rel =>
                obtain ⟨au, ac, ak, pu, pc, pk, I3⟩ := HN.out.ex
                exact ⟨k + 1, au, ac, ak, pu, pc, pk, by omega, by go_num, I3⟩
              case measure => simp [intOf]; omega
            · go_simp
              refine hK.out _ _ (HA.out _) (fun hSd => ?_)
              clear hK K
              try simp only [Act.put, List.setIfInBounds_toArray, List.set_cons_zero, List.set_cons_succ]
              refine wpAnyH_ready (rs := [1]) (by kernel_rfl) (by simp) ?_
              refine AllReadyH.cons rfl (fun K hK => ?_) AllReadyH.nil
              go_simp
              refine hK.out _ _ hSd (fun hSd => ?_)
              clear hK K
              try simp only [Act.put, List.setIfInBounds_toArray, List.set_cons_zero, List.set_cons_succ]
              refine wpAnyH_ready (rs := [11]) (by kernel_rfl) (by simp) ?_
              refine AllReadyH.cons rfl (fun K hK => ?_) AllReadyH.nil
              refine step_append_lies _ rfl (.tmp 28) (.tmp 37) 31 rfl (W.heap.size + 1) 54 i0 _ 3 48 Try.underlying31 hi hz0 hz1 hz2 rfl (by decide) _ cc.length (cs3 cc) rfl (by exact (HI.out.boxed _).c) ⟨w2.heap.size, 0, none⟩ 1 1 (cells3 (d.describe, col, ct)) rfl rfl (by exact cells_new w2 (cells3 _) 54) (cells3_one _) (by decide) (by unfold maxLen; omega) (by omega) (by exact (HI.out.boxed _).lo.2.2) _ rfl ?_
              intro g3 cap3 w3 ow gr _ _
              have hN := next_check HD.out HT.out.1 HT.out.2.1 HT.out.2.2 (by rw [HC.out, hct.out]; exact (HI.out.boxed _).check ow gr)
              have HN : Hid (Next W l col (k + 1) _) := hN
              have f3 : w3.cell? ⟨W.heap.size, 2, none⟩ = some _ := far gr (by omega) (fun j hj => by have := hrow.out.1 j hj; omega) f2
              have z3 : w3.frozen? ⟨W.heap.size, 2, none⟩ = false := far_frozen gr (by omega) (fun j hj => by have := hrow.out.1 j hj; omega) fz2.out
              have hS3 : w3.cell? ⟨q, 0, none⟩ = some (.string d.describe) ∧ w3.cell? ⟨q, 22, none⟩ = some (.pointer (some ⟨cb, co, none⟩)) ∧ w3.cell? ⟨cb, co, none⟩ = some (.string ct) :=
                ⟨far gr hqw (fun j hj => by have := hrow.out.1 j hj; omega) x0, far gr hqw (fun j hj => by have := hrow.out.1 j hj; omega) x22, far gr (by omega) (fun j hj => by have := hrow.out.1 j hj; omega) hcc⟩
              clear hN ow gr
              refine hK.out _ _ hS3 (fun hSd => ?_)
              clear hK K
              try simp only [Act.put, List.setIfInBounds_toArray, List.set_cons_zero, List.set_cons_succ]
              refine wpAnyH_take (i := 12) (v := ?_) rfl (by kernel_rfl) (by kernel_rfl) (by kernel_rfl) (fun _ _ _ h => h) (Or.inl ⟨by rfl, ?_⟩) hSd ?_
              rotate_left
              · intro wz hSw
                obtain ⟨s0, s1, s2⟩ := hSw
                go_simp
                try rfl
              try simp only [Act.put, List.setIfInBounds_toArray, List.set_cons_zero, List.set_cons_succ]
              refine wpAnyH_ready (rs := [13]) (by kernel_rfl) (by simp) ?_
              refine AllReadyH.cons rfl (fun K hK => ?_) AllReadyH.nil
              go_simp
              refine hK.out _ _ ⟨(World.cell?_setCell_far _ _ _ _ (by show W.heap.size ≠ q; omega)).trans hSd.1, (World.cell?_setCell_far _ _ _ _ (by show W.heap.size ≠ q; omega)).trans hSd.2.1, (World.cell?_setCell_far _ _ _ _ (by show W.heap.size ≠ cb; omega)).trans hSd.2.2⟩ (fun hSd => ?_)
              clear hK K
              try simp only [Act.put, List.setIfInBounds_toArray, List.set_cons_zero, List.set_cons_succ]
              refine wpAnyH_done (by kernel_rfl) ?_ _
              clear hSd hS3 f3 z3 HA ha2
              go_wp2
              go_roundw
              case rel =>
                obtain ⟨au, ac, ak, pu, pc, pk, I3⟩ := HN.out.ex
                exact ⟨k + 1, au, ac, ak, pu, pc, pk, by omega, by go_num, I3⟩
              case measure => simp [intOf]; omega
    · have hkn : l.take k = l := List.take_of_length_le (by have := HL.out; omega)
      rw [hkn] at I
      have b0 : wr.heap[w.heap.size]? = some Z34 := (I.below.block _ (by have := HWs.out; omega)).trans hWc.out
      have f0 : wr.cell? ⟨w.heap.size, 0, none⟩ = some (.bool false) := cell_of_row wr _ 0 _ 34 (0, 0) b0
      have f1 : wr.cell? ⟨w.heap.size, 1, none⟩ = some (.slice none 0 0) := cell_of_row wr _ 1 _ 34 (0, 0) b0
      have f2 : wr.cell? ⟨w.heap.size, 2, none⟩ = some (.slice none 0 0) := cell_of_row wr _ 2 _ 34 (0, 0) b0
      have f3 : wr.cell? ⟨w.heap.size, 3, none⟩ = some (.slice none 0 0) := cell_of_row wr _ 3 _ 34 (0, 0) b0
      have x0 : wr.cell? ⟨W.heap.size, 0, none⟩ = some (.bool false) := cell_of_row wr _ 0 _ 34 (0, 0) I.blk
      have x1 : wr.cell? ⟨W.heap.size, 1, none⟩ = some (.slice au (uL l).length pu) := cell_of_row wr _ 1 _ 34 (0, 0) I.blk
      have x2 : wr.cell? ⟨W.heap.size, 2, none⟩ = some (.slice ac (cL col l).length pc) := cell_of_row wr _ 2 _ 34 (0, 0) I.blk
      have x3 : wr.cell? ⟨W.heap.size, 3, none⟩ = some (.slice ak (kL l).length pk) := cell_of_row wr _ 3 _ 34 (0, 0) I.blk
      have HI : Hid (CInv W wr _ _ _ _ _ _ _ _ _ _ _) := I
      have hsz : w.heap.size < wr.heap.size := (Array.getElem?_eq_some_iff.1 b0).1
      have B0 : Hid (wr.heap[w.heap.size]? = some Z34) := b0
      clear hkn I b0
      generalize hU : uL l = U at *
      generalize hC : cL col l = C at *
      generalize hK : kL l = KK at *
      have HU : Hid (uL l = U) := hU
      have HC : Hid (cL col l = C) := hC
      have HK : Hid (kL l = KK) := hK
      clear hU hC hK
      go_wp2_with (first
        | (show wpList _ _ _ (⟨_, Op.store 34 (.tmp 4) (.tmp 109), _, _, _, _⟩ :: _) _ _; refine wpList_store_row rfl 34 (.tmp 4) (.tmp 109) rfl w.heap.size #[.bool false, .slice au U.length pu, .slice ac C.length pc, .slice ak KK.length pk] rfl rfl 34 #[.bool false, .slice none 0 0, .slice none 0 0, .slice none 0 0] (by exact B0.out) Try.size34 rfl (four_one _ _ _ _ _ _ _ _ _) ?_))
      obtain ⟨fs4, H34⟩ := Try.under34
      refine bodyPost_ret (v := .agg #[.bool false, .slice au U.length pu, .slice ac C.length pc, .slice ak KK.length pk]) (results_cell_row Try.results26 _ _ w.heap.size 34 _ (0, 0) _ rfl (setRow_heap _ _ _ _ 34 (0, 0) B0.out) H34 rfl Try.size34) rfl ?_
      have hfin := ans_fin (cs := #[.bool false, .slice au U.length pu, .slice ac C.length pc, .slice ak KK.length pk]) HWs.out hWb.out HI.out
      show Said3 w (uL l) (cL col l) (kL l) _ _
      rw [HU.out, HC.out, HK.out]
      exact hfin

end Go.Proofs.Qxb6616268a
