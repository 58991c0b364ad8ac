/-
  PDUs as plain data; concatOf (37), partOf (27).
-/
import Derived.Test.Qxb6616208aRead
namespace Go.Proofs.Qxb6616208a
open Go.RowKit
set_option linter.unusedVariables false
set_option linter.unusedSimpArgs false

/-- an information element: identifier, data -/
abbrev El := Int × List Int

/-- a PDU -/
structure Pd where
  smsc : ByteArray
  typ : Int
  fton : Int
  fnpi : Int
  fnum : ByteArray
  tton : Int
  tnpi : Int
  tnum : ByteArray
  els : List El

/-- a slice of elements (two cells each), read -/
def Els (w : World) (ea : Option Addr) (es : List El) : Prop :=
  ∀ i id d, es[i]? = some (id, d) → ∃ b off a n cap, ea = some ⟨b, off, none⟩ ∧ b < w.heap.size ∧ w.cell? ⟨b, off + i * 2, none⟩ = some (.int .u8 id) ∧ w.cell? ⟨b, off + i * 2 + 1, none⟩ = some (.slice a n cap) ∧
    (0 ≤ id ∧ id < 256) ∧ d.length = n ∧ n ≤ maxLen ∧ Bytes w a d ∧ (a = none → n = 0 ∧ cap = 0)

theorem Els.below {w w' : World} {ea : Option Addr} {es : List El} (h : Els w ea es) (hb : Below w.heap.size w w') : Els w' ea es := by
  intro i id d hd
  obtain ⟨b, off, a, n, cap, e, h1, h2, h3, h4, h5, h6, h7, h8⟩ := h i id d hd
  exact ⟨b, off, a, n, cap, e, Nat.lt_of_lt_of_le h1 hb.size, (hb.cell (by exact h1)).trans h2, (hb.cell (by exact h1)).trans h3, h4, h5, h6, h7.below hb, h8⟩

/-- the first good concatenation element -/
def fcon : List El → Option (Int × Int × Int)
  | [] => none
  | (id, d) :: r => match conc id d with | some x => some x | none => fcon r

/-- a PDU's elements, at block p -/
structure PEl (w : World) (p : Nat) (es : List El) : Prop where
  lt : p < w.heap.size
  els : ∃ ea cap, w.cell? ⟨p, 35, none⟩ = some (.slice ea es.length cap) ∧ Els w ea es
  len : es.length ≤ maxLen

theorem PEl.below {w w' : World} {p : Nat} {es : List El} (h : PEl w p es) (hb : Below w.heap.size w w') : PEl w' p es := by
  obtain ⟨ea, cap, h1, h2⟩ := h.els
  exact ⟨Nat.lt_of_lt_of_le h.lt hb.size, ⟨ea, cap, (hb.cell (by exact h.lt)).trans h1, h2.below hb⟩, h.len⟩

theorem fcon_drop {es : List El} {k : Nat} {id : Int} {d : List Int} (h : es[k]? = some (id, d)) : fcon (es.drop k) = match conc id d with | some x => some x | none => fcon (es.drop (k + 1)) := by
  obtain ⟨hk, e⟩ := List.getElem?_eq_some_iff.1 h
  rw [List.drop_eq_getElem_cons hk, e, fcon]

set_option maxHeartbeats 1000000 in
set_option maxRecDepth 100000 in
theorem concatOf_any (p : Nat) (es : List El) (w : World) (hP : Hid (PEl w p es)) :
    Calls Try.prog 37 #[.pointer (some ⟨p, 0, none⟩)] w fun e w' => e = .returned (ccOut (fcon es)) ∧ Below w.heap.size w w' := by
  obtain ⟨ea, cap, hc, hE⟩ := hP.out.els
  have hpl := hP.out.lt
  have hlen := hP.out.len
  have HE : Hid (Els w ea es) := hE
  clear hP hE
  unfold maxLen at hlen
  have hc' : ∀ o, (w.alloc o).cell? ⟨p, 35, none⟩ = some (.slice ea es.length cap) := fun o => (World.cell?_alloc_lt _ _ _ (by exact hpl)).trans hc
  go_enter Try.func37, Try.ntmps37
  go_wp2
  have hb0 : ∀ o, Below w.heap.size w (w.alloc o) := fun o => (Below.refl _ _).alloc (Nat.le_refl _) _
  go_loopw [13] (fun i wr => ∃ j : Nat, j ≤ es.length ∧ i = .int .i64 j ∧ Hid (fcon (es.drop j) = fcon es) ∧ Below w.heap.size w wr ∧ wr.heap[w.heap.size]? = some (.cells #[.int .i64 0, .int .i64 0, .int .i64 0] 92)) (fun i _ => es.length - (intOf i).toNat)
  case atStart => exact ⟨0, Nat.zero_le _, rfl, rfl, hb0 _, heap_alloc_new _ _⟩
  case round =>
    obtain ⟨j, hj, rfl, hf, hbw, hh⟩ := hrel
    by_cases hlt : j < es.length
    · obtain ⟨⟨id, d⟩, hd⟩ : ∃ x, es[j]? = some x := ⟨es[j], List.getElem?_eq_getElem hlt⟩
      obtain ⟨b, off, a, n, cp, rfl, hbl, c1, c2, hid, hdl, hnl, hB, hnil⟩ := HE.out j id d hd
      rw [← hbw.cell (by exact hbl)] at c1 c2
      have hlt' : (j : Int) < (es.length : Nat) := by omega
      have HB : Hid (Bytes wr a d) := hB.below hbw
      have hstep := fcon_drop hd
      have HS : Hid (fcon (es.drop j) = fcon es ∧ fcon (es.drop j) = match conc id d with | some x => some x | none => fcon (es.drop (j + 1))) := ⟨hf, hstep⟩
      have HX : Hid (Below w.heap.size w wr ∧ wr.heap[w.heap.size]? = some (.cells #[.int .i64 0, .int .i64 0, .int .i64 0] 92)) := ⟨hbw, hh⟩
      clear hB hf hstep hc hc' hb0 hbw hh HE hnil
      go_wp2_with fail
      have HB' : Hid (Bytes (wr.alloc (Obj.cells #[Value.int IntKind.u8 id, Value.slice a n cp] 27)) a d) := HB.out.below ((Below.refl _ _).alloc (Nat.le_refl _) _)
      refine (concat_any id a n cp d _ hid hdl hnl HB').mono ?_
      rintro e w1 ⟨rfl, hb1⟩
      have hb2 : Below wr.heap.size wr w1 := ((Below.refl _ _).alloc (Nat.le_refl _) _).trans (hb1.mono (by simp))
      have hS : w.heap.size < wr.heap.size := (Array.getElem?_eq_some_iff.1 HX.out.2).1
      have hh1 : w1.heap[w.heap.size]? = some (.cells #[.int .i64 0, .int .i64 0, .int .i64 0] 92) := (hb2.block _ hS).trans HX.out.2
      have hbW : Hid (Below w.heap.size w w1) := HX.out.1.trans (hb2.mono HX.out.1.size)
      have hS1 : w.heap.size < w1.heap.size := Nat.lt_of_lt_of_le hS hb2.size
      clear hb1 hb2 HB' HB HX hS c1 c2
      cases hq : conc id d with
      | none =>
        have H1 : Hid (fcon (es.drop (j + 1)) = fcon es) := by
          have h := HS.out.2
          rw [hq] at h
          exact h.symm.trans HS.out.1
        clear HS hq
        simp only [ccOut]
        go_wp2
        go_roundw
        case rel => exact ⟨j + 1, by omega, by go_num, H1, hbW.out.alloc hbW.out.size _, (Below.heap_alloc _ _ _ hS1).trans hh1⟩
        case measure => simp [intOf]; omega
      | some x =>
        obtain ⟨r, t, pt⟩ := x
        have H1 : Hid (fcon es = some (r, t, pt)) := by
          have h := HS.out.2
          rw [hq] at h
          exact HS.out.1.symm.trans h
        clear HS hq
        simp only [ccOut]
        have k0 : w1.cell? ⟨w.heap.size, 0, none⟩ = some (.int .i64 0) := cell_of_row _ _ _ _ _ _ hh1
        have k1 : w1.cell? ⟨w.heap.size, 1, none⟩ = some (.int .i64 0) := cell_of_row _ _ _ _ _ _ hh1
        have k2 : w1.cell? ⟨w.heap.size, 2, none⟩ = some (.int .i64 0) := cell_of_row _ _ _ _ _ _ hh1
        have kf : ∀ k, w1.frozen? ⟨w.heap.size, k, none⟩ = false := fun k => by simp [World.frozen?, hh1]
        clear hh1
        go_wp2
        (try simp only [Exit.inBlock, Exit.then])
        refine bodyPost_ret (v := .tuple #[.agg #[.int .i64 r, .int .i64 t, .int .i64 pt], .bool true]) ?_ rfl ⟨?_, ?_⟩
        · rw [results_cell_tmp rfl]
          go_simp
        · rw [H1.out]; rfl
        · repeat' (first | exact hbW.out | refine Below.drew ?_ | refine Below.setCell ?_ (by simp <;> omega) _ | refine Below.alloc ?_ (by simp <;> omega) _)
    · have hj' : j = es.length := by omega
      subst hj'
      have HN : fcon es = none := by rw [← hf.out, List.drop_length]; rfl
      have hS1 : w.heap.size < wr.heap.size := (Array.getElem?_eq_some_iff.1 hh).1
      have k0 : wr.cell? ⟨w.heap.size, 0, none⟩ = some (.int .i64 0) := cell_of_row _ _ _ _ _ _ hh
      have k1 : wr.cell? ⟨w.heap.size, 1, none⟩ = some (.int .i64 0) := cell_of_row _ _ _ _ _ _ hh
      have k2 : wr.cell? ⟨w.heap.size, 2, none⟩ = some (.int .i64 0) := cell_of_row _ _ _ _ _ _ hh
      have kf : ∀ k, wr.frozen? ⟨w.heap.size, k, none⟩ = false := fun k => by simp [World.frozen?, hh]
      have H1 : Hid (fcon es = none) := HN
      clear hh hf HE hc' hc hb0 HN
      go_wp2
      (try simp only [Exit.inBlock, Exit.then])
      refine bodyPost_ret (v := .tuple #[.agg #[.int .i64 0, .int .i64 0, .int .i64 0], .bool false]) ?_ rfl ⟨?_, ?_⟩
      · rw [results_cell_tmp rfl]
        go_simp
      · rw [H1.out]; rfl
      · repeat' (first | exact hbw | refine Below.drew ?_ | refine Below.setCell ?_ (by simp <;> omega) _ | refine Below.alloc ?_ (by simp <;> omega) _)

/-- the number of a PDU's part -/
def pno (es : List El) : Int := match fcon es with | some (_, _, p) => p | none => 0

set_option maxHeartbeats 1000000 in
theorem partOf_any (p : Nat) (es : List El) (w : World) (hP : Hid (PEl w p es)) :
    Calls Try.prog 27 #[.pointer (some ⟨p, 0, none⟩)] w fun e w' => e = .returned (.int .i64 (pno es)) ∧ Below w.heap.size w w' := by
  go_enter Try.func27, Try.ntmps27
  go_wp2_with fail
  refine (concatOf_any p es w hP).mono ?_
  rintro e w1 ⟨rfl, hb1⟩
  have hb2 : ∀ o, Below w.heap.size w (w1.alloc o) := fun o => hb1.alloc hb1.size _
  cases hq : fcon es with
  | none =>
    have HQ : Hid (pno es = 0) := by show pno es = 0; unfold pno; rw [hq]
    clear hq
    simp only [ccOut]
    go_wp2
    go_ret
    exact ⟨by rw [HQ.out]; rfl, hb2 _⟩
  | some x =>
    obtain ⟨r, t, q⟩ := x
    have HQ : Hid (pno es = q) := by show pno es = q; unfold pno; rw [hq]
    clear hq
    simp only [ccOut]
    go_wp2
    go_ret
    exact ⟨by rw [HQ.out]; rfl, hb2 _⟩

/-- what the parts of one message have in common -/
structure Key where
  typ : Int
  ton : Int
  npi : Int
  num : ByteArray
  ref : Int
  tot : Int

/-- a key as a value: six cells -/
def Key.cells (k : Key) : List Value := [.int .i64 k.typ, .int .u8 k.ton, .int .u8 k.npi, .string k.num, .int .i64 k.ref, .int .i64 k.tot]

/-- its key, and the part's number -/
def Pd.key (x : Pd) : Option (Key × Int) :=
  match fcon x.els with
  | none => none
  | some (r, t, p) => some (if x.typ = 1 then ⟨x.typ, x.tton, x.tnpi, x.tnum, r, t⟩ else ⟨x.typ, x.fton, x.fnpi, x.fnum, r, t⟩, p)

/-- what keyOf and zzKeyOf hand out -/
def keyOut : Option (Key × Int) → Value
  | none => .tuple #[.agg #[.int .i64 0, .int .u8 0, .int .u8 0, .string ByteArray.empty, .int .i64 0, .int .i64 0], .int .i64 0, .bool false]
  | some (k, p) => .tuple #[.agg #[.int .i64 k.typ, .int .u8 k.ton, .int .u8 k.npi, .string k.num, .int .i64 k.ref, .int .i64 k.tot], .int .i64 p, .bool true]

/-- a PDU at block p -/
structure PAt (w : World) (p : Nat) (x : Pd) : Prop where
  el : PEl w p x.els
  c3 : w.cell? ⟨p, 3, none⟩ = some (.int .i64 x.typ)
  c4 : w.cell? ⟨p, 4, none⟩ = some (.int .u8 x.fton)
  c5 : w.cell? ⟨p, 5, none⟩ = some (.int .u8 x.fnpi)
  c6 : w.cell? ⟨p, 6, none⟩ = some (.string x.fnum)
  c10 : w.cell? ⟨p, 10, none⟩ = some (.int .u8 x.tton)
  c11 : w.cell? ⟨p, 11, none⟩ = some (.int .u8 x.tnpi)
  c12 : w.cell? ⟨p, 12, none⟩ = some (.string x.tnum)

theorem PAt.below {w w' : World} {p : Nat} {x : Pd} (h : PAt w p x) (hb : Below w.heap.size w w') : PAt w' p x := by
  have g : ∀ o, w'.cell? ⟨p, o, none⟩ = w.cell? ⟨p, o, none⟩ := fun o => hb.cell (by exact h.el.lt)
  exact ⟨h.el.below hb, (g _).trans h.c3, (g _).trans h.c4, (g _).trans h.c5, (g _).trans h.c6, (g _).trans h.c10, (g _).trans h.c11, (g _).trans h.c12⟩

theorem results_cell_tmp_tmp {fn : Func} {p u v : Tmp} {ty : TypeId} (h : fn.results = #[.cell p ty, .tmp u, .tmp v]) (tmps : Array Value) (P : Program) (w : World) :
    (results fn tmps).run P w =
      ((asAddr (tmps.getD p undef)).run P w).andThen fun a w₁ => ((loadVar ty a).run P w₁).andThen fun x w₂ => .ok (.tuple #[x, tmps.getD u undef, tmps.getD v undef]) w₂ := by
  simp only [results, h]
  simp [Sem.run_bind, Result.andThen]

set_option maxHeartbeats 1000000 in
set_option maxRecDepth 100000 in
theorem keyOf_any (p : Nat) (x : Pd) (w : World) (hP : Hid (PAt w p x)) :
    Calls Try.prog 39 #[.pointer (some ⟨p, 0, none⟩)] w fun e w' => e = .returned (keyOut x.key) ∧ Below w.heap.size w w' := by
  obtain ⟨hel, c3, c4, c5, c6, c10, c11, c12⟩ := hP.out
  have HE : Hid (PEl w p x.els) := hel
  have hpl := hel.lt
  clear hP hel
  go_enter Try.func39, Try.ntmps39
  go_wp2_with fail
  have HE' : Hid (PEl (w.alloc (Obj.cells #[.int .i64 0, .int .u8 0, .int .u8 0, .string ByteArray.empty, .int .i64 0, .int .i64 0] 97)) p x.els) := HE.out.below ((Below.refl _ _).alloc (Nat.le_refl _) _)
  refine (concatOf_any p x.els _ HE').mono ?_
  rintro e w1 ⟨rfl, hb1⟩
  have hb2 : Below w.heap.size w w1 := ((Below.refl _ _).alloc (Nat.le_refl _) _).trans (hb1.mono (by simp))
  have hh : w1.heap[w.heap.size]? = some (.cells #[.int .i64 0, .int .u8 0, .int .u8 0, .string ByteArray.empty, .int .i64 0, .int .i64 0] 97) := (hb1.block _ (by simp)).trans (heap_alloc_new _ _)
  have hS : w.heap.size < w1.heap.size := (Array.getElem?_eq_some_iff.1 hh).1
  have hp1 : p < w1.heap.size := Nat.lt_of_lt_of_le hpl hb2.size
  have k0 : w1.cell? ⟨w.heap.size, 0, none⟩ = some (.int .i64 0) := cell_of_row _ _ _ _ _ _ hh
  have k1 : w1.cell? ⟨w.heap.size, 1, none⟩ = some (.int .u8 0) := cell_of_row _ _ _ _ _ _ hh
  have k2 : w1.cell? ⟨w.heap.size, 2, none⟩ = some (.int .u8 0) := cell_of_row _ _ _ _ _ _ hh
  have k3 : w1.cell? ⟨w.heap.size, 3, none⟩ = some (.string ByteArray.empty) := cell_of_row _ _ _ _ _ _ hh
  have k4 : w1.cell? ⟨w.heap.size, 4, none⟩ = some (.int .i64 0) := cell_of_row _ _ _ _ _ _ hh
  have k5 : w1.cell? ⟨w.heap.size, 5, none⟩ = some (.int .i64 0) := cell_of_row _ _ _ _ _ _ hh
  have kf : ∀ k, w1.frozen? ⟨w.heap.size, k, none⟩ = false := fun k => by simp [World.frozen?, hh]
  rw [← hb2.cell (by exact hpl)] at c3
  rw [← hb2.cell (by exact hpl)] at c4
  rw [← hb2.cell (by exact hpl)] at c5
  rw [← hb2.cell (by exact hpl)] at c6
  rw [← hb2.cell (by exact hpl)] at c10
  rw [← hb2.cell (by exact hpl)] at c11
  rw [← hb2.cell (by exact hpl)] at c12
  have HB2 : Hid (Below w.heap.size w w1) := hb2
  clear hb1 hb2 hh HE HE'
  cases hq : fcon x.els with
  | none =>
    have HQ : Hid (x.key = none) := by show x.key = none; unfold Pd.key; rw [hq]
    clear hq
    simp only [ccOut]
    go_wp2
    (try simp only [Exit.inBlock, Exit.then])
    refine bodyPost_ret (v := keyOut none) ?_ rfl ⟨?_, ?_⟩
    · rw [results_cell_tmp_tmp rfl]
      go_simp
      rfl
    · rw [HQ.out]
    · repeat' (first | with_reducible exact HB2.out | with_reducible refine Below.drew ?_ | with_reducible refine Below.setCell ?_ (by simp <;> omega) _ | with_reducible refine Below.alloc ?_ (by simp <;> omega) _)
  | some y =>
    obtain ⟨r, t, q⟩ := y
    have gS : ∀ o1 o2 k, ((w1.alloc o1).alloc o2).cell? ⟨w.heap.size, k, none⟩ = w1.cell? ⟨w.heap.size, k, none⟩ := fun o1 o2 k => by
      rw [World.cell?_alloc_lt _ _ _ (by simp; omega), World.cell?_alloc_lt _ _ _ (by exact hS)]
    have gP : ∀ o1 o2 k, ((w1.alloc o1).alloc o2).cell? ⟨p, k, none⟩ = w1.cell? ⟨p, k, none⟩ := fun o1 o2 k => by
      rw [World.cell?_alloc_lt _ _ _ (by simp; omega), World.cell?_alloc_lt _ _ _ (by exact hp1)]
    have gF : ∀ o1 o2 k, ((w1.alloc o1).alloc o2).frozen? ⟨w.heap.size, k, none⟩ = false := fun o1 o2 k => by
      rw [Below.frozen (B := w1.heap.size) (w := w1) (((Below.refl _ _).alloc (Nat.le_refl _) _).alloc (by simp) _) (by exact hS)]; exact kf k
    have m0 : ∀ o1 o2, ((w1.alloc o1).alloc o2).cell? ⟨w.heap.size, 0, none⟩ = some (.int .i64 0) := fun o1 o2 => (gS _ _ _).trans k0
    have m1 : ∀ o1 o2, ((w1.alloc o1).alloc o2).cell? ⟨w.heap.size, 1, none⟩ = some (.int .u8 0) := fun o1 o2 => (gS _ _ _).trans k1
    have m2 : ∀ o1 o2, ((w1.alloc o1).alloc o2).cell? ⟨w.heap.size, 2, none⟩ = some (.int .u8 0) := fun o1 o2 => (gS _ _ _).trans k2
    have m3 : ∀ o1 o2, ((w1.alloc o1).alloc o2).cell? ⟨w.heap.size, 3, none⟩ = some (.string ByteArray.empty) := fun o1 o2 => (gS _ _ _).trans k3
    have m4 : ∀ o1 o2, ((w1.alloc o1).alloc o2).cell? ⟨w.heap.size, 4, none⟩ = some (.int .i64 0) := fun o1 o2 => (gS _ _ _).trans k4
    have m5 : ∀ o1 o2, ((w1.alloc o1).alloc o2).cell? ⟨w.heap.size, 5, none⟩ = some (.int .i64 0) := fun o1 o2 => (gS _ _ _).trans k5
    have m' : ∀ o1 o2, ((w1.alloc o1).alloc o2).cell? ⟨p, 3, none⟩ = some (.int .i64 x.typ) := fun o1 o2 => (gP _ _ _).trans c3
    clear gS gP
    by_cases hty : x.typ = 1
    · have HQ : Hid (x.key = some (⟨x.typ, x.tton, x.tnpi, x.tnum, r, t⟩, q)) := by show x.key = _; unfold Pd.key; rw [hq]; simp only []; rw [if_pos hty]
      have hty : (x.typ == 1) = true := by rw [hty]; rfl
      clear hq
      simp only [ccOut]
      go_wp2
      go_region
      go_wp2
      (try simp only [Exit.inBlock, Exit.then])
      refine bodyPost_ret (v := .tuple #[.agg #[.int .i64 x.typ, .int .u8 x.tton, .int .u8 x.tnpi, .string x.tnum, .int .i64 r, .int .i64 t], .int .i64 q, .bool true]) ?_ rfl ⟨?_, ?_⟩
      · rw [results_cell_tmp_tmp rfl]
        go_simp
      · rw [HQ.out]; rfl
      · repeat' (first | with_reducible exact HB2.out | with_reducible refine Below.drew ?_ | with_reducible refine Below.setCell ?_ (by simp <;> omega) _ | with_reducible refine Below.alloc ?_ (by simp <;> omega) _)
    · have HQ : Hid (x.key = some (⟨x.typ, x.fton, x.fnpi, x.fnum, r, t⟩, q)) := by show x.key = _; unfold Pd.key; rw [hq]; simp only []; rw [if_neg hty]
      have hty : (x.typ == 1) = false := by simp [hty]
      clear hq
      simp only [ccOut]
      go_wp2
      go_region
      go_wp2
      (try simp only [Exit.inBlock, Exit.then])
      refine bodyPost_ret (v := .tuple #[.agg #[.int .i64 x.typ, .int .u8 x.fton, .int .u8 x.fnpi, .string x.fnum, .int .i64 r, .int .i64 t], .int .i64 q, .bool true]) ?_ rfl ⟨?_, ?_⟩
      · rw [results_cell_tmp_tmp rfl]
        go_simp
      · rw [HQ.out]; rfl
      · repeat' (first | with_reducible exact HB2.out | with_reducible refine Below.drew ?_ | with_reducible refine Below.setCell ?_ (by simp <;> omega) _ | with_reducible refine Below.alloc ?_ (by simp <;> omega) _)

end Go.Proofs.Qxb6616208a
