/-
  Element.Concat (50), concatOf (37), partOf (27) once more: draws counted (the sort asks for it).
-/
import Derived.Test.Qxb6616208aPdu
namespace Go.Proofs.Qxb6616208a
open Go.RowKit
set_option linter.unusedVariables false
set_option linter.unusedSimpArgs false

set_option maxHeartbeats 1000000 in
set_option maxRecDepth 100000 in
theorem concat_any2 (id : Int) (a : Option Addr) (n cap : Nat) (d : List Int) (w : World) (hid : 0 ≤ id ∧ id < 256) (hl : d.length = n) (hn : n ≤ maxLen) (hB : Hid (Bytes w a d)) :
    Calls Try.prog 50 #[.agg #[.int .u8 id, .slice a n cap]] w fun e w' => e = .returned (ccOut (conc id d)) ∧ Below w.heap.size w w' ∧ w.drawn ≤ w'.drawn := by
  unfold maxLen at hn
  by_cases c0 : id = 0 ∧ n = 3
  · obtain ⟨rfl, rfl⟩ := c0
    match d, hl with
    | [x, y, z], _ =>
      obtain ⟨b, off, rfl, hb, p0, x0, x1⟩ := hB.out 0 x rfl
      obtain ⟨b', off', e1, _, p1, y0, y1⟩ := hB.out 1 y rfl
      cases e1
      obtain ⟨b', off', e1, _, p2, z0, z1⟩ := hB.out 2 z rfl
      cases e1
      rw [Nat.add_zero] at p0
      have e : conc 0 [x, y, z] = chk x y z := rfl
      rw [e]
      clear e hB
      have g : ∀ o1 o2 o3 k, (((w.alloc o1).alloc o2).alloc o3).cell? ⟨b, k, none⟩ = w.cell? ⟨b, k, none⟩ := fun o1 o2 o3 k => by
        rw [World.cell?_alloc_lt _ _ _ (by simp; omega), World.cell?_alloc_lt _ _ _ (by simp; omega), World.cell?_alloc_lt _ _ _ (by exact hb)]
      have q0 : ∀ o1 o2 o3, (((w.alloc o1).alloc o2).alloc o3).cell? ⟨b, off, none⟩ = some (.int .u8 x) := fun o1 o2 o3 => (g _ _ _ _).trans p0
      have q1 : ∀ o1 o2 o3, (((w.alloc o1).alloc o2).alloc o3).cell? ⟨b, off + 1, none⟩ = some (.int .u8 y) := fun o1 o2 o3 => (g _ _ _ _).trans p1
      have q2 : ∀ o1 o2 o3, (((w.alloc o1).alloc o2).alloc o3).cell? ⟨b, off + 2, none⟩ = some (.int .u8 z) := fun o1 o2 o3 => (g _ _ _ _).trans p2
      clear g p0 p1 p2
      unfold chk
      by_cases h1 : y < 1
      · rw [if_pos (Or.inl h1)]
        have h1' : y = 0 := by omega
        subst h1'
        go_enter Try.func50, Try.ntmps50
        go_wp2
        go_region
        go_wp2
        (try simp only [Exit.inBlock, Exit.then])
        refine bodyPost_ret (v := .tuple #[.agg #[.int .i64 0, .int .i64 0, .int .i64 0], .bool false]) ?_ rfl ⟨rfl, ?_, ?_⟩
        · rw [results_cell_tmp rfl]
          go_simp
        · repeat' (first | exact Below.refl _ _ | refine Below.drew ?_ | refine Below.setCell ?_ (by simp <;> omega) _ | refine Below.alloc ?_ (by simp <;> omega) _)
        · first | exact Nat.le_refl _ | exact Nat.le_succ _
      · by_cases h2 : z < 1
        · rw [if_pos (Or.inr (Or.inl h2))]
          have h1' : z = 0 := by omega
          subst h1'
          go_enter Try.func50, Try.ntmps50
          go_wp2
          go_region
          go_wp2
          (try simp only [Exit.inBlock, Exit.then])
          refine bodyPost_ret (v := .tuple #[.agg #[.int .i64 0, .int .i64 0, .int .i64 0], .bool false]) ?_ rfl ⟨rfl, ?_, ?_⟩
          · rw [results_cell_tmp rfl]
            go_simp
          · repeat' (first | exact Below.refl _ _ | refine Below.drew ?_ | refine Below.setCell ?_ (by simp <;> omega) _ | refine Below.alloc ?_ (by simp <;> omega) _)
          · first | exact Nat.le_refl _ | exact Nat.le_succ _
        · by_cases h3 : y < z
          · rw [if_pos (Or.inr (Or.inr h3))]
            have hy : (y == 0) = false := by simp; omega
            have hz : (z == 0) = false := by simp; omega
            go_enter Try.func50, Try.ntmps50
            go_wp2
            go_region
            go_wp2
            (try simp only [Exit.inBlock, Exit.then])
            refine bodyPost_ret (v := .tuple #[.agg #[.int .i64 0, .int .i64 0, .int .i64 0], .bool false]) ?_ rfl ⟨rfl, ?_, ?_⟩
            · rw [results_cell_tmp rfl]
              go_simp
            · repeat' (first | exact Below.refl _ _ | refine Below.drew ?_ | refine Below.setCell ?_ (by simp <;> omega) _ | refine Below.alloc ?_ (by simp <;> omega) _)
            · first | exact Nat.le_refl _ | exact Nat.le_succ _
          · rw [if_neg (by omega)]
            have hy : (y == 0) = false := by simp; omega
            have hz : (z == 0) = false := by simp; omega
            go_enter Try.func50, Try.ntmps50
            go_wp2
            go_region
            go_wp2
            (try simp only [Exit.inBlock, Exit.then])
            refine bodyPost_ret (v := .tuple #[.agg #[.int .i64 (x), .int .i64 y, .int .i64 z], .bool true]) ?_ rfl ⟨rfl, ?_, ?_⟩
            · rw [results_cell_tmp rfl]
              go_simp
            · repeat' (first | exact Below.refl _ _ | refine Below.drew ?_ | refine Below.setCell ?_ (by simp <;> omega) _ | refine Below.alloc ?_ (by simp <;> omega) _)
            · first | exact Nat.le_refl _ | exact Nat.le_succ _
  · by_cases c1 : id = 8 ∧ n = 4
    · obtain ⟨rfl, rfl⟩ := c1
      match d, hl with
      | [x, x', y, z], _ =>
        obtain ⟨b, off, rfl, hb, p0, x0, x1⟩ := hB.out 0 x rfl
        obtain ⟨b', off', e1, _, p1, y0', y1'⟩ := hB.out 1 x' rfl
        cases e1
        obtain ⟨b', off', e1, _, p2, y0, y1⟩ := hB.out 2 y rfl
        cases e1
        obtain ⟨b', off', e1, _, p3, z0, z1⟩ := hB.out 3 z rfl
        cases e1
        rw [Nat.add_zero] at p0
        have e : conc 8 [x, x', y, z] = chk (x * 256 + x') y z := rfl
        rw [e]
        clear e hB c0
        have hor := or_shift x x' x0 x1 y0' y1'
        have g : ∀ o1 o2 o3 k, (((w.alloc o1).alloc o2).alloc o3).cell? ⟨b, k, none⟩ = w.cell? ⟨b, k, none⟩ := fun o1 o2 o3 k => by
          rw [World.cell?_alloc_lt _ _ _ (by simp; omega), World.cell?_alloc_lt _ _ _ (by simp; omega), World.cell?_alloc_lt _ _ _ (by exact hb)]
        have q0 : ∀ o1 o2 o3, (((w.alloc o1).alloc o2).alloc o3).cell? ⟨b, off, none⟩ = some (.int .u8 x) := fun o1 o2 o3 => (g _ _ _ _).trans p0
        have q1 : ∀ o1 o2 o3, (((w.alloc o1).alloc o2).alloc o3).cell? ⟨b, off + 1, none⟩ = some (.int .u8 x') := fun o1 o2 o3 => (g _ _ _ _).trans p1
        have q2 : ∀ o1 o2 o3, (((w.alloc o1).alloc o2).alloc o3).cell? ⟨b, off + 2, none⟩ = some (.int .u8 y) := fun o1 o2 o3 => (g _ _ _ _).trans p2
        have q3 : ∀ o1 o2 o3, (((w.alloc o1).alloc o2).alloc o3).cell? ⟨b, off + 3, none⟩ = some (.int .u8 z) := fun o1 o2 o3 => (g _ _ _ _).trans p3
        clear g p0 p1 p2 p3
        unfold chk
        by_cases h1 : y < 1
        · rw [if_pos (Or.inl h1)]
          have h1' : y = 0 := by omega
          subst h1'
          go_enter Try.func50, Try.ntmps50
          go_wp2
          go_region
          go_wp2
          (try simp only [Exit.inBlock, Exit.then])
          refine bodyPost_ret (v := .tuple #[.agg #[.int .i64 0, .int .i64 0, .int .i64 0], .bool false]) ?_ rfl ⟨rfl, ?_, ?_⟩
          · rw [results_cell_tmp rfl]
            go_simp
          · repeat' (first | exact Below.refl _ _ | refine Below.drew ?_ | refine Below.setCell ?_ (by simp <;> omega) _ | refine Below.alloc ?_ (by simp <;> omega) _)
          · first | exact Nat.le_refl _ | exact Nat.le_succ _
        · by_cases h2 : z < 1
          · rw [if_pos (Or.inr (Or.inl h2))]
            have h1' : z = 0 := by omega
            subst h1'
            go_enter Try.func50, Try.ntmps50
            go_wp2
            go_region
            go_wp2
            (try simp only [Exit.inBlock, Exit.then])
            refine bodyPost_ret (v := .tuple #[.agg #[.int .i64 0, .int .i64 0, .int .i64 0], .bool false]) ?_ rfl ⟨rfl, ?_, ?_⟩
            · rw [results_cell_tmp rfl]
              go_simp
            · repeat' (first | exact Below.refl _ _ | refine Below.drew ?_ | refine Below.setCell ?_ (by simp <;> omega) _ | refine Below.alloc ?_ (by simp <;> omega) _)
            · first | exact Nat.le_refl _ | exact Nat.le_succ _
          · by_cases h3 : y < z
            · rw [if_pos (Or.inr (Or.inr h3))]
              have hy : (y == 0) = false := by simp; omega
              have hz : (z == 0) = false := by simp; omega
              go_enter Try.func50, Try.ntmps50
              go_wp2
              go_region
              go_wp2
              (try simp only [Exit.inBlock, Exit.then])
              refine bodyPost_ret (v := .tuple #[.agg #[.int .i64 0, .int .i64 0, .int .i64 0], .bool false]) ?_ rfl ⟨rfl, ?_, ?_⟩
              · rw [results_cell_tmp rfl]
                go_simp
              · repeat' (first | exact Below.refl _ _ | refine Below.drew ?_ | refine Below.setCell ?_ (by simp <;> omega) _ | refine Below.alloc ?_ (by simp <;> omega) _)
              · first | exact Nat.le_refl _ | exact Nat.le_succ _
            · rw [if_neg (by omega)]
              have hy : (y == 0) = false := by simp; omega
              have hz : (z == 0) = false := by simp; omega
              go_enter Try.func50, Try.ntmps50
              go_wp2
              go_region
              go_wp2
              (try simp only [Exit.inBlock, Exit.then])
              refine bodyPost_ret (v := .tuple #[.agg #[.int .i64 (x * 256 + x'), .int .i64 y, .int .i64 z], .bool true]) ?_ rfl ⟨rfl, ?_, ?_⟩
              · rw [results_cell_tmp rfl]
                go_simp
              · repeat' (first | exact Below.refl _ _ | refine Below.drew ?_ | refine Below.setCell ?_ (by simp <;> omega) _ | refine Below.alloc ?_ (by simp <;> omega) _)
              · first | exact Nat.le_refl _ | exact Nat.le_succ _
    · have e : conc id d = none := by unfold conc; rw [hl, if_neg c0, if_neg c1]
      rw [e]
      clear e hB
      by_cases h1 : id = 0
      · subst h1
        have h3 : ¬ ((n : Int) = 3) := by omega
        clear c0 c1
        go_enter Try.func50, Try.ntmps50
        go_wp2
        (try simp only [Exit.inBlock, Exit.then])
        refine bodyPost_ret (v := .tuple #[.agg #[.int .i64 0, .int .i64 0, .int .i64 0], .bool false]) ?_ rfl ⟨rfl, ?_, ?_⟩
        · rw [results_cell_tmp rfl]
          go_simp
        · repeat' (first | exact Below.refl _ _ | refine Below.drew ?_ | refine Below.setCell ?_ (by simp <;> omega) _ | refine Below.alloc ?_ (by simp <;> omega) _)
        · first | exact Nat.le_refl _ | exact Nat.le_succ _
      · by_cases h2 : id = 8
        · subst h2
          have h3 : ¬ ((n : Int) = 4) := by omega
          clear c0 c1
          go_enter Try.func50, Try.ntmps50
          go_wp2
          (try simp only [Exit.inBlock, Exit.then])
          refine bodyPost_ret (v := .tuple #[.agg #[.int .i64 0, .int .i64 0, .int .i64 0], .bool false]) ?_ rfl ⟨rfl, ?_, ?_⟩
          · rw [results_cell_tmp rfl]
            go_simp
          · repeat' (first | exact Below.refl _ _ | refine Below.drew ?_ | refine Below.setCell ?_ (by simp <;> omega) _ | refine Below.alloc ?_ (by simp <;> omega) _)
          · first | exact Nat.le_refl _ | exact Nat.le_succ _
        · clear c0 c1
          go_enter Try.func50, Try.ntmps50
          go_wp2
          (try simp only [Exit.inBlock, Exit.then])
          refine bodyPost_ret (v := .tuple #[.agg #[.int .i64 0, .int .i64 0, .int .i64 0], .bool false]) ?_ rfl ⟨rfl, ?_, ?_⟩
          · rw [results_cell_tmp rfl]
            go_simp
          · repeat' (first | exact Below.refl _ _ | refine Below.drew ?_ | refine Below.setCell ?_ (by simp <;> omega) _ | refine Below.alloc ?_ (by simp <;> omega) _)
          · first | exact Nat.le_refl _ | exact Nat.le_succ _


set_option maxHeartbeats 1000000 in
set_option maxRecDepth 100000 in
theorem concatOf_any2 (p : Nat) (es : List El) (w : World) (hP : Hid (PEl w p es)) :
    Calls Try.prog 37 #[.pointer (some ⟨p, 0, none⟩)] w fun e w' => e = .returned (ccOut (fcon es)) ∧ Below w.heap.size w w' ∧ w.drawn ≤ w'.drawn := by
  obtain ⟨ea, cap, hc, hE⟩ := hP.out.els
  have hpl := hP.out.lt
  have hlen := hP.out.len
  have HE : Hid (Els w ea es) := hE
  clear hP hE
  unfold maxLen at hlen
  have hc' : ∀ o, (w.alloc o).cell? ⟨p, 35, none⟩ = some (.slice ea es.length cap) := fun o => (World.cell?_alloc_lt _ _ _ (by exact hpl)).trans hc
  go_enter Try.func37, Try.ntmps37
  go_wp2
  have hb0 : ∀ o, Below w.heap.size w (w.alloc o) := fun o => (Below.refl _ _).alloc (Nat.le_refl _) _
  go_loopw [13] (fun i wr => ∃ j : Nat, j ≤ es.length ∧ i = .int .i64 j ∧ Hid (fcon (es.drop j) = fcon es) ∧ Below w.heap.size w wr ∧ Hid (w.drawn ≤ wr.drawn) ∧ wr.heap[w.heap.size]? = some (.cells #[.int .i64 0, .int .i64 0, .int .i64 0] 92)) (fun i _ => es.length - (intOf i).toNat)
  case atStart => exact ⟨0, Nat.zero_le _, rfl, rfl, hb0 _, Nat.le_refl _, heap_alloc_new _ _⟩
  case round =>
    obtain ⟨j, hj, rfl, hf, hbw, hdw, hh⟩ := hrel
    by_cases hlt : j < es.length
    · obtain ⟨⟨id, d⟩, hd⟩ : ∃ x, es[j]? = some x := ⟨es[j], List.getElem?_eq_getElem hlt⟩
      obtain ⟨b, off, a, n, cp, rfl, hbl, c1, c2, hid, hdl, hnl, hB, hnil⟩ := HE.out j id d hd
      rw [← hbw.cell (by exact hbl)] at c1 c2
      have hlt' : (j : Int) < (es.length : Nat) := by omega
      have HB : Hid (Bytes wr a d) := hB.below hbw
      have hstep := fcon_drop hd
      have HS : Hid (fcon (es.drop j) = fcon es ∧ fcon (es.drop j) = match conc id d with | some x => some x | none => fcon (es.drop (j + 1))) := ⟨hf, hstep⟩
      have HX : Hid (Below w.heap.size w wr ∧ wr.heap[w.heap.size]? = some (.cells #[.int .i64 0, .int .i64 0, .int .i64 0] 92)) := ⟨hbw, hh⟩
      clear hB hf hstep hc hc' hb0 hbw hh HE hnil
      go_wp2_with fail
      have HB' : Hid (Bytes (wr.alloc (Obj.cells #[Value.int IntKind.u8 id, Value.slice a n cp] 27)) a d) := HB.out.below ((Below.refl _ _).alloc (Nat.le_refl _) _)
      refine (concat_any2 id a n cp d _ hid hdl hnl HB').mono ?_
      rintro e w1 ⟨rfl, hb1, hd1⟩
      have hdW : Hid (w.drawn ≤ w1.drawn) := Nat.le_trans hdw.out hd1
      clear hdw hd1
      have hb2 : Below wr.heap.size wr w1 := ((Below.refl _ _).alloc (Nat.le_refl _) _).trans (hb1.mono (by simp))
      have hS : w.heap.size < wr.heap.size := (Array.getElem?_eq_some_iff.1 HX.out.2).1
      have hh1 : w1.heap[w.heap.size]? = some (.cells #[.int .i64 0, .int .i64 0, .int .i64 0] 92) := (hb2.block _ hS).trans HX.out.2
      have hbW : Hid (Below w.heap.size w w1) := HX.out.1.trans (hb2.mono HX.out.1.size)
      have hS1 : w.heap.size < w1.heap.size := Nat.lt_of_lt_of_le hS hb2.size
      clear hb1 hb2 HB' HB HX hS c1 c2
      cases hq : conc id d with
      | none =>
        have H1 : Hid (fcon (es.drop (j + 1)) = fcon es) := by
          have h := HS.out.2
          rw [hq] at h
          exact h.symm.trans HS.out.1
        clear HS hq
        simp only [ccOut]
        go_wp2
        go_roundw
        case rel => exact ⟨j + 1, by omega, by go_num, H1, hbW.out.alloc hbW.out.size _, hdW, (Below.heap_alloc _ _ _ hS1).trans hh1⟩
        case measure => simp [intOf]; omega
      | some x =>
        obtain ⟨r, t, pt⟩ := x
        have H1 : Hid (fcon es = some (r, t, pt)) := by
          have h := HS.out.2
          rw [hq] at h
          exact HS.out.1.symm.trans h
        clear HS hq
        simp only [ccOut]
        have k0 : w1.cell? ⟨w.heap.size, 0, none⟩ = some (.int .i64 0) := cell_of_row _ _ _ _ _ _ hh1
        have k1 : w1.cell? ⟨w.heap.size, 1, none⟩ = some (.int .i64 0) := cell_of_row _ _ _ _ _ _ hh1
        have k2 : w1.cell? ⟨w.heap.size, 2, none⟩ = some (.int .i64 0) := cell_of_row _ _ _ _ _ _ hh1
        have kf : ∀ k, w1.frozen? ⟨w.heap.size, k, none⟩ = false := fun k => by simp [World.frozen?, hh1]
        clear hh1
        go_wp2
        (try simp only [Exit.inBlock, Exit.then])
        refine bodyPost_ret (v := .tuple #[.agg #[.int .i64 r, .int .i64 t, .int .i64 pt], .bool true]) ?_ rfl ⟨?_, ?_, ?_⟩
        · rw [results_cell_tmp rfl]
          go_simp
        · rw [H1.out]; rfl
        · repeat' (first | exact hbW.out | refine Below.drew ?_ | refine Below.setCell ?_ (by simp <;> omega) _ | refine Below.alloc ?_ (by simp <;> omega) _)
        · exact hdW.out
    · have hj' : j = es.length := by omega
      subst hj'
      have HN : fcon es = none := by rw [← hf.out, List.drop_length]; rfl
      have hS1 : w.heap.size < wr.heap.size := (Array.getElem?_eq_some_iff.1 hh).1
      have k0 : wr.cell? ⟨w.heap.size, 0, none⟩ = some (.int .i64 0) := cell_of_row _ _ _ _ _ _ hh
      have k1 : wr.cell? ⟨w.heap.size, 1, none⟩ = some (.int .i64 0) := cell_of_row _ _ _ _ _ _ hh
      have k2 : wr.cell? ⟨w.heap.size, 2, none⟩ = some (.int .i64 0) := cell_of_row _ _ _ _ _ _ hh
      have kf : ∀ k, wr.frozen? ⟨w.heap.size, k, none⟩ = false := fun k => by simp [World.frozen?, hh]
      have H1 : Hid (fcon es = none) := HN
      clear hh hf HE hc' hc hb0 HN
      go_wp2
      (try simp only [Exit.inBlock, Exit.then])
      refine bodyPost_ret (v := .tuple #[.agg #[.int .i64 0, .int .i64 0, .int .i64 0], .bool false]) ?_ rfl ⟨?_, ?_, ?_⟩
      · rw [results_cell_tmp rfl]
        go_simp
      · rw [H1.out]; rfl
      · repeat' (first | exact hbw | refine Below.drew ?_ | refine Below.setCell ?_ (by simp <;> omega) _ | refine Below.alloc ?_ (by simp <;> omega) _)
      · exact hdw.out

set_option maxHeartbeats 1000000 in
theorem partOf_any2 (p : Nat) (es : List El) (w : World) (hP : Hid (PEl w p es)) :
    Calls Try.prog 27 #[.pointer (some ⟨p, 0, none⟩)] w fun e w' => e = .returned (.int .i64 (pno es)) ∧ Below w.heap.size w w' ∧ w.drawn ≤ w'.drawn := by
  go_enter Try.func27, Try.ntmps27
  go_wp2_with fail
  refine (concatOf_any2 p es w hP).mono ?_
  rintro e w1 ⟨rfl, hb1, hd1⟩
  have hD1 : Hid (w.drawn ≤ w1.drawn) := hd1
  clear hd1
  have hb2 : ∀ o, Below w.heap.size w (w1.alloc o) := fun o => hb1.alloc hb1.size _
  cases hq : fcon es with
  | none =>
    have HQ : Hid (pno es = 0) := by show pno es = 0; unfold pno; rw [hq]
    clear hq
    simp only [ccOut]
    go_wp2
    go_ret
    exact ⟨by rw [HQ.out]; rfl, hb2 _, hD1⟩
  | some x =>
    obtain ⟨r, t, q⟩ := x
    have HQ : Hid (pno es = q) := by show pno es = q; unfold pno; rw [hq]
    clear hq
    simp only [ccOut]
    go_wp2
    go_ret
    exact ⟨by rw [HQ.out]; rfl, hb2 _, hD1⟩


end Go.Proofs.Qxb6616208a
