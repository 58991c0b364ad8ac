/-
  zzKeyOf (45), zzHasPart (46).
-/
import Derived.Test.Qxb6616208aPdu
namespace Go.Proofs.Qxb6616208a
open Go.RowKit
set_option linter.unusedVariables false
set_option linter.unusedSimpArgs false

set_option maxHeartbeats 2000000 in
set_option maxRecDepth 100000 in
theorem zzKeyOf_any (x : Pd) (ea : Option Addr) (n cap : Nat) (w : World) (hn : x.els.length = n) (hl : n ≤ 1048576) (hE : Hid (Els w ea x.els)) :
    Calls Try.prog 45 #[.agg #[.string x.smsc, .int .i64 x.typ, .int .u8 x.fton, .int .u8 x.fnpi, .string x.fnum, .int .u8 x.tton, .int .u8 x.tnpi, .string x.tnum, .slice ea n cap]] w fun e w' => e = .returned (keyOut x.key) ∧ Below w.heap.size w w' := by
  have HN : Hid (x.els.length = n) := hn
  clear hn
  go_enter Try.func45, Try.ntmps45
  go_wp2
  have HB0 : Hid (∀ o1 o2, Below w.heap.size w ((w.alloc o1).alloc o2)) := fun o1 o2 => ((Below.refl _ _).alloc (Nat.le_refl _) _).alloc (by simp) _
  go_loopw [5] (fun i wr => ∃ j : Nat, j ≤ n ∧ i = .int .i64 j ∧ Hid (fcon (x.els.drop j) = fcon x.els) ∧ Hid (Below w.heap.size w wr) ∧ Hid (wr.heap[w.heap.size]? = some (.cells #[.string x.smsc, .int .i64 x.typ, .int .u8 x.fton, .int .u8 x.fnpi, .string x.fnum, .int .u8 x.tton, .int .u8 x.tnpi, .string x.tnum, .slice ea n cap] 79)) ∧ Hid (wr.heap[w.heap.size + 1]? = some (.cells #[.int .i64 0, .int .u8 0, .int .u8 0, .string ByteArray.empty, .int .i64 0, .int .i64 0] 73))) (fun i _ => n - (intOf i).toNat)
  case atStart => exact ⟨0, Nat.zero_le _, rfl, rfl, HB0.out _ _, heap_alloc2_old _ _ _, heap_alloc2_new _ _ _⟩
  case round =>
    obtain ⟨j, hj, rfl, hf, hbw, hx', hh'⟩ := hrel
    have hx := hx'.out
    have hh := hh'.out
    clear HB0
    have hS1 : w.heap.size + 1 < wr.heap.size := (Array.getElem?_eq_some_iff.1 hh).1
    have z8 : wr.cell? ⟨w.heap.size, 8, none⟩ = some (.slice ea n cap) := cell_of_row _ _ _ _ _ _ hx
    by_cases hlt : j < n
    · obtain ⟨⟨id, d⟩, hd⟩ : ∃ y, x.els[j]? = some y := ⟨_, List.getElem?_eq_getElem (by have := HN.out; omega)⟩
      obtain ⟨b, off, a, nd, cp, rfl, hbl, c1, c2, hid, hdl, hnl, hB, hnil⟩ := hE.out j id d hd
      rw [← hbw.out.cell (by exact hbl)] at c1 c2
      have hjn : (j : Int) < n := by omega
      have HB : Hid (Bytes wr a d) := hB.below hbw.out
      have HS : Hid (fcon (x.els.drop j) = fcon x.els ∧ fcon (x.els.drop j) = match conc id d with | some y => some y | none => fcon (x.els.drop (j + 1))) := ⟨hf, fcon_drop hd⟩
      clear hB hf hnil hx hh hd
      go_wp2_with fail
      refine (zzConcat_any id a nd cp d wr hid hdl hnl HB).mono ?_
      rintro e w1 ⟨rfl, hb1⟩
      have hbW : Hid (Below w.heap.size w w1) := hbw.out.trans (hb1.mono hbw.out.size)
      have hx : w1.heap[w.heap.size]? = some (.cells #[.string x.smsc, .int .i64 x.typ, .int .u8 x.fton, .int .u8 x.fnpi, .string x.fnum, .int .u8 x.tton, .int .u8 x.tnpi, .string x.tnum, .slice (some ⟨b, off, none⟩) n cap] 79) := (hb1.block _ (by omega)).trans hx'.out
      have hh : w1.heap[w.heap.size + 1]? = some (.cells #[.int .i64 0, .int .u8 0, .int .u8 0, .string ByteArray.empty, .int .i64 0, .int .i64 0] 73) := (hb1.block _ hS1).trans hh'.out
      have hS2 : w.heap.size + 1 < w1.heap.size := (Array.getElem?_eq_some_iff.1 hh).1
      clear hb1 hbw HB c1 c2 hx' hh' hS1 z8
      cases hq : conc id d with
      | none =>
        have H1 : Hid (fcon (x.els.drop (j + 1)) = fcon x.els) := by
          have h := HS.out.2
          rw [hq] at h
          exact h.symm.trans HS.out.1
        have HX : Hid (w1.heap[w.heap.size]? = some (.cells #[.string x.smsc, .int .i64 x.typ, .int .u8 x.fton, .int .u8 x.fnpi, .string x.fnum, .int .u8 x.tton, .int .u8 x.tnpi, .string x.tnum, .slice (some ⟨b, off, none⟩) n cap] 79) ∧ w1.heap[w.heap.size + 1]? = some (.cells #[.int .i64 0, .int .u8 0, .int .u8 0, .string ByteArray.empty, .int .i64 0, .int .i64 0] 73)) := ⟨hx, hh⟩
        clear HS hq hx hh
        simp only [concOut]
        go_wp2
        go_roundw
        case rel => exact ⟨j + 1, by omega, by go_num, H1, hbW, HX.out.1, HX.out.2⟩
        case measure => simp [intOf]; omega
      | some y =>
        obtain ⟨r, t, p⟩ := y
        have H1 : Hid (fcon x.els = some (r, t, p)) := by
          have h := HS.out.2
          rw [hq] at h
          exact HS.out.1.symm.trans h
        clear HS hq
        simp only [concOut]
        have k0 : w1.cell? ⟨w.heap.size + 1, 0, none⟩ = some (.int .i64 0) := cell_of_row _ _ _ _ _ _ hh
        have k1 : w1.cell? ⟨w.heap.size + 1, 1, none⟩ = some (.int .u8 0) := cell_of_row _ _ _ _ _ _ hh
        have k2 : w1.cell? ⟨w.heap.size + 1, 2, none⟩ = some (.int .u8 0) := cell_of_row _ _ _ _ _ _ hh
        have k3 : w1.cell? ⟨w.heap.size + 1, 3, none⟩ = some (.string ByteArray.empty) := cell_of_row _ _ _ _ _ _ hh
        have k4 : w1.cell? ⟨w.heap.size + 1, 4, none⟩ = some (.int .i64 0) := cell_of_row _ _ _ _ _ _ hh
        have k5 : w1.cell? ⟨w.heap.size + 1, 5, none⟩ = some (.int .i64 0) := cell_of_row _ _ _ _ _ _ hh
        have z0 : w1.cell? ⟨w.heap.size, 0, none⟩ = some (.string x.smsc) := cell_of_row _ _ _ _ _ _ hx
        have z1 : w1.cell? ⟨w.heap.size, 1, none⟩ = some (.int .i64 x.typ) := cell_of_row _ _ _ _ _ _ hx
        have z2 : w1.cell? ⟨w.heap.size, 2, none⟩ = some (.int .u8 x.fton) := cell_of_row _ _ _ _ _ _ hx
        have z3 : w1.cell? ⟨w.heap.size, 3, none⟩ = some (.int .u8 x.fnpi) := cell_of_row _ _ _ _ _ _ hx
        have z4 : w1.cell? ⟨w.heap.size, 4, none⟩ = some (.string x.fnum) := cell_of_row _ _ _ _ _ _ hx
        have z5 : w1.cell? ⟨w.heap.size, 5, none⟩ = some (.int .u8 x.tton) := cell_of_row _ _ _ _ _ _ hx
        have z6 : w1.cell? ⟨w.heap.size, 6, none⟩ = some (.int .u8 x.tnpi) := cell_of_row _ _ _ _ _ _ hx
        have z7 : w1.cell? ⟨w.heap.size, 7, none⟩ = some (.string x.tnum) := cell_of_row _ _ _ _ _ _ hx
        have z8 : w1.cell? ⟨w.heap.size, 8, none⟩ = some (.slice (some ⟨b, off, none⟩) n cap) := cell_of_row _ _ _ _ _ _ hx
        have kf : ∀ k, w1.frozen? ⟨w.heap.size + 1, k, none⟩ = false := fun k => by simp [World.frozen?, hh]
        clear hx hh
        have hS0 : w.heap.size < w1.heap.size := by omega
        by_cases hty0 : x.typ = 1
        · have HQ : Hid (x.key = some (⟨x.typ, x.tton, x.tnpi, x.tnum, r, t⟩, p)) := by show x.key = _; unfold Pd.key; rw [H1.out]; simp only []; rw [if_pos hty0]
          have hty : (x.typ == 1) = true := by rw [hty0]; rfl
          clear hty0
          go_wp2
          (try simp only [Exit.inBlock, Exit.then])
          refine bodyPost_ret (v := .tuple #[.agg #[.int .i64 x.typ, .int .u8 x.tton, .int .u8 x.tnpi, .string x.tnum, .int .i64 r, .int .i64 t], .int .i64 p, .bool true]) ?_ rfl ⟨?_, ?_⟩
          · rw [results_cell_tmp_tmp rfl]
            go_simp
          · rw [HQ.out]; rfl
          · repeat' (first | with_reducible exact hbW.out | with_reducible refine Below.drew ?_ | with_reducible refine Below.setCell ?_ (by simp <;> omega) _ | with_reducible refine Below.alloc ?_ (by simp <;> omega) _)
        · have HQ : Hid (x.key = some (⟨x.typ, x.fton, x.fnpi, x.fnum, r, t⟩, p)) := by show x.key = _; unfold Pd.key; rw [H1.out]; simp only []; rw [if_neg hty0]
          have hty : (x.typ == 1) = false := by simp [hty0]
          clear hty0
          go_wp2
          (try simp only [Exit.inBlock, Exit.then])
          refine bodyPost_ret (v := .tuple #[.agg #[.int .i64 x.typ, .int .u8 x.fton, .int .u8 x.fnpi, .string x.fnum, .int .i64 r, .int .i64 t], .int .i64 p, .bool true]) ?_ rfl ⟨?_, ?_⟩
          · rw [results_cell_tmp_tmp rfl]
            go_simp
          · rw [HQ.out]; rfl
          · repeat' (first | with_reducible exact hbW.out | with_reducible refine Below.drew ?_ | with_reducible refine Below.setCell ?_ (by simp <;> omega) _ | with_reducible refine Below.alloc ?_ (by simp <;> omega) _)
    · have HQ : Hid (x.key = none) := by
        have h := hf.out
        rw [List.drop_eq_nil_of_le (by have := HN.out; omega)] at h
        show x.key = none
        unfold Pd.key
        rw [← h]
        rfl
      have hbW : Hid (Below w.heap.size w wr) := hbw
      have k0 : wr.cell? ⟨w.heap.size + 1, 0, none⟩ = some (.int .i64 0) := cell_of_row _ _ _ _ _ _ hh
      have k1 : wr.cell? ⟨w.heap.size + 1, 1, none⟩ = some (.int .u8 0) := cell_of_row _ _ _ _ _ _ hh
      have k2 : wr.cell? ⟨w.heap.size + 1, 2, none⟩ = some (.int .u8 0) := cell_of_row _ _ _ _ _ _ hh
      have k3 : wr.cell? ⟨w.heap.size + 1, 3, none⟩ = some (.string ByteArray.empty) := cell_of_row _ _ _ _ _ _ hh
      have k4 : wr.cell? ⟨w.heap.size + 1, 4, none⟩ = some (.int .i64 0) := cell_of_row _ _ _ _ _ _ hh
      have k5 : wr.cell? ⟨w.heap.size + 1, 5, none⟩ = some (.int .i64 0) := cell_of_row _ _ _ _ _ _ hh
      have z0 : wr.cell? ⟨w.heap.size, 0, none⟩ = some (.string x.smsc) := cell_of_row _ _ _ _ _ _ hx
      have z1 : wr.cell? ⟨w.heap.size, 1, none⟩ = some (.int .i64 x.typ) := cell_of_row _ _ _ _ _ _ hx
      have z2 : wr.cell? ⟨w.heap.size, 2, none⟩ = some (.int .u8 x.fton) := cell_of_row _ _ _ _ _ _ hx
      have z3 : wr.cell? ⟨w.heap.size, 3, none⟩ = some (.int .u8 x.fnpi) := cell_of_row _ _ _ _ _ _ hx
      have z4 : wr.cell? ⟨w.heap.size, 4, none⟩ = some (.string x.fnum) := cell_of_row _ _ _ _ _ _ hx
      have z5 : wr.cell? ⟨w.heap.size, 5, none⟩ = some (.int .u8 x.tton) := cell_of_row _ _ _ _ _ _ hx
      have z6 : wr.cell? ⟨w.heap.size, 6, none⟩ = some (.int .u8 x.tnpi) := cell_of_row _ _ _ _ _ _ hx
      have z7 : wr.cell? ⟨w.heap.size, 7, none⟩ = some (.string x.tnum) := cell_of_row _ _ _ _ _ _ hx
      have z8' : wr.cell? ⟨w.heap.size, 8, none⟩ = some (.slice ea n cap) := cell_of_row _ _ _ _ _ _ hx
      have kf : ∀ k, wr.frozen? ⟨w.heap.size + 1, k, none⟩ = false := fun k => by simp [World.frozen?, hh]
      clear hx hh hf hbw hx' hh' z8'
      go_wp2
      (try simp only [Exit.inBlock, Exit.then])
      refine bodyPost_ret (v := keyOut none) ?_ rfl ⟨?_, ?_⟩
      · rw [results_cell_tmp_tmp rfl]
        go_simp
        rfl
      · rw [HQ.out]
      · repeat' (first | with_reducible exact hbW.out | with_reducible refine Below.drew ?_ | with_reducible refine Below.setCell ?_ (by simp <;> omega) _ | with_reducible refine Below.alloc ?_ (by simp <;> omega) _)

/-- a row of ints -/
def IRow (w : World) (ao : Option Addr) (l : List Int) : Prop := ∀ i z, l[i]? = some z → ∃ b, ao = some ⟨b, 0, none⟩ ∧ w.cell? ⟨b, i, none⟩ = some (.int .i64 z)

def hasI (l : List Int) (part : Int) : Bool := l.any (· == part)
theorem hasI_drop {l : List Int} {part : Int} {j : Nat} {z : Int} (h : l[j]? = some z) : hasI (l.drop j) part = (z == part || hasI (l.drop (j + 1)) part) := by
  obtain ⟨hk, e⟩ := List.getElem?_eq_some_iff.1 h
  rw [List.drop_eq_getElem_cons hk, e]
  simp [hasI]

set_option maxHeartbeats 1000000 in
theorem zzHasPart_any (ao : Option Addr) (n cap : Nat) (l : List Int) (part : Int) (w : World) (hn : l.length = n) (hl : n ≤ 1048576) (hR : Hid (IRow w ao l)) :
    Calls Try.prog 46 #[.slice ao n cap, .int .i64 part] w fun e w' => e = .returned (.bool (hasI l part)) ∧ w = w' := by
  have HN : Hid (l.length = n) := hn
  clear hn
  go_enter Try.func46, Try.ntmps46
  go_wp2
  go_loop [5] (fun i => ∃ j : Nat, j ≤ n ∧ i = .int .i64 j ∧ Hid (hasI (l.drop j) part = hasI l part)) (fun i => n - (intOf i).toNat)
  case atStart => exact ⟨0, Nat.zero_le _, rfl, rfl⟩
  case round =>
    obtain ⟨j, hj, rfl, hf⟩ := hrel
    by_cases hlt : j < n
    · obtain ⟨z, hd⟩ : ∃ x, l[j]? = some x := ⟨_, List.getElem?_eq_getElem (by have := HN.out; omega)⟩
      obtain ⟨b, rfl, c1⟩ := hR.out j z hd
      have hjn : (j : Int) < n := by omega
      have HS : Hid (hasI l part = (z == part || hasI (l.drop (j + 1)) part)) := hf.out.symm.trans (hasI_drop hd)
      clear hf hd
      cases hq : (z == part) with
      | true =>
        have H1 : Hid (hasI l part = true) := by
          have h := HS.out
          rw [hq] at h
          exact h.trans (Bool.true_or _)
        clear HS
        go_wp2
        go_ret
        exact ⟨by rw [H1.out]; rfl, rfl⟩
      | false =>
        have H1 : Hid (hasI (l.drop (j + 1)) part = hasI l part) := by
          have h := HS.out
          rw [hq, Bool.false_or] at h
          exact h.symm
        clear HS
        go_wp2
        go_round
        case rel => exact ⟨j + 1, by omega, by go_num, H1⟩
        case measure => simp [intOf]; omega
    · have H1 : Hid (hasI l part = false) := by
        have h := hf.out
        rw [List.drop_eq_nil_of_le (by have := HN.out; omega)] at h
        exact h.symm
      clear hf
      go_wp2
      go_ret
      exact ⟨by rw [H1.out]; rfl, rfl⟩

end Go.Proofs.Qxb6616208a
