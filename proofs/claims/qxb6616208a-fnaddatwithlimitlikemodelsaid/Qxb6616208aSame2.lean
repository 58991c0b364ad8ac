/-
  zzSameMessage (34) with empty slots; zzSameList (23): where they say true.
-/
import Derived.Test.Qxb6616208aCheck
import Derived.Test.Qxb6616208aZgrp
import Derived.Deep.RegionWith
import Derived.Deep.CutRange
namespace Go.Proofs.Qxb6616208a
open Go.RowKit
set_option linter.unusedVariables false
set_option linter.unusedSimpArgs false

theorem neq32_nil (w : World) : (binOp .neq 32 (.pointer none) (.pointer none)).run Try.prog w = .ok (.bool false) w := by kernel_rfl

/-- the message and the slots agree, empty ones too -/
def Agree2 (w : World) (q sq pg tot n : Nat) : Prop := ∀ i, i < tot → (∃ a p : Nat, a < n ∧ w.cell? ⟨sq, i, none⟩ = some (.int .i64 a) ∧ w.cell? ⟨q, i, none⟩ = some (.pointer (some ⟨p, 0, none⟩)) ∧ w.cell? ⟨pg, a, none⟩ = some (.pointer (some ⟨p, 0, none⟩))) ∨ (w.cell? ⟨sq, i, none⟩ = some (.int .i64 (-1)) ∧ w.cell? ⟨q, i, none⟩ = some (.pointer none))

set_option maxHeartbeats 2000000 in
set_option maxRecDepth 100000 in
theorem zzSame2_any (r q cap sq sc pg n pc tot : Nat) (ref : Int) (w : World) (ht : tot ≤ 1048576) (hn : n ≤ 1048576) (c0 : w.cell? ⟨r, 0, none⟩ = some (.slice (some ⟨q, 0, none⟩) tot cap)) (c1 : w.cell? ⟨r, 1, none⟩ = some (.int .i64 ref)) (hA : Hid (Agree2 w q sq pg tot n)) :
    Calls Try.prog 34 #[.pointer (some ⟨r, 0, none⟩), .int .i64 ref, .slice (some ⟨sq, 0, none⟩) tot sc, .slice (some ⟨pg, 0, none⟩) n pc] w fun e w' => e = .returned (.bool true) ∧ Below w.heap.size w w' := by
  have hne := neq32_same
  have hnn := neq32_nil
  go_enter Try.func34, Try.ntmps34
  go_wp2
  go_loopw [9] (fun i wr => ∃ j : Nat, j ≤ tot ∧ i = .int .i64 j ∧ Hid (∃ m, wr = w.drewN m)) (fun i _ => tot - (intOf i).toNat)
  case atStart => exact ⟨0, Nat.zero_le _, rfl, 0, rfl⟩
  case round =>
    obtain ⟨j, hj, rfl, HM⟩ := hrel
    obtain ⟨m, rfl⟩ := HM.out
    clear HM
    have c0' : (w.drewN m).cell? ⟨r, 0, none⟩ = some (.slice (some ⟨q, 0, none⟩) tot cap) := c0
    by_cases hlt : j < tot
    · have hjn : (j : Int) < tot := by omega
      rcases hA.out j hlt with ⟨a, p, ha, d1, d2, d3⟩ | ⟨d1, d2⟩
      · have d1' : (w.drewN m).cell? ⟨sq, j, none⟩ = some (.int .i64 a) := d1
        have d2' : (w.drewN m).cell? ⟨q, j, none⟩ = some (.pointer (some ⟨p, 0, none⟩)) := d2
        have d3' : (w.drewN m).cell? ⟨pg, a, none⟩ = some (.pointer (some ⟨p, 0, none⟩)) := d3
        have han : (a : Int) < n := by omega
        go_wp2
        go_region
        go_wp2
        go_roundw
        case rel => exact ⟨j + 1, by omega, by go_num, m + 1, rfl⟩
        case measure => simp [intOf]; omega
      · have d1' : (w.drewN m).cell? ⟨sq, j, none⟩ = some (.int .i64 (-1)) := d1
        have d2' : (w.drewN m).cell? ⟨q, j, none⟩ = some (.pointer none) := d2
        go_wp2
        go_roundw
        case rel => exact ⟨j + 1, by omega, by go_num, m, rfl⟩
        case measure => simp [intOf]; omega
    · go_wp2
      go_ret
      exact ⟨rfl, below_drewN (Below.refl _ _) _⟩

/-- a group of the law, and a message handed out, as they are read -/
structure SV (w : World) (mq gq pg np i : Nat) (x : GR) (m q tot cap : Nat) (l : List (Int × Int)) : Prop where
  c : ∀ W, Below w.heap.size w W → W.cell? ⟨mq, i, none⟩ = some (.pointer (some ⟨m, 0, none⟩)) ∧ W.rangeAt gq (i * 9) x.cells ∧ W.cell? ⟨m, 0, none⟩ = some (.slice (some ⟨q, 0, none⟩) tot cap) ∧ W.cell? ⟨m, 1, none⟩ = some (.int .i64 x.key.ref) ∧ IRow W x.pa (l.map (·.1)) ∧ IRow W x.ia (l.map (·.2))
  xn : x.n = l.length
  xm : x.m = l.length
  xt : x.key.tot = tot
  ts : tot ≤ 65536
  ls : l.length ≤ 65536
  rng : ∀ y, y ∈ l → 1 ≤ y.1 ∧ y.1 ≤ tot
  ag : ∀ W, Below w.heap.size w W → ∀ k, k < tot → (∃ a p : Nat, a < np ∧ slotF l k = a ∧ W.cell? ⟨q, k, none⟩ = some (.pointer (some ⟨p, 0, none⟩)) ∧ W.cell? ⟨pg, a, none⟩ = some (.pointer (some ⟨p, 0, none⟩))) ∨ (slotF l k = -1 ∧ W.cell? ⟨q, k, none⟩ = some (.pointer none))

def SVs (w : World) (ma ga : Option Addr) (pg np n : Nat) : Prop := ∀ i, i < n → ∃ mq gq x m q tot cap l, ma = some ⟨mq, 0, none⟩ ∧ ga = some ⟨gq, 0, none⟩ ∧ SV w mq gq pg np i x m q tot cap l

theorem SV.below {w w' : World} {mq gq pg np i : Nat} {x : GR} {m q tot cap : Nat} {l : List (Int × Int)} (h : SV w mq gq pg np i x m q tot cap l) (hb : Below w.heap.size w w') : SV w' mq gq pg np i x m q tot cap l :=
  ⟨fun W hW => h.c W (hb.trans (hW.mono hb.size)), h.xn, h.xm, h.xt, h.ts, h.ls, h.rng, fun W hW => h.ag W (hb.trans (hW.mono hb.size))⟩

set_option maxHeartbeats 4000000 in
set_option maxRecDepth 100000 in
theorem zzSameList_any (ma ga : Option Addr) (n mc gc pg np pc : Nat) (w : World) (hn : n ≤ 65536) (hp : np ≤ 65536) (hS : Hid (SVs w ma ga pg np n)) :
    Calls Try.prog 23 #[.slice ma n mc, .slice ga n gc, .slice (some ⟨pg, 0, none⟩) np pc] w fun e w' => e = .returned (.bool true) ∧ Below w.heap.size w w' := by
  have hnn : ((n : Int) != (n : Int)) = false := by simp
  go_enter Try.func23, Try.ntmps23
  go_wp2
  go_loopw [7] (fun i wr => ∃ j : Nat, j ≤ n ∧ i = .int .i64 j ∧ Hid (Below w.heap.size w wr)) (fun i _ => n - (intOf i).toNat)
  case atStart => exact ⟨0, Nat.zero_le _, rfl, Below.refl _ _⟩
  case round =>
    obtain ⟨j, hj, rfl, HB⟩ := hrel
    by_cases hlt : j < n
    · have hjn : (j : Int) < n := by omega
      obtain ⟨mq, gq, x, m, q, tot, cap, l, rfl, rfl, hV0⟩ := hS.out j hlt
      have HV : Hid (SV wr mq gq pg np j x m q tot cap l) := hV0.below HB.out
      have HW : Hid (∀ W, Below wr.heap.size wr W → W.cell? ⟨mq, j, none⟩ = some (.pointer (some ⟨m, 0, none⟩)) ∧ W.cell? ⟨gq, j * 9 + 4, none⟩ = some (.int .i64 x.key.ref)) := fun W hW => by
        obtain ⟨h1, h2, _⟩ := HV.out.c W hW
        exact ⟨h1, (GR.c h2).2.2.2.2.1⟩
      obtain ⟨c1, hr1, _⟩ := HV.out.c wr (Below.refl _ _)
      obtain ⟨r0, r1, r2, r3, r4, r5, r6, r7, r8⟩ := GR.c hr1
      have HSL : Hid (Calls Try.prog 35 #[.agg #[.int .i64 x.key.typ, .int .u8 x.key.ton, .int .u8 x.key.npi, .string x.key.num, .int .i64 x.key.ref, .int .i64 x.key.tot, .slice x.pa x.n x.pc, .slice x.ia x.m x.ic, .int .i64 x.t]] wr.drew
          fun e w' => ∃ g, e = .returned (.slice (some ⟨g, 0, none⟩) tot tot) ∧ Below wr.heap.size wr w' ∧ Agree2 w' q g pg tot np ∧ w'.cell? ⟨m, 0, none⟩ = some (.slice (some ⟨q, 0, none⟩) tot cap) ∧ w'.cell? ⟨m, 1, none⟩ = some (.int .i64 x.key.ref)) := by
        obtain ⟨_, _, _, _, hp1, hp2⟩ := HV.out.c wr.drew (Below.refl _ _).drew
        have hV := HV.out
        rw [hV.xn, hV.xm]
        refine (zzSlots_any x.key x.t x.pa x.ia l.length x.pc x.ic tot l wr.drew hV.xt hV.ts rfl (by have := hV.ls; omega) hp1 hp2 hV.rng).mono ?_
        rintro e w' ⟨g, rfl, hg, hSr, hb⟩
        have hb' : Below wr.heap.size wr w' := (Below.refl _ _).drew.trans hb
        obtain ⟨_, _, e1, e2, _, _⟩ := hV.c w' hb'
        refine ⟨g, rfl, hb', fun k hk => ?_, e1, e2⟩
        rcases hV.ag w' hb' k hk with ⟨a, p, ha, hs, h1, h2⟩ | ⟨hs, h1⟩
        · exact Or.inl ⟨a, p, ha, by rw [hSr.cell hk, hs], h1, h2⟩
        · exact Or.inr ⟨by rw [hSr.cell hk, hs], h1⟩
      have hts := HV.out.ts
      clear hV0 hr1 HV hS
      go_wp2_with fail
      go_region_with (first | (go_at_call 35; refine HSL.out.mono ?_; rintro e w2 ⟨g, rfl, hb2, hA, m0, m1⟩; have HA : Hid (Agree2 w2 q g pg tot np ∧ Below wr.heap.size wr w2) := ⟨hA, hb2⟩; have c2 := (HW.out w2 hb2).1; have r2 := (HW.out w2 hb2).2; clear hA hb2) | (go_at_call 34; refine (zzSame2_any m q cap g tot pg np pc tot x.key.ref w2 (by omega) (by omega) m0 m1 HA.out.1).mono ?_; rintro e w3 ⟨rfl, hb3⟩))
      all_goals
        have HB3 : Hid (Below w.heap.size w w3) := HB.out.trans ((HA.out.2.trans (hb3.mono HA.out.2.size)).mono HB.out.size)
        clear hb3 HA HB m0 m1
        go_wp2
        go_roundw
        case rel => exact ⟨j + 1, by omega, by go_num, HB3⟩
        case measure => simp [intOf]; omega
    · go_wp2
      go_ret
      exact ⟨rfl, HB.out⟩

end Go.Proofs.Qxb6616208a
