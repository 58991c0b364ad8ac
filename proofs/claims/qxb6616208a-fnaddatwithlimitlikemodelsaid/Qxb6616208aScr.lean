/-
  The script as plain data; the law's bounds on it: zzAdd (14), zzElemsBytes (10), zzScriptBytes (17), zzBytes (16).
-/
import Derived.Test.Qxb6616208aPdu
namespace Go.Proofs.Qxb6616208a
open Go.RowKit
set_option linter.unusedVariables false
set_option linter.unusedSimpArgs false

/-- nine cells of a ZPDU from place o on -/
structure ZAt (w : World) (b o : Nat) (x : Pd) (ea : Option Addr) (ec : Nat) : Prop where
  c0 : w.cell? ⟨b, o, none⟩ = some (.string x.smsc)
  c1 : w.cell? ⟨b, o + 1, none⟩ = some (.int .i64 x.typ)
  c2 : w.cell? ⟨b, o + 2, none⟩ = some (.int .u8 x.fton)
  c3 : w.cell? ⟨b, o + 3, none⟩ = some (.int .u8 x.fnpi)
  c4 : w.cell? ⟨b, o + 4, none⟩ = some (.string x.fnum)
  c5 : w.cell? ⟨b, o + 5, none⟩ = some (.int .u8 x.tton)
  c6 : w.cell? ⟨b, o + 6, none⟩ = some (.int .u8 x.tnpi)
  c7 : w.cell? ⟨b, o + 7, none⟩ = some (.string x.tnum)
  c8 : w.cell? ⟨b, o + 8, none⟩ = some (.slice ea x.els.length ec)

theorem ZAt.below {w w' : World} {b o : Nat} {x : Pd} {ea : Option Addr} {ec : Nat} (h : ZAt w b o x ea ec) (hl : b < w.heap.size) (hb : Below w.heap.size w w') : ZAt w' b o x ea ec := by
  have g : ∀ o, w'.cell? ⟨b, o, none⟩ = w.cell? ⟨b, o, none⟩ := fun o => hb.cell (by exact hl)
  exact ⟨(g _).trans h.c0, (g _).trans h.c1, (g _).trans h.c2, (g _).trans h.c3, (g _).trans h.c4, (g _).trans h.c5, (g _).trans h.c6, (g _).trans h.c7, (g _).trans h.c8⟩

/-- what a value of that type can be -/
structure Pd.Ok (x : Pd) : Prop where
  typ : -9223372036854775808 ≤ x.typ ∧ x.typ < 9223372036854775808
  fton : 0 ≤ x.fton ∧ x.fton < 256
  fnpi : 0 ≤ x.fnpi ∧ x.fnpi < 256
  tton : 0 ≤ x.tton ∧ x.tton < 256
  tnpi : 0 ≤ x.tnpi ∧ x.tnpi < 256
  s0 : x.smsc.size ≤ maxLen
  s1 : x.fnum.size ≤ maxLen
  s2 : x.tnum.size ≤ maxLen
  len : x.els.length ≤ maxLen

/-- the script that came in -/
def Scr (w : World) (sa : Option Addr) (l : List Pd) : Prop :=
  ∀ (i : Nat) (x : Pd), l[i]? = some x → ∃ b off ea ec, sa = some ⟨b, off, none⟩ ∧ b < w.heap.size ∧ ZAt w b (off + i * 9) x ea ec ∧ Els w ea x.els ∧ x.Ok ∧ (ea = none → x.els.length = 0 ∧ ec = 0)

theorem Scr.below {w w' : World} {sa : Option Addr} {l : List Pd} (h : Scr w sa l) (hb : Below w.heap.size w w') : Scr w' sa l := by
  intro i x hx
  obtain ⟨b, off, ea, ec, e, h1, h2, h3, h4, h5⟩ := h i x hx
  exact ⟨b, off, ea, ec, e, Nat.lt_of_lt_of_le h1 hb.size, h2.below h1 hb, h3.below hb, h4, h5⟩

/-- within the law's bounds -/
def Pd.Small (x : Pd) : Prop := x.els.length ≤ 1048576 ∧ ∀ e ∈ x.els, e.2.length ≤ 1048576

/-- some bool comes back -/
def AnyBool (e : Ending) : Prop := ∃ r, e = .returned (.bool r)
def TrueThen (e : Ending) (p : Prop) : Prop := e = .returned (.bool true) → p

def AnyInt (e : Ending) : Prop := ∃ z : Int, e = .returned (.int .i64 z)

set_option maxHeartbeats 400000 in
theorem zzAdd_any (a b : Int) (w : World) : Calls Try.prog 14 #[.int .i64 a, .int .i64 b] w fun e w' => AnyInt e ∧ w = w' := by
  by_cases h1 : a > 1048576
  · go_enter Try.func14, Try.ntmps14
    go_wp2
    go_ret
    exact ⟨⟨_, rfl⟩, rfl⟩
  · by_cases h2 : b > 1048576
    · go_enter Try.func14, Try.ntmps14
      go_wp2
      go_ret
      exact ⟨⟨_, rfl⟩, rfl⟩
    · go_enter Try.func14, Try.ntmps14
      go_wp2
      go_ret
      exact ⟨⟨_, rfl⟩, rfl⟩

set_option maxHeartbeats 1000000 in
theorem zzElemsBytes_any (ea : Option Addr) (n cap : Nat) (es : List El) (sum : Int) (w : World) (hn : Hid (es.length = n)) (hl : n ≤ maxLen) (hE : Hid (Els w ea es)) :
    Calls Try.prog 10 #[.slice ea n cap, .int .i64 sum] w fun e w' => AnyInt e ∧ w = w' := by
  unfold maxLen at hl
  go_enter Try.func10, Try.ntmps10
  go_wp2
  go_loop [1, 5] (fun v i => ∃ (j : Nat) (z : Int), j ≤ n ∧ i = .int .i64 j ∧ v = .int .i64 z) (fun _ i => n - (intOf i).toNat)
  case atStart => exact ⟨0, _, Nat.zero_le _, rfl, rfl⟩
  case round =>
    obtain ⟨j, z, hj, rfl, rfl⟩ := hrel
    by_cases hlt : j < n
    · obtain ⟨⟨id, d⟩, hd⟩ : ∃ x, es[j]? = some x := ⟨_, List.getElem?_eq_getElem (by have := hn.out; omega)⟩
      obtain ⟨b, off, a, nd, cp, rfl, hbl, c1, c2, hid, hdl, hnl, hB, hnil⟩ := hE.out j id d hd
      have hjn : (j : Int) < n := by omega
      unfold maxLen at hnl
      clear hB hnil hdl hd
      go_wp2_with fail
      refine (zzAdd_any z 32 w).mono ?_
      rintro e w' ⟨⟨z1, rfl⟩, rfl⟩
      go_wp2_with fail
      refine (zzAdd_any z1 nd w).mono ?_
      rintro e w' ⟨⟨z2, rfl⟩, rfl⟩
      by_cases hz : z2 > 1048576
      · go_wp2
        go_ret
        exact ⟨⟨_, rfl⟩, rfl⟩
      · go_wp2
        go_round
        case rel => exact ⟨j + 1, _, by omega, by go_num, rfl⟩
        case measure => simp [intOf]; omega
    · go_wp2
      go_ret
      exact ⟨⟨_, rfl⟩, rfl⟩

set_option maxHeartbeats 2000000 in
theorem zzScriptBytes_any (sa : Option Addr) (n cap : Nat) (l : List Pd) (w : World) (hn : Hid (l.length = n)) (hl : n ≤ maxLen) (hS : Hid (Scr w sa l)) :
    Calls Try.prog 17 #[.slice sa n cap] w fun e w' => AnyInt e ∧ w = w' := by
  unfold maxLen at hl
  go_enter Try.func17, Try.ntmps17
  go_wp2
  go_loop [3, 4] (fun v i => ∃ (j : Nat) (z : Int), j ≤ n ∧ i = .int .i64 j ∧ v = .int .i64 z) (fun _ i => n - (intOf i).toNat)
  case atStart => exact ⟨0, _, Nat.zero_le _, rfl, rfl⟩
  case round =>
    obtain ⟨j, z, hj, rfl, rfl⟩ := hrel
    by_cases hlt : j < n
    · obtain ⟨x, hd⟩ : ∃ x, l[j]? = some x := ⟨_, List.getElem?_eq_getElem (by have := hn.out; omega)⟩
      obtain ⟨b, off, ea, ec, rfl, hbl, hz, hE, hok, hnil⟩ := hS.out j x hd
      obtain ⟨c0, c1, c2, c3, c4, c5, c6, c7, c8⟩ := hz
      have hjn : (j : Int) < n := by omega
      have s0 := hok.s0
      have s1 := hok.s1
      have s2 := hok.s2
      have s3 := hok.len
      have HE : Hid (Els w ea x.els) := hE
      unfold maxLen at s0 s1 s2 s3
      clear hE hnil hok hd
      go_wp2_with fail
      refine (zzAdd_any z 96 w).mono ?_
      rintro e w' ⟨⟨z1, rfl⟩, rfl⟩
      go_wp2_with fail
      refine (zzAdd_any z1 x.smsc.size w).mono ?_
      rintro e w' ⟨⟨z2, rfl⟩, rfl⟩
      go_wp2_with fail
      refine (zzAdd_any z2 x.fnum.size w).mono ?_
      rintro e w' ⟨⟨z3, rfl⟩, rfl⟩
      go_wp2_with fail
      refine (zzAdd_any z3 x.tnum.size w).mono ?_
      rintro e w' ⟨⟨z4, rfl⟩, rfl⟩
      go_wp2_with fail
      refine (zzElemsBytes_any ea x.els.length ec x.els z4 w rfl (by unfold maxLen; omega) HE).mono ?_
      rintro e w' ⟨⟨z5, rfl⟩, rfl⟩
      by_cases hz : z5 > 1048576
      · go_wp2
        go_ret
        exact ⟨⟨_, rfl⟩, rfl⟩
      · go_wp2
        go_round
        case rel => exact ⟨j + 1, _, by omega, by go_num, rfl⟩
        case measure => simp [intOf]; omega
    · go_wp2
      go_ret
      exact ⟨⟨_, rfl⟩, rfl⟩

set_option maxHeartbeats 4000000 in
set_option maxRecDepth 100000 in
theorem zzBytes16_any (sa : Option Addr) (n cap : Nat) (l : List Pd) (w : World) (hn : Hid (l.length = n)) (hl : n ≤ maxLen) (hS : Hid (Scr w sa l)) :
    Calls Try.prog 16 #[.slice sa n cap] w fun e w' => AnyBool e ∧ TrueThen e (∀ x ∈ l, x.Small) ∧ w = w' := by
  unfold maxLen at hl
  by_cases hn0 : n > 1048576
  · go_enter Try.func16, Try.ntmps16
    go_wp2
    go_ret
    exact ⟨⟨_, rfl⟩, fun h => (by cases h), rfl⟩
  · go_enter Try.func16, Try.ntmps16
    have hn0b : decide ((1048576 : Int) < n) = false := by simp; omega
    go_wp2
    go_loop [3, 4, 5] (fun v i _ => ∃ (j : Nat) (z : Int), j ≤ n ∧ i = .int .i64 j ∧ v = .int .i64 z ∧ (0 ≤ z ∧ z ≤ 1048576) ∧ Hid (∀ i' x, i' < j → l[i']? = some x → x.Small)) (fun _ i _ => n - (intOf i).toNat)
    case atStart => exact ⟨0, _, Nat.zero_le _, rfl, rfl, by constructor <;> omega, fun i' x h => by omega⟩
    case round =>
      obtain ⟨j, z, hj, rfl, rfl, hz01, hno⟩ := hrel
      by_cases hlt : j < n
      · obtain ⟨x, hd⟩ : ∃ x, l[j]? = some x := ⟨_, List.getElem?_eq_getElem (by have := hn.out; omega)⟩
        obtain ⟨b, off, ea, ec, rfl, hbl, hz, hE, hok, hnil⟩ := hS.out j x hd
        obtain ⟨c0, c1, c2, c3, c4, c5, c6, c7, c8⟩ := hz
        have hjn : (j : Int) < n := by omega
        have s0 := hok.s0
        have s1 := hok.s1
        have s2 := hok.s2
        have s3 := hok.len
        have HE : Hid (Els w ea x.els) := hE
        have HD : Hid (l[j]? = some x) := hd
        unfold maxLen at s0 s1 s2 s3
        clear hE hnil hok hd
        by_cases t0 : (x.smsc.size : Int) > 1048576
        · go_wp2
          go_ret
          exact ⟨⟨_, rfl⟩, fun h => (by cases h), rfl⟩
        · skip
          by_cases t1 : z + x.smsc.size > 1048576
          · go_wp2
            go_ret
            exact ⟨⟨_, rfl⟩, fun h => (by cases h), rfl⟩
          · skip
            by_cases t2 : (x.fnum.size : Int) > 1048576
            · go_wp2
              go_ret
              exact ⟨⟨_, rfl⟩, fun h => (by cases h), rfl⟩
            · skip
              by_cases t3 : z + x.smsc.size + x.fnum.size > 1048576
              · go_wp2
                go_ret
                exact ⟨⟨_, rfl⟩, fun h => (by cases h), rfl⟩
              · skip
                by_cases t4 : (x.tnum.size : Int) > 1048576
                · go_wp2
                  go_ret
                  exact ⟨⟨_, rfl⟩, fun h => (by cases h), rfl⟩
                · skip
                  by_cases t5 : z + x.smsc.size + x.fnum.size + x.tnum.size > 1048576
                  · go_wp2
                    go_ret
                    exact ⟨⟨_, rfl⟩, fun h => (by cases h), rfl⟩
                  · skip
                    by_cases t6 : (x.els.length : Int) > 1048576
                    · go_wp2
                      go_ret
                      exact ⟨⟨_, rfl⟩, fun h => (by cases h), rfl⟩
                    · skip
                      by_cases t7 : z + x.smsc.size + x.fnum.size + x.tnum.size + x.els.length > 1048576
                      · go_wp2
                        go_ret
                        exact ⟨⟨_, rfl⟩, fun h => (by cases h), rfl⟩
                      · skip
                        go_wp2
                        clear c0 c1 c2 c3 c4 c5 c6 c7
                        generalize hz1 : z + x.smsc.size + x.fnum.size + x.tnum.size + x.els.length = z1 at *
                        have hz1b : 0 ≤ z1 ∧ z1 ≤ 1048576 := by omega
                        clear hz1 t0 t1 t2 t3 t4 t5 t7 s0 s1 s2
                        go_loop [3, 5] (fun v i => ∃ (m : Nat) (z : Int), m ≤ x.els.length ∧ i = .int .i64 m ∧ v = .int .i64 z ∧ (0 ≤ z ∧ z ≤ 1048576) ∧ Hid (∀ m' id d, m' < m → x.els[m']? = some (id, d) → d.length ≤ 1048576)) (fun _ i => x.els.length - (intOf i).toNat)
                        case atStart => exact ⟨0, _, Nat.zero_le _, rfl, rfl, hz1b, fun m' id d h => by omega⟩
                        case round =>
                          obtain ⟨m, z2, hm, rfl, rfl, hz2, hmo⟩ := hrel
                          by_cases hml : m < x.els.length
                          · obtain ⟨⟨id, d⟩, hd⟩ : ∃ y, x.els[m]? = some y := ⟨_, List.getElem?_eq_getElem hml⟩
                            obtain ⟨b2, off2, a, nd, cp, rfl, hbl2, e1, e2, hid, hdl, hnl, hB, hnil⟩ := HE.out m id d hd
                            have hmn : (m : Int) < (x.els.length : Nat) := by omega
                            have HDD : Hid (x.els[m]? = some (id, d) ∧ d.length = nd) := ⟨hd, hdl⟩
                            unfold maxLen at hnl
                            clear hB hnil hdl hd
                            by_cases u0 : (nd : Int) > 1048576
                            · go_wp2
                              go_ret
                              exact ⟨⟨_, rfl⟩, fun h => (by cases h), rfl⟩
                            · by_cases u1 : z2 + nd > 1048576
                              · go_wp2
                                go_ret
                                exact ⟨⟨_, rfl⟩, fun h => (by cases h), rfl⟩
                              · have hmo2 : Hid (∀ m' id d, m' < m + 1 → x.els[m']? = some (id, d) → d.length ≤ 1048576) := fun m' id' d' h1 h2 => by
                                  rcases Nat.lt_or_ge m' m with h | h
                                  · exact hmo.out m' id' d' h h2
                                  · obtain rfl : m' = m := by omega
                                    rw [HDD.out.1] at h2; cases h2
                                    rw [HDD.out.2]; omega
                                clear hmo
                                go_wp2
                                go_round
                                case rel => exact ⟨m + 1, _, by omega, by go_num, rfl, by omega, hmo2⟩
                                case measure => simp [intOf]; omega
                          · have hno2 : Hid (∀ i' x', i' < j + 1 → l[i']? = some x' → x'.Small) := fun i' x' h1 h2 => by
                              rcases Nat.lt_or_ge i' j with h | h
                              · exact hno.out i' x' h h2
                              · obtain rfl : i' = j := by omega
                                rw [HD.out] at h2; cases h2
                                refine ⟨by omega, fun e he => ?_⟩
                                obtain ⟨m', hm'⟩ := List.mem_iff_getElem?.1 he
                                exact hmo.out m' e.1 e.2 (by have := (List.getElem?_eq_some_iff.1 hm').1; omega) hm'
                            clear hno hmo
                            go_wp2
                            go_round
                            case rel => exact ⟨j + 1, _, by omega, by go_num, rfl, by omega, hno2⟩
                            case measure => simp [intOf]; omega
      · have HA : Hid (∀ x ∈ l, x.Small) := fun x hx => by
          obtain ⟨i', hi'⟩ := List.mem_iff_getElem?.1 hx
          exact hno.out i' x (by have := (List.getElem?_eq_some_iff.1 hi').1; have := hn.out; omega) hi'
        clear hno
        go_wp2
        go_ret
        exact ⟨⟨_, rfl⟩, fun _ => HA.out, rfl⟩

end Go.Proofs.Qxb6616208a
