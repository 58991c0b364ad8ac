import Derived.Test.Qxb6616268aZz
import Derived.Test.Qxb6616268aDomain
import Derived.Test.Qxb6616268aTooBig
import Derived.Test.Qxb6616268aBytes
import Derived.Test.Qxb6616268aBuild
namespace Go.Proofs.Qxb6616268a
open Go.RowKit
set_option linter.unusedVariables false
set_option linter.unusedSimpArgs false

def bx (w' : World) (cs : Array Value) : World := (w'.alloc Z34).setRow w'.heap.size cs
theorem a3_bx {B : Nat} {w' : World} {u : List ByteArray} {c k : List S3} {au ac ak : Option Addr} {pu pc pk : Nat} (A : Ans w' B u c k au ac ak pu pc pk) :
    A3 (bx w' #[.bool false, .slice au u.length pu, .slice ac c.length pc, .slice ak k.length pk]) w'.heap.size u c k au ac ak pu pc pk ∧ Below w'.heap.size w' (bx w' #[.bool false, .slice au u.length pu, .slice ac c.length pc, .slice ak k.length pk]) := a3_of A _ rfl

theorem check_any3 (b : Bool) (a1 : Option Addr) (n1 c1 : Nat) (g n2 c2 : Nat) (a3 : Option Addr) (n3 c3 : Nat) (i : Nat) (xa xb xc : ByteArray) (w : World) (hi : i < n2) (hg : g < w.heap.size) (hx : T3 w g (i * 3) (xa, xb, xc)) :
    Calls Try.prog 17 #[.agg #[.bool b, .slice a1 n1 c1, .slice (some ⟨g, 0, none⟩) n2 c2, .slice a3 n3 c3], .int .i64 i] w fun e w' => e = .returned (.tuple #[.string xa, .string xb, .string xc]) ∧ Below w.heap.size w w' := check_any b a1 n1 c1 g n2 c2 a3 n3 c3 i _ w hi hg hx
theorem lookup_any3 (b : Bool) (a1 : Option Addr) (n1 c1 : Nat) (a2 : Option Addr) (n2 c2 : Nat) (g n3 c3 : Nat) (i : Nat) (xa xb xc : ByteArray) (w : World) (hi : i < n3) (hg : g < w.heap.size) (hx : T3 w g (i * 3) (xa, xb, xc)) :
    Calls Try.prog 19 #[.agg #[.bool b, .slice a1 n1 c1, .slice a2 n2 c2, .slice (some ⟨g, 0, none⟩) n3 c3], .int .i64 i] w fun e w' => e = .returned (.tuple #[.string xa, .string xb, .string xc]) ∧ Below w.heap.size w w' := lookup_any b a1 n1 c1 a2 n2 c2 g n3 c3 i _ w hi hg hx
theorem Deps.dropMap {w : World} {ao : Option Addr} {l : List Dp} (h : Deps w ao l) (m : Nat) : Deps w (Option.map (fun x => x.add (m * 9)) ao) (l.drop m) := by
  intro i d hd
  have hd' := hd
  rw [List.getElem?_drop] at hd'
  obtain ⟨b, off, e, _⟩ := h (m + i) d hd'
  subst e
  have := h.drop m i d hd
  simpa [Addr.add_lit] using this
theorem Deps.dropAll {w : World} {l : List Dp} {n m : Nat} (hl : l.length = n) (hm : n ≤ m) (a : Option Addr) : Deps w a (l.drop m) := by
  rw [List.drop_of_length_le (by omega)]; exact Deps.nil _ _

theorem din_of {w : World} {ao : Option Addr} {l : List Dp} (h : Deps w ao l) (ho : ∀ d, d ∈ l → d.Ok) : ∀ d, d ∈ l → DIn w d ∧ d.Ok := fun d hd => by
  obtain ⟨i, hi⟩ := List.getElem?_of_mem hd
  obtain ⟨_, _, _, _, _, h3⟩ := h i d hi
  exact ⟨h3, ho d hd⟩

set_option maxHeartbeats 4000000 in
set_option maxRecDepth 100000 in
theorem main_in (ao : Option Addr) (n cap : Nat) (l : List Dp) (col : ByteArray) (cut : Nat) (w : World) (hp : Hid (col.size ≤ maxLen)) (hl : Hid (l.length = n)) (hn : n ≤ 65536) (hcut : cut ≤ n) (hcap : n ≤ cap) (hcm : cap ≤ maxLen) (hnil : Hid (ao = none → cap = 0)) (hD : Hid (Deps w ao l)) :
    Calls Try.prog 3 #[.slice ao n cap, .string col, .int .i64 cut] w fun e w' => e = .returned (.bool true) ∧ Below w.heap.size w w' := by
  unfold maxLen at hcm
  have c6 : Hid (Calls Try.prog 6 #[.slice ao n cap, .string col, .int .i64 cut] w fun e w' => AnyBool e ∧ w = w') := bytes_any ao n cap l col cut w hp.out hl.out (by unfold maxLen; omega) hD
  have c7 : Hid (Calls Try.prog 7 #[.slice ao n cap, .string col] w fun e w' => AnyBool e ∧ Below w.heap.size w w') := tooBig_any ao n cap l col w hp.out hl.out hn hD
  go_enter Try.func3, Try.ntmps3
  go_wp2_with fail
  refine c6.out.mono ?_
  rintro e w' ⟨⟨r, rfl⟩, rfl⟩
  clear c6
  cases r
  · go_wp2
    go_ret
    exact ⟨rfl, Below.refl _ _⟩
  go_wp2_with fail
  refine c7.out.mono ?_
  rintro e w1 ⟨⟨r, rfl⟩, hb1⟩
  clear c7
  have hD1 : Hid (Deps w1 ao l) := hD.out.below hb1
  cases r
  rotate_left
  · go_wp2
    go_ret
    exact ⟨rfl, hb1⟩
  have c8 : Hid (Calls Try.prog 8 #[.slice ao n cap] w1 fun e w' => Dom l e ∧ Below w1.heap.size w1 w') := inDomain_any ao n cap l w1 hl.out hn hD1
  go_wp2_with fail
  refine c8.out.mono ?_
  rintro e w2 ⟨⟨r, rfl, hr⟩, hb2⟩
  clear c8
  have hb02 : Below w.heap.size w w2 := hb1.trans (hb2.mono hb1.size)
  have hD2 : Hid (Deps w2 ao l) := hD1.out.below hb2
  clear hD hD1 hb1 hb2 w1
  cases r
  · go_wp2
    go_ret
    exact ⟨rfl, hb02⟩
  have HO : Hid (∀ d, d ∈ l → d.Ok) := hr rfl
  clear hr
  go_wp2
  go_loopw [7, 8, 9, 10] (fun a b c i wr => ∃ k : Nat, k ≤ n ∧ i = .int .i64 k ∧ a = .int .i64 ((uL (l.take k)).length : Nat) ∧ b = .int .i64 ((cL col (l.take k)).length : Nat) ∧ c = .int .i64 ((kL (l.take k)).length : Nat) ∧ Below w2.heap.size w2 wr) (fun _ _ _ i _ => n - (intOf i).toNat)
  case atStart => exact ⟨0, Nat.zero_le _, rfl, rfl, rfl, rfl, Below.refl _ _⟩
  case round =>
    obtain ⟨k, hk, rfl, rfl, rfl, rfl, hb⟩ := hrel
    by_cases hlt : k < n
    · obtain ⟨d, hd⟩ : ∃ d, l[k]? = some d := ⟨_, List.getElem?_eq_getElem (by have := hl.out; omega)⟩
      obtain ⟨b, off, rfl, hlb, hat, hin⟩ := hD2.out k d hd
      have hat0 : DAt wr b (off + k * 9) d := hat.below hlb hb
      have hlb0 : b < wr.heap.size := Nat.lt_of_lt_of_le hlb hb.size
      have hrn : Hid (d.rn ≤ maxLen) := hin.rn
      have hkn : (k : Int) < n := by omega
      have hu := uL_len (l.take k)
      have hc := cL_len col (l.take k)
      have hq := kL_len (l.take k)
      rw [List.length_take_of_le (by have := hl.out; omega)] at hu hc hq
      have NU := n_u hd
      have NC := n_c col hd
      have NK := n_k hd
      have T := excl d
      have c9 : Hid (Calls Try.prog 9 #[.agg #[.string d.describe, .string d.catalog, .string d.kind, .bool d.uniq, .slice d.ra d.rn d.rc, pv d.pred, pv d.cond, pv d.lt, pv d.lc]] wr fun e w' => e = .returned (.bool d.isUnique) ∧ Below wr.heap.size wr w') := isUnique_any d wr hrn.out
      clear hin hat hD2 hd
      rcases T with ⟨t1, t2, t3⟩ | ⟨t1, t2, t3⟩ | ⟨t1, t2, t3⟩ | ⟨t1, t2, t3⟩
      all_goals
        rw [t1] at NU
        rw [t2] at NC
        rw [t3] at NK
        simp only [if_true, if_false, Bool.false_eq_true, Nat.add_zero] at NU NC NK
        have HN : Hid (_ ∧ _ ∧ _) := ⟨NU, NC, NK⟩
        clear NU NC NK
        have HT : Hid (_ ∧ _ ∧ _) := ⟨t1, t2, t3⟩
        have HA : Hid (DAt wr b (off + k * 9) d) := hat0
        obtain ⟨x0, x1, x2, x3, x4, x5, x6, x7, x8⟩ := hat0
        clear t1 t2 t3
        go_wp2_with fail
        refine c9.out.mono ?_
        rintro e w3 ⟨rfl, hb3⟩
        rw [HT.out.1]
        have hat1 : DAt w3 b (off + k * 9) d := HA.out.below hlb0 hb3
        have hlb1 : b < w3.heap.size := Nat.lt_of_lt_of_le hlb0 hb3.size
        have hbb3 : Below w2.heap.size w2 w3 := hb.trans (hb3.mono hb.size)
        have HA3 : Hid (DAt w3 b (off + k * 9) d) := hat1
        have c10 : Hid (Calls Try.prog 10 #[.agg #[.string d.describe, .string d.catalog, .string d.kind, .bool d.uniq, .slice d.ra d.rn d.rc, pv d.pred, pv d.cond, pv d.lt, pv d.lc]] w3 fun e w' => e = .returned (.bool d.isCheck) ∧ Below w3.heap.size w3 w') := isCheck_any d w3 hrn.out
        clear x0 x1 x2 x3 x4 x5 x6 x7 x8 c9 HA
        obtain ⟨x0, x1, x2, x3, x4, x5, x6, x7, x8⟩ := hat1
        go_wp2_with fail
        refine c10.out.mono ?_
        rintro e w4 ⟨rfl, hb4⟩
        rw [HT.out.2.1]
        have hat1 : DAt w4 b (off + k * 9) d := HA3.out.below hlb1 hb4
        have hbb4 : Below w2.heap.size w2 w4 := hbb3.trans (hb4.mono hbb3.size)
        have c11 : Hid (Calls Try.prog 11 #[.agg #[.string d.describe, .string d.catalog, .string d.kind, .bool d.uniq, .slice d.ra d.rn d.rc, pv d.pred, pv d.cond, pv d.lt, pv d.lc]] w4 fun e w' => e = .returned (.bool d.isLookup) ∧ Below w4.heap.size w4 w') := isLookup_any d w4 hrn.out
        clear x0 x1 x2 x3 x4 x5 x6 x7 x8 c10 HA3
        obtain ⟨x0, x1, x2, x3, x4, x5, x6, x7, x8⟩ := hat1
        go_wp2_with fail
        refine c11.out.mono ?_
        rintro e w5 ⟨rfl, hb5⟩
        rw [HT.out.2.2]
        have hbb5 : Below w2.heap.size w2 w5 := hbb4.trans (hb5.mono hbb4.size)
        clear x0 x1 x2 x3 x4 x5 x6 x7 x8 c11
        go_wp2
        go_roundw
        case rel => exact ⟨k + 1, by omega, by go_num, (by rw [HN.out.1]; try go_num), (by rw [HN.out.2.1]; try go_num), (by rw [HN.out.2.2]; try go_num), hbb5⟩
        case measure => simp [intOf]; omega
    · have hkn : k = n := by omega
      subst hkn
      rw [List.take_of_length_le (by have := hl.out; omega)]
      have hD3 : Hid (Deps wr ao l) := hD2.out.below hb
      have hb03 : Below w.heap.size w wr := hb02.trans (hb.mono hb02.size)
      have hul := uL_len l
      have hcl := cL_len col l
      have hkl := kL_len l
      rw [hl.out] at hul hcl hkl
      clear hD2 hb hb02 hlt hk
      have hL1 : Hid (l.length = k) := hl
      have hN1 : k ≤ 65536 := hn
      have hD1 : Hid (Deps wr ao l) := hD3
      have hO1 : Hid (∀ d, d ∈ l → d.Ok) := HO
      clear hD3
      -- part 1
      go_wp2_with fail
      refine (build_any ao k cap l wr hL1.out hN1 hD1).mono ?_
      rintro e x1 ⟨g1, rfl, hB1, hx1⟩
      have hI1 : Hid (∀ d, d ∈ l → DIn x1 d ∧ d.Ok) := din_of (hD1.out.below hx1) hO1.out
      have cZ1 : Hid (Calls Try.prog 12 #[.slice (some ⟨g1, 0, none⟩) k k, .string col] x1 fun e w' => Said3 x1 (uL l) (cL col l) (kL l) e w') := zz_any g1 k k l col x1 hL1.out hN1 hB1 hI1
      go_wp2_with fail
      refine cZ1.out.mono ?_
      rintro e y1 ⟨au1, ac1, ak1, pu1, pc1, pk1, rfl, A, hy1⟩
      clear cZ1 hB1 hI1
      have HA1 : Hid _ := (a3_bx A).1
      have hz1 := (a3_bx A).2
      have hby1 : Below wr.heap.size wr y1 := hx1.trans (hy1.mono hx1.size)
      have HBz1 : Hid (Below wr.heap.size wr _) := hby1.trans (hz1.mono hby1.size)
      clear A hx1 hy1 hz1 hby1
      have HE1 : Hid ((y1.alloc Z34).heap[y1.heap.size]? = some Z34) := heap_alloc_new y1 _
      go_wp2_with (first
        | (show wpList _ _ _ (⟨_, Op.store 34 (.tmp 11) (.tmp 88), _, _, _, _⟩ :: _) _ _; refine wpList_store_row rfl 34 (.tmp 11) (.tmp 88) rfl y1.heap.size #[.bool false, .slice au1 (uL l).length pu1, .slice ac1 (cL col l).length pc1, .slice ak1 (kL l).length pk1] rfl rfl 34 #[.bool false, .slice none 0 0, .slice none 0 0, .slice none 0 0] (by exact HE1.out) Try.size34 rfl (four_one _ _ _ _ _ _ _ _ _) ?_))
      change Calls Try.prog 13 _ (bx y1 #[.bool false, .slice au1 (uL l).length pu1, .slice ac1 (cL col l).length pc1, .slice ak1 (kL l).length pk1]) _
      clear HE1
      generalize bx y1 #[.bool false, .slice au1 (uL l).length pu1, .slice ac1 (cL col l).length pc1, .slice ak1 (kL l).length pk1] = w5 at *
      generalize y1.heap.size = S1 at *
      have hD5 : Hid (Deps w5 ao l) := hD1.out.below HBz1.out
      have hb5 : Below w.heap.size w w5 := hb03.trans (HBz1.out.mono hb03.size)
      clear hD1 HBz1 hb03 hL1 hO1
      have hL2 : Hid ((l.take cut).length = cut) := List.length_take_of_le (by rw [hl.out]; exact hcut)
      have hN2 : cut ≤ 65536 := by omega
      have hD2 : Hid (Deps w5 ao (l.take cut)) := hD5.out.take cut
      have hO2 : Hid (∀ d, d ∈ l.take cut → d.Ok) := fun d hd => HO.out d (List.mem_of_mem_take hd)
      -- part 2
      refine (build_any ao cut cap (l.take cut) w5 hL2.out hN2 hD2).mono ?_
      rintro e x2 ⟨g2, rfl, hB2, hx2⟩
      have hI2 : Hid (∀ d, d ∈ (l.take cut) → DIn x2 d ∧ d.Ok) := din_of (hD2.out.below hx2) hO2.out
      have cZ2 : Hid (Calls Try.prog 12 #[.slice (some ⟨g2, 0, none⟩) cut cut, .string col] x2 fun e w' => Said3 x2 (uL (l.take cut)) (cL col (l.take cut)) (kL (l.take cut)) e w') := zz_any g2 cut cut (l.take cut) col x2 hL2.out hN2 hB2 hI2
      go_wp2_with fail
      refine cZ2.out.mono ?_
      rintro e y2 ⟨au2, ac2, ak2, pu2, pc2, pk2, rfl, A, hy2⟩
      clear cZ2 hB2 hI2
      have HA2 : Hid _ := (a3_bx A).1
      have hz2 := (a3_bx A).2
      have hby2 : Below w5.heap.size w5 y2 := hx2.trans (hy2.mono hx2.size)
      have HBz2 : Hid (Below w5.heap.size w5 _) := hby2.trans (hz2.mono hby2.size)
      clear A hx2 hy2 hz2 hby2
      have HE2 : Hid ((y2.alloc Z34).heap[y2.heap.size]? = some Z34) := heap_alloc_new y2 _
      go_wp2_with (first
        | (show wpList _ _ _ (⟨_, Op.store 34 (.tmp 12) (.tmp 94), _, _, _, _⟩ :: _) _ _; refine wpList_store_row rfl 34 (.tmp 12) (.tmp 94) rfl y2.heap.size #[.bool false, .slice au2 (uL (l.take cut)).length pu2, .slice ac2 (cL col (l.take cut)).length pc2, .slice ak2 (kL (l.take cut)).length pk2] rfl rfl 34 #[.bool false, .slice none 0 0, .slice none 0 0, .slice none 0 0] (by exact HE2.out) Try.size34 rfl (four_one _ _ _ _ _ _ _ _ _) ?_))
      all_goals
        change Calls Try.prog 13 _ (bx y2 #[.bool false, .slice au2 (uL (l.take cut)).length pu2, .slice ac2 (cL col (l.take cut)).length pc2, .slice ak2 (kL (l.take cut)).length pk2]) _
        clear HE2
        generalize bx y2 #[.bool false, .slice au2 (uL (l.take cut)).length pu2, .slice ac2 (cL col (l.take cut)).length pc2, .slice ak2 (kL (l.take cut)).length pk2] = w6 at *
        generalize y2.heap.size = S2 at *
        have hD6 : Hid (Deps w6 ao l) := hD5.out.below HBz2.out
        have hb6 : Below w.heap.size w w6 := hb5.trans (HBz2.out.mono hb5.size)
        replace HA1 : Hid (A3 w6 _ _ _ _ _ _ _ _ _ _) := HA1.out.below HBz2.out
        clear hD5 HBz2 hb5 hL2 hO2 hD2
        have hL3 : Hid ((l.drop cut).length = k - cut) := by rw [List.length_drop, hl.out]; exact rfl
        have hN3 : k - cut ≤ 65536 := by omega
        have hO3 : Hid (∀ d, d ∈ l.drop cut → d.Ok) := fun d hd => HO.out d (List.mem_of_mem_drop hd)
        refine (build_any _ (k - cut) _ (l.drop cut) w6 hL3.out hN3 (by first | exact hD6.out.dropMap cut | exact Deps.dropAll hl.out (by omega) _)).mono ?_
        rintro e x3 ⟨g3, rfl, hB3, hx3⟩
        have hI3 : Hid (∀ d, d ∈ (l.drop cut) → DIn x3 d ∧ d.Ok) := fun d hd => din_of (hD6.out.below hx3) HO.out d (List.mem_of_mem_drop hd)
        have cZ3 : Hid (Calls Try.prog 12 #[.slice (some ⟨g3, 0, none⟩) (k - cut) (k - cut), .string col] x3 fun e w' => Said3 x3 (uL (l.drop cut)) (cL col (l.drop cut)) (kL (l.drop cut)) e w') := zz_any g3 (k - cut) (k - cut) (l.drop cut) col x3 hL3.out hN3 hB3 hI3
        go_wp2_with fail
        refine cZ3.out.mono ?_
        rintro e y3 ⟨au3, ac3, ak3, pu3, pc3, pk3, rfl, A, hy3⟩
        clear cZ3 hB3 hI3
        have HA3 : Hid _ := (a3_bx A).1
        have hz3 := (a3_bx A).2
        have hby3 : Below w6.heap.size w6 y3 := hx3.trans (hy3.mono hx3.size)
        have HBz3 : Hid (Below w6.heap.size w6 _) := hby3.trans (hz3.mono hby3.size)
        clear A hx3 hy3 hz3 hby3 hL3 hO3
        have HE3 : Hid ((y3.alloc Z34).heap[y3.heap.size]? = some Z34) := heap_alloc_new y3 _
        replace HA1 : Hid (A3 _ _ _ _ _ _ _ _ _ _ _) := HA1.out.below HBz3.out
        replace HA2 : Hid (A3 _ _ _ _ _ _ _ _ _ _ _) := HA2.out.below HBz3.out
        have hb7 : Hid (Below w.heap.size w _) := hb6.trans (HBz3.out.mono hb6.size)
        have HU : Hid (uL l = uL (l.take cut) ++ uL (l.drop cut)) := by rw [← uL_append, List.take_append_drop]; exact rfl
        have HC : Hid (cL col l = cL col (l.take cut) ++ cL col (l.drop cut)) := by rw [← cL_append, List.take_append_drop]; exact rfl
        have HK : Hid (kL l = kL (l.take cut) ++ kL (l.drop cut)) := by rw [← kL_append, List.take_append_drop]; exact rfl
        clear HBz3 hD6 hb6 HO
        go_wp2_with (first
          | (show wpList _ _ _ (⟨_, Op.store 34 (.tmp 13) (.tmp 100), _, _, _, _⟩ :: _) _ _; refine wpList_store_row rfl 34 (.tmp 13) (.tmp 100) rfl y3.heap.size #[.bool false, .slice au3 (uL (l.drop cut)).length pu3, .slice ac3 (cL col (l.drop cut)).length pc3, .slice ak3 (kL (l.drop cut)).length pk3] rfl rfl 34 #[.bool false, .slice none 0 0, .slice none 0 0, .slice none 0 0] (by exact HE3.out) Try.size34 rfl (four_one _ _ _ _ _ _ _ _ _) ?_; change wpList _ _ _ _ _ (bx y3 #[.bool false, .slice au3 (uL (l.drop cut)).length pu3, .slice ac3 (cL col (l.drop cut)).length pc3, .slice ak3 (kL (l.drop cut)).length pk3]); generalize bx y3 #[.bool false, .slice au3 (uL (l.drop cut)).length pu3, .slice ac3 (cL col (l.drop cut)).length pc3, .slice ak3 (kL (l.drop cut)).length pk3] = w7 at *; generalize y3.heap.size = S3 at *; have f0 := HA1.out.f0; have f1 := HA1.out.f1; have f2 := HA1.out.f2; have f3 := HA1.out.f3))
        clear HE3
        have hU1 := uL_len l
        have hC1 := cL_len col l
        have hK1 := kL_len l
        rw [hl.out] at hU1 hC1 hK1
        generalize uL l = U at *
        generalize cL col l = C at *
        generalize kL l = K at *
        generalize uL (l.take cut) = U1 at *
        generalize cL col (l.take cut) = C1 at *
        generalize kL (l.take cut) = K1 at *
        generalize uL (l.drop cut) = U2 at *
        generalize cL col (l.drop cut) = C2 at *
        generalize kL (l.drop cut) = K2 at *
        have lU : U.length ≤ U1.length + U2.length := by have := congrArg List.length HU.out; simp at this; omega
        have lU' : U1.length + U2.length ≤ U.length := by have := congrArg List.length HU.out; simp at this; omega
        have lC : C.length ≤ C1.length + C2.length := by have := congrArg List.length HC.out; simp at this; omega
        have lC' : C1.length + C2.length ≤ C.length := by have := congrArg List.length HC.out; simp at this; omega
        have lK : K.length ≤ K1.length + K2.length := by have := congrArg List.length HK.out; simp at this; omega
        have lK' : K1.length + K2.length ≤ K.length := by have := congrArg List.length HK.out; simp at this; omega
        refine (notNull_any false (.bool false) (.bool false) (.bool false) au1 U.length pu1 ac1 C.length pc1 ak1 K.length pk1 w7).mono ?_
        rintro e w8 ⟨rfl, hq⟩
        clear f0 f1 f2 f3
        replace HA1 : Hid (A3 w8 _ _ _ _ _ _ _ _ _ _) := HA1.out.below hq
        replace HA2 : Hid (A3 w8 _ _ _ _ _ _ _ _ _ _) := HA2.out.below hq
        replace HA3 : Hid (A3 w8 _ _ _ _ _ _ _ _ _ _) := HA3.out.below hq
        replace hb7 : Hid (Below w.heap.size w w8) := hb7.out.trans (hq.mono hb7.out.size)
        clear hq
        have f0 := HA2.out.f0
        have f1 := HA2.out.f1
        have f2 := HA2.out.f2
        have f3 := HA2.out.f3
        go_wp2_with fail
        refine (notNull_any false (.bool false) (.bool false) (.bool false) au2 U1.length pu2 ac2 C1.length pc2 ak2 K1.length pk2 w8).mono ?_
        rintro e w9 ⟨rfl, hq⟩
        clear f0 f1 f2 f3
        replace HA1 : Hid (A3 w9 _ _ _ _ _ _ _ _ _ _) := HA1.out.below hq
        replace HA2 : Hid (A3 w9 _ _ _ _ _ _ _ _ _ _) := HA2.out.below hq
        replace HA3 : Hid (A3 w9 _ _ _ _ _ _ _ _ _ _) := HA3.out.below hq
        replace hb7 : Hid (Below w.heap.size w w9) := hb7.out.trans (hq.mono hb7.out.size)
        clear hq
        have f0 := HA3.out.f0
        have f1 := HA3.out.f1
        have f2 := HA3.out.f2
        have f3 := HA3.out.f3
        go_wp2_with fail
        refine (notNull_any false (.bool false) (.bool false) (.bool false) au3 U2.length pu3 ac3 C2.length pc3 ak3 K2.length pk3 w9).mono ?_
        rintro e wa ⟨rfl, hq⟩
        clear f0 f1 f2 f3
        replace HA1 : Hid (A3 wa _ _ _ _ _ _ _ _ _ _) := HA1.out.below hq
        replace HA2 : Hid (A3 wa _ _ _ _ _ _ _ _ _ _) := HA2.out.below hq
        replace HA3 : Hid (A3 wa _ _ _ _ _ _ _ _ _ _) := HA3.out.below hq
        replace hb7 : Hid (Below w.heap.size w wa) := hb7.out.trans (hq.mono hb7.out.size)
        clear hq
        have f0 := HA1.out.f0
        have f1 := HA1.out.f1
        have f2 := HA1.out.f2
        have f3 := HA1.out.f3
        go_wp2_with fail
        refine (unique_any false au1 U.length pu1 ac1 C.length pc1 ak1 K.length pk1 wa).mono ?_
        rintro e wb ⟨rfl, hq⟩
        clear f0 f1 f2 f3
        replace HA1 : Hid (A3 wb _ _ _ _ _ _ _ _ _ _) := HA1.out.below hq
        replace HA2 : Hid (A3 wb _ _ _ _ _ _ _ _ _ _) := HA2.out.below hq
        replace HA3 : Hid (A3 wb _ _ _ _ _ _ _ _ _ _) := HA3.out.below hq
        replace hb7 : Hid (Below w.heap.size w wb) := hb7.out.trans (hq.mono hb7.out.size)
        clear hq
        have f0 := HA2.out.f0
        have f1 := HA2.out.f1
        have f2 := HA2.out.f2
        have f3 := HA2.out.f3
        go_wp2_with fail
        refine (unique_any false au2 U1.length pu2 ac2 C1.length pc2 ak2 K1.length pk2 wb).mono ?_
        rintro e wc ⟨rfl, hq⟩
        clear f0 f1 f2 f3
        replace HA1 : Hid (A3 wc _ _ _ _ _ _ _ _ _ _) := HA1.out.below hq
        replace HA2 : Hid (A3 wc _ _ _ _ _ _ _ _ _ _) := HA2.out.below hq
        replace HA3 : Hid (A3 wc _ _ _ _ _ _ _ _ _ _) := HA3.out.below hq
        replace hb7 : Hid (Below w.heap.size w wc) := hb7.out.trans (hq.mono hb7.out.size)
        clear hq
        have f0 := HA3.out.f0
        have f1 := HA3.out.f1
        have f2 := HA3.out.f2
        have f3 := HA3.out.f3
        go_wp2_with fail
        refine (unique_any false au3 U2.length pu3 ac3 C2.length pc3 ak3 K2.length pk3 wc).mono ?_
        rintro e wd ⟨rfl, hq⟩
        clear f0 f1 f2 f3
        replace HA1 : Hid (A3 wd _ _ _ _ _ _ _ _ _ _) := HA1.out.below hq
        replace HA2 : Hid (A3 wd _ _ _ _ _ _ _ _ _ _) := HA2.out.below hq
        replace HA3 : Hid (A3 wd _ _ _ _ _ _ _ _ _ _) := HA3.out.below hq
        replace hb7 : Hid (Below w.heap.size w wd) := hb7.out.trans (hq.mono hb7.out.size)
        clear hq
        go_wp2
        go_loopw [17] (fun i wr => ∃ j : Nat, j ≤ U1.length ∧ i = .int .i64 j ∧ Below wd.heap.size wd wr) (fun i _ => U1.length - (intOf i).toNat)
        case atStart => exact ⟨0, Nat.zero_le _, rfl, Below.refl _ _⟩
        case round =>
          obtain ⟨j, hj, rfl, hb⟩ := hrel
          by_cases hlt : j < U1.length
          · obtain ⟨x, hx⟩ : ∃ x, U1[j]? = some x := ⟨_, List.getElem?_eq_getElem hlt⟩
            have hx' : U[j]? = some x := by rw [HU.out, List.getElem?_append_left hlt]; exact hx
            obtain ⟨gu, e1, q1, p1⟩ := HA1.out.u j x hx'
            obtain ⟨gv, e2, q2, p2⟩ := HA2.out.u j x hx
            subst e1 e2
            rw [← hb.cell (by exact q1)] at p1
            rw [← hb.cell (by exact q2)] at p2
            have hj1 : (j : Int) < U.length := by omega
            have hj2 : (j : Int) < U1.length := by omega
            clear hx hx'
            go_wp2_with fail
            go_quiet (fail)
            go_wp2
            go_roundw
            case rel => exact ⟨j + 1, by omega, by go_num, below_drewN hb _⟩
            case measure => simp [intOf]; omega
          · have hje : j = U1.length := by omega
            subst hje
            clear hlt hj
            replace HA1 : Hid (A3 wr _ _ _ _ _ _ _ _ _ _) := HA1.out.below hb
            replace HA2 : Hid (A3 wr _ _ _ _ _ _ _ _ _ _) := HA2.out.below hb
            replace HA3 : Hid (A3 wr _ _ _ _ _ _ _ _ _ _) := HA3.out.below hb
            replace hb7 : Hid (Below w.heap.size w wr) := hb7.out.trans (hb.mono hb7.out.size)
            clear hb
            go_wp2
            go_loopw [18] (fun i wt => ∃ j : Nat, j ≤ U2.length ∧ i = .int .i64 j ∧ Below wr.heap.size wr wt) (fun i _ => U2.length - (intOf i).toNat)
            case atStart => exact ⟨0, Nat.zero_le _, rfl, Below.refl _ _⟩
            case round =>
              rename World => wt
              obtain ⟨j, hj, rfl, hb⟩ := hrel
              by_cases hlt : j < U2.length
              · obtain ⟨x, hx⟩ : ∃ x, U2[j]? = some x := ⟨_, List.getElem?_eq_getElem hlt⟩
                have hx' : U[U1.length + j]? = some x := by rw [HU.out, List.getElem?_append_right (by omega), Nat.add_sub_cancel_left]; exact hx
                obtain ⟨gu, e1, q1, p1⟩ := HA1.out.u _ x hx'
                obtain ⟨gv, e2, q2, p2⟩ := HA3.out.u j x hx
                subst e1 e2
                rw [← hb.cell (by exact q1)] at p1
                rw [← hb.cell (by exact q2)] at p2
                have hj1 : (U1.length : Int) + (j : Int) < U.length := by omega
                have hj0 : (0 : Int) ≤ (U1.length : Int) + (j : Int) := by omega
                have hj3 : ((U1.length : Int) + (j : Int)).toNat = U1.length + j := by omega
                have hj2 : (j : Int) < U2.length := by omega
                clear hx hx'
                go_wp2_with fail
                go_quiet (fail)
                go_wp2
                go_roundw
                case rel => exact ⟨j + 1, by omega, by go_num, below_drewN hb _⟩
                case measure => simp [intOf]; omega
              · have hje : j = U2.length := by omega
                subst hje
                clear hlt hj
                replace HA1 : Hid (A3 wt _ _ _ _ _ _ _ _ _ _) := HA1.out.below hb
                replace HA2 : Hid (A3 wt _ _ _ _ _ _ _ _ _ _) := HA2.out.below hb
                replace HA3 : Hid (A3 wt _ _ _ _ _ _ _ _ _ _) := HA3.out.below hb
                replace hb7 : Hid (Below w.heap.size w wt) := hb7.out.trans (hb.mono hb7.out.size)
                clear hb
                have f0 := HA1.out.f0
                have f1 := HA1.out.f1
                have f2 := HA1.out.f2
                have f3 := HA1.out.f3
                go_wp2_with fail
                refine (checks_any false au1 U.length pu1 ac1 C.length pc1 ak1 K.length pk1 wt).mono ?_
                rintro e we ⟨rfl, hq⟩
                clear f0 f1 f2 f3
                replace HA1 : Hid (A3 we _ _ _ _ _ _ _ _ _ _) := HA1.out.below hq
                replace HA2 : Hid (A3 we _ _ _ _ _ _ _ _ _ _) := HA2.out.below hq
                replace HA3 : Hid (A3 we _ _ _ _ _ _ _ _ _ _) := HA3.out.below hq
                replace hb7 : Hid (Below w.heap.size w we) := hb7.out.trans (hq.mono hb7.out.size)
                clear hq
                have f0 := HA2.out.f0
                have f1 := HA2.out.f1
                have f2 := HA2.out.f2
                have f3 := HA2.out.f3
                go_wp2_with fail
                refine (checks_any false au2 U1.length pu2 ac2 C1.length pc2 ak2 K1.length pk2 we).mono ?_
                rintro e wf ⟨rfl, hq⟩
                clear f0 f1 f2 f3
                replace HA1 : Hid (A3 wf _ _ _ _ _ _ _ _ _ _) := HA1.out.below hq
                replace HA2 : Hid (A3 wf _ _ _ _ _ _ _ _ _ _) := HA2.out.below hq
                replace HA3 : Hid (A3 wf _ _ _ _ _ _ _ _ _ _) := HA3.out.below hq
                replace hb7 : Hid (Below w.heap.size w wf) := hb7.out.trans (hq.mono hb7.out.size)
                clear hq
                have f0 := HA3.out.f0
                have f1 := HA3.out.f1
                have f2 := HA3.out.f2
                have f3 := HA3.out.f3
                go_wp2_with fail
                refine (checks_any false au3 U2.length pu3 ac3 C2.length pc3 ak3 K2.length pk3 wf).mono ?_
                rintro e wg ⟨rfl, hq⟩
                clear f0 f1 f2 f3
                replace HA1 : Hid (A3 wg _ _ _ _ _ _ _ _ _ _) := HA1.out.below hq
                replace HA2 : Hid (A3 wg _ _ _ _ _ _ _ _ _ _) := HA2.out.below hq
                replace HA3 : Hid (A3 wg _ _ _ _ _ _ _ _ _ _) := HA3.out.below hq
                replace hb7 : Hid (Below w.heap.size w wg) := hb7.out.trans (hq.mono hb7.out.size)
                clear hq
                have eC : Hid (((C.length : Int) != (C1.length : Int) + (C2.length : Int)) = false) := by show _ = false; rw [bne_eq_false_iff_eq]; omega
                go_wp2
                try rw [eC.out]
                clear eC
                go_loopw [22, 23, 24, 25, 26, 27, 28] (fun i _ _ _ _ _ _ wh => ∃ j : Nat, j ≤ C.length ∧ i = .int .i64 j ∧ Below wg.heap.size wg wh) (fun i _ _ _ _ _ _ _ => C.length - (intOf i).toNat)
                case atStart => exact ⟨0, Nat.zero_le _, rfl, Below.refl _ _⟩
                case round =>
                  rename World => wh
                  obtain ⟨j, hj, rfl, hb⟩ := hrel
                  by_cases hlt : j < C.length
                  · obtain ⟨⟨xa, xb, xc⟩, hx⟩ : ∃ x : ByteArray × ByteArray × ByteArray, C[j]? = some x := ⟨_, List.getElem?_eq_getElem hlt⟩
                    have hjP : (j : Int) < C.length := by omega
                    have HB0 : Hid (Below wg.heap.size wg wh) := hb
                    replace HA1 : Hid (A3 wh _ _ _ _ _ _ _ _ _ _) := HA1.out.below hb
                    replace HA2 : Hid (A3 wh _ _ _ _ _ _ _ _ _ _) := HA2.out.below hb
                    replace HA3 : Hid (A3 wh _ _ _ _ _ _ _ _ _ _) := HA3.out.below hb
                    clear hb
                    have f0 := HA1.out.f0
                    have f1 := HA1.out.f1
                    have f2 := HA1.out.f2
                    have f3 := HA1.out.f3
                    by_cases hl1 : j < C1.length
                    · have hx' : C1[j]? = some (xa, xb, xc) := by rw [HC.out, List.getElem?_append_left hl1] at hx; exact hx
                      have hjP1 : (j : Int) < C1.length := by omega
                      obtain ⟨gg1, e1, q1, p1⟩ := HA1.out.c j _ hx
                      obtain ⟨gg2, e2, q2, p2⟩ := HA2.out.c j _ hx'
                      subst e1 e2
                      clear hx hx'
                      have HP1 : Hid (T3 _ _ _ _) := p1
                      have HP2 : Hid (T3 _ _ _ _) := p2
                      clear p1 p2
                      go_wp2_with fail
                      refine (check_any3 false au1 U.length pu1 gg1 C.length pc1 ak1 K.length pk1 j xa xb xc wh hlt q1 HP1.out).mono ?_
                      rintro e v1 ⟨rfl, hq⟩
                      clear f0 f1 f2 f3 HP1 q1
                      replace HA2 : Hid (A3 v1 _ _ _ _ _ _ _ _ _ _) := HA2.out.below hq
                      have HP3 : Hid (T3 v1 gg2 (j * 3) (xa, xb, xc)) := T3.below HP2.out q2 hq
                      clear HP2
                      replace q2 : _ < v1.heap.size := Nat.lt_of_lt_of_le q2 hq.size
                      replace HB0 : Hid (Below wg.heap.size wg v1) := HB0.out.trans (hq.mono HB0.out.size)
                      clear hq
                      have f0 := HA2.out.f0
                      have f1 := HA2.out.f1
                      have f2 := HA2.out.f2
                      have f3 := HA2.out.f3
                      go_wp2_with fail
                      refine (check_any3 false au2 U1.length pu2 gg2 C1.length pc2 ak2 K1.length pk2 j xa xb xc v1 hl1 q2 HP3.out).mono ?_
                      rintro e v2 ⟨rfl, hq⟩
                      clear f0 f1 f2 f3 HP3 q2
                      replace HB0 : Hid (Below wg.heap.size wg v2) := HB0.out.trans (hq.mono HB0.out.size)
                      clear hq
                      go_wp2
                      go_roundw
                      case rel => exact ⟨j + 1, by omega, by go_num, HB0.out⟩
                      case measure => simp [intOf]; omega
                    · obtain ⟨m, rfl⟩ : ∃ m, j = C1.length + m := ⟨j - C1.length, by omega⟩
                      have hx' : C2[m]? = some (xa, xb, xc) := by rw [HC.out, List.getElem?_append_right (by omega), Nat.add_sub_cancel_left] at hx; exact hx
                      have hm : m < C2.length := by omega
                      have hc1 : ((C1.length + m : Nat) : Int) = (C1.length : Int) + (m : Int) := by omega
                      have hc2 : (C1.length : Int) + (m : Int) - (C1.length : Int) = (m : Int) := by omega
                      obtain ⟨gg1, e1, q1, p1⟩ := HA1.out.c _ _ hx
                      obtain ⟨gg3, e2, q2, p2⟩ := HA3.out.c m _ hx'
                      subst e1 e2
                      clear hx hx'
                      have HP1 : Hid (T3 _ _ _ _) := p1
                      have HP2 : Hid (T3 _ _ _ _) := p2
                      clear p1 p2
                      have cc : Hid (Calls Try.prog 17 #[.agg #[.bool false, .slice au1 U.length pu1, .slice (some ⟨gg1, 0, none⟩) C.length pc1, .slice ak1 K.length pk1], .int .i64 ((C1.length : Int) + (m : Int))] wh fun e w' => e = .returned (.tuple #[.string xa, .string xb, .string xc]) ∧ Below wh.heap.size wh w') := by rw [← hc1]; exact check_any3 false au1 U.length pu1 gg1 C.length pc1 ak1 K.length pk1 (C1.length + m) xa xb xc wh hlt q1 HP1.out
                      go_wp2_with fail
                      refine cc.out.mono ?_
                      rintro e v1 ⟨rfl, hq⟩
                      clear f0 f1 f2 f3 HP1 q1 cc
                      replace HA3 : Hid (A3 v1 _ _ _ _ _ _ _ _ _ _) := HA3.out.below hq
                      have HP3 : Hid (T3 v1 gg3 (m * 3) (xa, xb, xc)) := T3.below HP2.out q2 hq
                      clear HP2
                      replace q2 : _ < v1.heap.size := Nat.lt_of_lt_of_le q2 hq.size
                      replace HB0 : Hid (Below wg.heap.size wg v1) := HB0.out.trans (hq.mono HB0.out.size)
                      clear hq
                      have f0 := HA3.out.f0
                      have f1 := HA3.out.f1
                      have f2 := HA3.out.f2
                      have f3 := HA3.out.f3
                      go_wp2_with fail
                      refine (check_any3 false au3 U2.length pu3 gg3 C2.length pc3 ak3 K2.length pk3 m xa xb xc v1 hm q2 HP3.out).mono ?_
                      rintro e v2 ⟨rfl, hq⟩
                      clear f0 f1 f2 f3 HP3 q2
                      replace HB0 : Hid (Below wg.heap.size wg v2) := HB0.out.trans (hq.mono HB0.out.size)
                      clear hq
                      go_wp2
                      go_roundw
                      case rel => exact ⟨C1.length + m + 1, by omega, by go_num, HB0.out⟩
                      case measure => simp [intOf]; omega
                  · have hje : j = C.length := by omega
                    subst hje
                    clear hlt hj
                    replace HA1 : Hid (A3 wh _ _ _ _ _ _ _ _ _ _) := HA1.out.below hb
                    replace HA2 : Hid (A3 wh _ _ _ _ _ _ _ _ _ _) := HA2.out.below hb
                    replace HA3 : Hid (A3 wh _ _ _ _ _ _ _ _ _ _) := HA3.out.below hb
                    replace hb7 : Hid (Below w.heap.size w wh) := hb7.out.trans (hb.mono hb7.out.size)
                    clear hb
                    have f0 := HA1.out.f0
                    have f1 := HA1.out.f1
                    have f2 := HA1.out.f2
                    have f3 := HA1.out.f3
                    go_wp2_with fail
                    refine (lookups_any false au1 U.length pu1 ac1 C.length pc1 ak1 K.length pk1 wh).mono ?_
                    rintro e wi ⟨rfl, hq⟩
                    clear f0 f1 f2 f3
                    replace HA1 : Hid (A3 wi _ _ _ _ _ _ _ _ _ _) := HA1.out.below hq
                    replace HA2 : Hid (A3 wi _ _ _ _ _ _ _ _ _ _) := HA2.out.below hq
                    replace HA3 : Hid (A3 wi _ _ _ _ _ _ _ _ _ _) := HA3.out.below hq
                    replace hb7 : Hid (Below w.heap.size w wi) := hb7.out.trans (hq.mono hb7.out.size)
                    clear hq
                    have f0 := HA2.out.f0
                    have f1 := HA2.out.f1
                    have f2 := HA2.out.f2
                    have f3 := HA2.out.f3
                    go_wp2_with fail
                    refine (lookups_any false au2 U1.length pu2 ac2 C1.length pc2 ak2 K1.length pk2 wi).mono ?_
                    rintro e wj ⟨rfl, hq⟩
                    clear f0 f1 f2 f3
                    replace HA1 : Hid (A3 wj _ _ _ _ _ _ _ _ _ _) := HA1.out.below hq
                    replace HA2 : Hid (A3 wj _ _ _ _ _ _ _ _ _ _) := HA2.out.below hq
                    replace HA3 : Hid (A3 wj _ _ _ _ _ _ _ _ _ _) := HA3.out.below hq
                    replace hb7 : Hid (Below w.heap.size w wj) := hb7.out.trans (hq.mono hb7.out.size)
                    clear hq
                    have f0 := HA3.out.f0
                    have f1 := HA3.out.f1
                    have f2 := HA3.out.f2
                    have f3 := HA3.out.f3
                    go_wp2_with fail
                    refine (lookups_any false au3 U2.length pu3 ac3 C2.length pc3 ak3 K2.length pk3 wj).mono ?_
                    rintro e wk ⟨rfl, hq⟩
                    clear f0 f1 f2 f3
                    replace HA1 : Hid (A3 wk _ _ _ _ _ _ _ _ _ _) := HA1.out.below hq
                    replace HA2 : Hid (A3 wk _ _ _ _ _ _ _ _ _ _) := HA2.out.below hq
                    replace HA3 : Hid (A3 wk _ _ _ _ _ _ _ _ _ _) := HA3.out.below hq
                    replace hb7 : Hid (Below w.heap.size w wk) := hb7.out.trans (hq.mono hb7.out.size)
                    clear hq
                    have eK : Hid (((K.length : Int) != (K1.length : Int) + (K2.length : Int)) = false) := by show _ = false; rw [bne_eq_false_iff_eq]; omega
                    go_wp2
                    try rw [eK.out]
                    clear eK
                    go_loopw [32, 33, 34, 35, 36, 37, 38] (fun i _ _ _ _ _ _ wl => ∃ j : Nat, j ≤ K.length ∧ i = .int .i64 j ∧ Below wk.heap.size wk wl) (fun i _ _ _ _ _ _ _ => K.length - (intOf i).toNat)
                    case atStart => exact ⟨0, Nat.zero_le _, rfl, Below.refl _ _⟩
                    case round =>
                      rename World => wl
                      obtain ⟨j, hj, rfl, hb⟩ := hrel
                      by_cases hlt : j < K.length
                      · obtain ⟨⟨xa, xb, xc⟩, hx⟩ : ∃ x : ByteArray × ByteArray × ByteArray, K[j]? = some x := ⟨_, List.getElem?_eq_getElem hlt⟩
                        have hjP : (j : Int) < K.length := by omega
                        have HB0 : Hid (Below wk.heap.size wk wl) := hb
                        replace HA1 : Hid (A3 wl _ _ _ _ _ _ _ _ _ _) := HA1.out.below hb
                        replace HA2 : Hid (A3 wl _ _ _ _ _ _ _ _ _ _) := HA2.out.below hb
                        replace HA3 : Hid (A3 wl _ _ _ _ _ _ _ _ _ _) := HA3.out.below hb
                        clear hb
                        have f0 := HA1.out.f0
                        have f1 := HA1.out.f1
                        have f2 := HA1.out.f2
                        have f3 := HA1.out.f3
                        by_cases hl1 : j < K1.length
                        · have hx' : K1[j]? = some (xa, xb, xc) := by rw [HK.out, List.getElem?_append_left hl1] at hx; exact hx
                          have hjP1 : (j : Int) < K1.length := by omega
                          obtain ⟨gg1, e1, q1, p1⟩ := HA1.out.k j _ hx
                          obtain ⟨gg2, e2, q2, p2⟩ := HA2.out.k j _ hx'
                          subst e1 e2
                          clear hx hx'
                          have HP1 : Hid (T3 _ _ _ _) := p1
                          have HP2 : Hid (T3 _ _ _ _) := p2
                          clear p1 p2
                          go_wp2_with fail
                          refine (lookup_any3 false au1 U.length pu1 ac1 C.length pc1 gg1 K.length pk1 j xa xb xc wl hlt q1 HP1.out).mono ?_
                          rintro e v1 ⟨rfl, hq⟩
                          clear f0 f1 f2 f3 HP1 q1
                          replace HA2 : Hid (A3 v1 _ _ _ _ _ _ _ _ _ _) := HA2.out.below hq
                          have HP3 : Hid (T3 v1 gg2 (j * 3) (xa, xb, xc)) := T3.below HP2.out q2 hq
                          clear HP2
                          replace q2 : _ < v1.heap.size := Nat.lt_of_lt_of_le q2 hq.size
                          replace HB0 : Hid (Below wk.heap.size wk v1) := HB0.out.trans (hq.mono HB0.out.size)
                          clear hq
                          have f0 := HA2.out.f0
                          have f1 := HA2.out.f1
                          have f2 := HA2.out.f2
                          have f3 := HA2.out.f3
                          go_wp2_with fail
                          refine (lookup_any3 false au2 U1.length pu2 ac2 C1.length pc2 gg2 K1.length pk2 j xa xb xc v1 hl1 q2 HP3.out).mono ?_
                          rintro e v2 ⟨rfl, hq⟩
                          clear f0 f1 f2 f3 HP3 q2
                          replace HB0 : Hid (Below wk.heap.size wk v2) := HB0.out.trans (hq.mono HB0.out.size)
                          clear hq
                          go_wp2
                          go_roundw
                          case rel => exact ⟨j + 1, by omega, by go_num, HB0.out⟩
                          case measure => simp [intOf]; omega
                        · obtain ⟨m, rfl⟩ : ∃ m, j = K1.length + m := ⟨j - K1.length, by omega⟩
                          have hx' : K2[m]? = some (xa, xb, xc) := by rw [HK.out, List.getElem?_append_right (by omega), Nat.add_sub_cancel_left] at hx; exact hx
                          have hm : m < K2.length := by omega
                          have hc1 : ((K1.length + m : Nat) : Int) = (K1.length : Int) + (m : Int) := by omega
                          have hc2 : (K1.length : Int) + (m : Int) - (K1.length : Int) = (m : Int) := by omega
                          obtain ⟨gg1, e1, q1, p1⟩ := HA1.out.k _ _ hx
                          obtain ⟨gg3, e2, q2, p2⟩ := HA3.out.k m _ hx'
                          subst e1 e2
                          clear hx hx'
                          have HP1 : Hid (T3 _ _ _ _) := p1
                          have HP2 : Hid (T3 _ _ _ _) := p2
                          clear p1 p2
                          have cc : Hid (Calls Try.prog 19 #[.agg #[.bool false, .slice au1 U.length pu1, .slice ac1 C.length pc1, .slice (some ⟨gg1, 0, none⟩) K.length pk1], .int .i64 ((K1.length : Int) + (m : Int))] wl fun e w' => e = .returned (.tuple #[.string xa, .string xb, .string xc]) ∧ Below wl.heap.size wl w') := by rw [← hc1]; exact lookup_any3 false au1 U.length pu1 ac1 C.length pc1 gg1 K.length pk1 (K1.length + m) xa xb xc wl hlt q1 HP1.out
                          go_wp2_with fail
                          refine cc.out.mono ?_
                          rintro e v1 ⟨rfl, hq⟩
                          clear f0 f1 f2 f3 HP1 q1 cc
                          replace HA3 : Hid (A3 v1 _ _ _ _ _ _ _ _ _ _) := HA3.out.below hq
                          have HP3 : Hid (T3 v1 gg3 (m * 3) (xa, xb, xc)) := T3.below HP2.out q2 hq
                          clear HP2
                          replace q2 : _ < v1.heap.size := Nat.lt_of_lt_of_le q2 hq.size
                          replace HB0 : Hid (Below wk.heap.size wk v1) := HB0.out.trans (hq.mono HB0.out.size)
                          clear hq
                          have f0 := HA3.out.f0
                          have f1 := HA3.out.f1
                          have f2 := HA3.out.f2
                          have f3 := HA3.out.f3
                          go_wp2_with fail
                          refine (lookup_any3 false au3 U2.length pu3 ac3 C2.length pc3 gg3 K2.length pk3 m xa xb xc v1 hm q2 HP3.out).mono ?_
                          rintro e v2 ⟨rfl, hq⟩
                          clear f0 f1 f2 f3 HP3 q2
                          replace HB0 : Hid (Below wk.heap.size wk v2) := HB0.out.trans (hq.mono HB0.out.size)
                          clear hq
                          go_wp2
                          go_roundw
                          case rel => exact ⟨K1.length + m + 1, by omega, by go_num, HB0.out⟩
                          case measure => simp [intOf]; omega
                      · have hje : j = K.length := by omega
                        subst hje
                        clear hlt hj
                        go_wp2
                        go_ret
                        exact ⟨rfl, hb7.out.trans (hb.mono hb7.out.size)⟩

end Go.Proofs.Qxb6616268a
