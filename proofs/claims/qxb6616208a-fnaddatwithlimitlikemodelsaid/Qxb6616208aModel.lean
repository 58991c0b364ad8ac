/-
  The plain model: keys and numbers of the parts; a complete message's slots. No walk.
-/
import Derived.Test.Qxb6616208aForget
import Derived.Test.Qxb6616208aScr
import Derived.Test.Qxb6616208aZslots
import Derived.Test.Qxb6616208aCheck
namespace Go.Proofs.Qxb6616208a
open Go.RowKit
set_option linter.unusedVariables false
set_option linter.unusedSimpArgs false

theorem conc_ok {id : Int} {d : List Int} {r t p : Int} (hd : ∀ z ∈ d, 0 ≤ z ∧ z < 256) (h : conc id d = some (r, t, p)) : (0 ≤ r ∧ r < 65536) ∧ (1 ≤ t ∧ t < 256) ∧ 1 ≤ p ∧ p ≤ t := by
  have hb : ∀ i, 0 ≤ d.getD i 0 ∧ d.getD i 0 < 256 := fun i => by
    rw [List.getD_eq_getElem?_getD]
    cases hz : d[i]? with
    | none => simp
    | some z => simpa using hd z (List.mem_of_getElem? hz)
  have hc : ∀ a b c, chk a b c = some (r, t, p) → (0 ≤ a ∧ a < 65536) → (b < 256) → (0 ≤ r ∧ r < 65536) ∧ (1 ≤ t ∧ t < 256) ∧ 1 ≤ p ∧ p ≤ t := fun a b c h ha hb => by
    unfold chk at h
    split at h
    · cases h
    · rename_i hn
      simp only [Option.some.injEq, Prod.mk.injEq] at h
      obtain ⟨rfl, rfl, rfl⟩ := h
      omega
  have h0 := hb 0
  have h1 := hb 1
  have h2 := hb 2
  have h3 := hb 3
  unfold conc at h
  split at h
  · exact hc _ _ _ h (by omega) (by omega)
  · split at h
    · exact hc _ _ _ h (by omega) (by omega)
    · cases h

theorem fcon_ok : ∀ {es : List El} {r t p : Int}, (∀ e ∈ es, ∀ z ∈ e.2, 0 ≤ z ∧ z < 256) → fcon es = some (r, t, p) → (0 ≤ r ∧ r < 65536) ∧ (1 ≤ t ∧ t < 256) ∧ 1 ≤ p ∧ p ≤ t
  | [], _, _, _, _, h => by simp [fcon] at h
  | (id, d) :: es, r, t, p, he, h => by
    rw [fcon] at h
    cases hc : conc id d with
    | none => rw [hc] at h; exact fcon_ok (fun e h' => he e (List.mem_cons_of_mem _ h')) h
    | some x =>
      rw [hc] at h
      simp only [Option.some.injEq] at h
      subst h
      exact conc_ok (he (id, d) (List.mem_cons_self)) hc

theorem els_bytes {w : World} {ea : Option Addr} {es : List El} (h : Els w ea es) : ∀ e ∈ es, ∀ z ∈ e.2, 0 ≤ z ∧ z < 256 := by
  intro e he z hz
  obtain ⟨i, hi⟩ := List.mem_iff_getElem?.1 he
  obtain ⟨b, off, a, n, cap, _, _, _, _, _, _, _, hB, _⟩ := h i e.1 e.2 hi
  obtain ⟨k, hk⟩ := List.mem_iff_getElem?.1 hz
  obtain ⟨_, _, _, _, _, h1, h2⟩ := hB k z hk
  exact ⟨h1, h2⟩

theorem pno_ok {es : List El} (h : ∀ e ∈ es, ∀ z ∈ e.2, 0 ≤ z ∧ z < 256) : 0 ≤ pno es ∧ pno es < 256 := by
  unfold pno
  cases hf : fcon es with
  | none => simp
  | some x =>
    obtain ⟨r, t, p⟩ := x
    have := fcon_ok h hf
    simp only []
    omega

/-- what a key tells of its PDU -/
theorem key_ok {x : Pd} {k : Key} {p : Int} (hok : x.Ok) (hb : ∀ e ∈ x.els, ∀ z ∈ e.2, 0 ≤ z ∧ z < 256) (h : x.key = some (k, p)) : k.Ok ∧ p = pno x.els ∧ 1 ≤ p ∧ p ≤ k.tot := by
  unfold Pd.key at h
  cases hf : fcon x.els with
  | none => rw [hf] at h; cases h
  | some y =>
    obtain ⟨r, t, q⟩ := y
    rw [hf] at h
    simp only [Option.some.injEq, Prod.mk.injEq] at h
    obtain ⟨h1, rfl⟩ := h
    obtain ⟨a1, a2, a3, a4⟩ := fcon_ok hb hf
    have hp : q = pno x.els := by unfold pno; rw [hf]
    split at h1
    · subst h1
      exact ⟨⟨hok.typ, hok.tton, hok.tnpi, hok.s2, a1, a2⟩, hp, a3, a4⟩
    · subst h1
      exact ⟨⟨hok.typ, hok.fton, hok.fnpi, hok.s1, a1, a2⟩, hp, a3, a4⟩

/-- rising numbers from 1 to n, n of them: each in its place -/
theorem rising (L : List Int) (n : Nat) (hn : L.length = n) (hr : ∀ z ∈ L, 1 ≤ z ∧ z ≤ n) (hs : ∀ (i j : Nat) (x y : Int), i < j → L[i]? = some x → L[j]? = some y → x < y) : ∀ (i : Nat) (z : Int), L[i]? = some z → z = i + 1 := by
  have lo : ∀ (i : Nat) (z : Int), L[i]? = some z → (i : Int) + 1 ≤ z := by
    intro i
    induction i with
    | zero => intro z hz; have := (hr z (List.mem_of_getElem? hz)).1; omega
    | succ i ih =>
      intro z hz
      have hi : i < L.length := by have := (List.getElem?_eq_some_iff.1 hz).1; omega
      have h1 := ih L[i] (List.getElem?_eq_getElem hi)
      have h2 := hs i (i + 1) L[i] z (by omega) (List.getElem?_eq_getElem hi) hz
      omega
  have hi : ∀ (k i : Nat) (z : Int), i + k + 1 = n → L[i]? = some z → z ≤ (i : Int) + 1 := by
    intro k
    induction k with
    | zero => intro i z hk hz; have := (hr z (List.mem_of_getElem? hz)).2; omega
    | succ k ih =>
      intro i z hk hz
      have hi : i + 1 < L.length := by omega
      have h1 := ih (i + 1) L[i + 1] (by omega) (List.getElem?_eq_getElem hi)
      have h2 := hs i (i + 1) z L[i + 1] (by omega) hz (List.getElem?_eq_getElem hi)
      omega
  intro i z hz
  have h1 := lo i z hz
  have hl := (List.getElem?_eq_some_iff.1 hz).1
  have h2 := hi (n - 1 - i) i z (by omega) hz
  omega

/-- the slot of a part -/
theorem slotF_mem (pn : Nat → Int) : ∀ (ix : List Nat), (ix.map pn).Nodup → ∀ a ∈ ix, ∀ i : Nat, pn a = (i : Int) + 1 → slotF (ix.map fun b => (pn b, (b : Int))) i = a := by
  intro ix
  unfold slotF
  suffices H : ∀ (ix : List Nat) (acc : Int), (ix.map pn).Nodup → ∀ a ∈ ix, ∀ i : Nat, pn a = (i : Int) + 1 → (ix.map fun b => (pn b, (b : Int))).foldl (fun acc x => if x.1 = (i : Int) + 1 then x.2 else acc) acc = a from fun hn a ha i h => H ix (-1) hn a ha i h
  intro ix
  induction ix with
  | nil => intro acc _ a ha; cases ha
  | cons b ix ih =>
    intro acc hn a ha i h
    simp only [List.map_cons, List.foldl_cons, List.nodup_cons] at hn ⊢
    rcases List.mem_cons.1 ha with rfl | ha
    · have key : ∀ (l : List Nat) (c : Int), (∀ d ∈ l, pn d ≠ (i : Int) + 1) → (l.map fun b => (pn b, (b : Int))).foldl (fun acc x => if x.1 = (i : Int) + 1 then x.2 else acc) c = c := by
        intro l
        induction l with
        | nil => intro c _; rfl
        | cons d l ihl =>
          intro c hd
          simp only [List.map_cons, List.foldl_cons]
          rw [if_neg (hd d (List.mem_cons_self))]
          exact ihl c fun e he => hd e (List.mem_cons_of_mem _ he)
      rw [if_pos h]
      exact key ix _ fun d hd e => hn.1 (by rw [h, ← e]; exact List.mem_map_of_mem hd)
    · exact ih _ hn.2 a ha i h

/-- what is handed out at a step -/
abbrev Res : Type := Option (Option (Key × List Nat))
abbrev Res.nil : Res := none
abbrev Res.alone : Res := some none
abbrev Res.msg (key : Key) (ix : List Nat) : Res := some (some (key, ix))

def RMsg (w : World) (pb : Nat → Nat) (els : Nat → List El) (s : Nat) (got : Option Addr) : Res → Prop
  | none => got = none
  | some none => ∃ r q, got = some ⟨r, 0, none⟩ ∧ w.heap[r]? = some (mrow (.slice (some ⟨q, 0, none⟩) 1 1) 0 0 none none) ∧ w.heap[q]? = some (.cells #[.pointer (some ⟨pb s, 0, none⟩)] 32)
  | some (some (key, ix)) => ∃ g : JG, got = some ⟨g.m, 0, none⟩ ∧ Forgot w pb els g ∧ g.ix = ix ∧ g.key = key

def ROut (w : World) (pn : Nat → Int) (kind ref : Int) (sa : Option Addr) (sn sc : Nat) : Res → Prop
  | none => kind = 0 ∧ ref = 0 ∧ sa = none ∧ sn = 0 ∧ sc = 0
  | some none => kind = 1 ∧ ref = 0 ∧ sa = none ∧ sn = 0 ∧ sc = 0
  | some (some (key, ix)) => kind = 2 ∧ ref = key.ref ∧ ∃ q, sa = some ⟨q, 0, none⟩ ∧ (sn : Int) = key.tot ∧ sc = sn ∧ SRow w q sn (slotF (ix.map fun b => (pn b, (b : Int))))

/-- a message that is whole -/
structure Whole (pn : Nat → Int) (n : Nat) (key : Key) (ix : List Nat) : Prop where
  len : (ix.length : Int) = key.tot
  small : key.tot < 256
  nd : (ix.map pn).Nodup
  rng : ∀ a ∈ ix, 1 ≤ pn a ∧ pn a ≤ key.tot
  lt : ∀ a ∈ ix, a < n

theorem agree_of {w : World} {pb : Nat → Nat} {els : Nat → List El} {g : JG} {pn : Nat → Int} {n pg sq tot : Nat} (hpn : ∀ a, pn a = pno (els a)) (hF : Forgot w pb els g) (hW : Whole pn n g.key g.ix) (htot : (tot : Int) = g.key.tot) (hS : SRow w sq tot (slotF (g.ix.map fun b => (pn b, (b : Int))))) (hpg : ∀ a, a < n → w.cell? ⟨pg, a, none⟩ = some (.pointer (some ⟨pb a, 0, none⟩))) :
    Agree w g.q sq pg tot n := by
  obtain ⟨L', cur', hperm, hasc, hblk, hcells⟩ := hF.parts
  have hl : L'.length = tot := by
    have h1 := hperm.length_eq
    have h2 := hW.len
    simp [partsL] at h1
    omega
  have hmem : ∀ x ∈ L', ∃ a ∈ g.ix, x = (pb a, els a) := fun x hx => by
    obtain ⟨a, ha, rfl⟩ := List.mem_map.1 (hperm.mem_iff.1 hx)
    exact ⟨a, ha, rfl⟩
  have hnd : (L'.map fun x => pno x.2).Nodup := by
    have h1 : (L'.map fun x => pno x.2).Perm ((partsL pb els g.ix).map fun x => pno x.2) := hperm.map _
    have h2 : ((partsL pb els g.ix).map fun x => pno x.2) = g.ix.map pn := by
      simp only [partsL, List.map_map]
      apply List.map_congr_left
      intro a _
      exact (hpn a).symm
    rw [h2] at h1
    exact h1.nodup_iff.2 hW.nd
  have hrise := rising (L'.map fun x => pno x.2) tot (by simpa using hl) (fun z hz => by
      obtain ⟨x, hx, rfl⟩ := List.mem_map.1 hz
      obtain ⟨a, ha, rfl⟩ := hmem x hx
      have := hW.rng a ha
      rw [hpn] at this
      simp only []
      omega) (fun i j x y hij hx hy => by
      rw [List.getElem?_map, Option.map_eq_some_iff] at hx hy
      obtain ⟨x', hx', rfl⟩ := hx
      obtain ⟨y', hy', rfl⟩ := hy
      have h1 := hasc i j x' y' hij hx' hy'
      have h2 : pno x'.2 ≠ pno y'.2 := fun e => by
        have hi : i < (L'.map fun x => pno x.2).length := by simpa using (List.getElem?_eq_some_iff.1 hx').1
        have hj : j < (L'.map fun x => pno x.2).length := by simpa using (List.getElem?_eq_some_iff.1 hy').1
        have h3 := List.pairwise_iff_getElem.1 hnd i j hi hj hij
        apply h3
        simp only [List.getElem_map]
        rw [(List.getElem?_eq_some_iff.1 hx').2, (List.getElem?_eq_some_iff.1 hy').2]
        exact e
      omega)
  intro i hi
  have hx := List.getElem?_eq_getElem (l := L') (i := i) (by omega)
  obtain ⟨a, ha, hae⟩ := hmem _ (List.getElem_mem (l := L') (n := i) (by omega))
  have hz := hrise i (pno L'[i].2) (by rw [List.getElem?_map, hx]; rfl)
  rw [hae] at hz
  have hpa : pn a = (i : Int) + 1 := by rw [hpn]; exact hz
  refine ⟨a, pb a, hW.lt a ha, ?_, ?_, hpg a (hW.lt a ha)⟩
  · rw [hS.cell hi, slotF_mem pn g.ix hW.nd a ha i hpa]
  · rw [cell_of_row _ _ _ _ _ _ hblk, hcells i L'[i] hx, hae]

end Go.Proofs.Qxb6616208a
