/-
  The Defaults law's callees: zzBytes (12), cloneBools (13), ZZstringWithDefault (14), Map (15), List (16), ZZdefaults (17); what holds after j rounds.
-/
import Derived.Test.Qxb6616253aInv
namespace Go.Proofs.Qxb6616253a
open Go.RowKit Go.Maps Go.WideMaps
set_option linter.unusedVariables false
set_option linter.unusedSimpArgs false

/-- the first n cells behind 'ao' hold the bools bs -/
def Bools (w : World) (ao : Option Addr) (n : Nat) (bs : Nat → Bool) : Prop :=
  ∀ i, i < n → ∃ b off, ao = some ⟨b, off, none⟩ ∧ b < w.heap.size ∧ w.cell? ⟨b, off + i, none⟩ = some (.bool (bs i))

theorem Bools.below {w w' : World} {ao : Option Addr} {n : Nat} {bs : Nat → Bool} (h : Bools w ao n bs) (hb : Below w.heap.size w w') : Bools w' ao n bs := by
  intro i hi
  obtain ⟨b, off, rfl, hl, hc⟩ := h i hi
  exact ⟨b, off, rfl, Nat.lt_of_lt_of_le hl hb.size, (hb.cell (by exact hl)).trans hc⟩

set_option maxHeartbeats 400000 in
theorem zzBytes12_any (ao : Option Addr) (n cap : Nat) (ss : List ByteArray) (am : Option Addr) (nm capm : Nat) (w : World) (hn : n ≤ maxLen) (hnm : nm ≤ maxLen) (hs : Hid (Strs w ao n ss)) :
    Calls Try.prog 12 #[.slice ao n cap, .slice am nm capm] w fun e w' => AnyBool e ∧ w = w' := by
  unfold maxLen at hn hnm
  by_cases c0 : n ≤ 1048576
  · go_enter Try.func12, Try.ntmps12
    go_wp2
    go_loop [5, 6] (fun z i => ∃ (k : Nat) (t : Int), k ≤ n ∧ i = .int .i64 k ∧ z = .int .i64 t) (fun _ i => n - (intOf i).toNat)
    case atStart => exact ⟨0, _, Nat.zero_le _, rfl, rfl⟩
    case round =>
      obtain ⟨k, t, hk, rfl, rfl⟩ := hrel
      by_cases hlt : k < n
      · obtain ⟨b, off, rfl, hl, hc, hz⟩ := hs.out k hlt
        generalize ss.getD k ByteArray.empty = s at hc hz
        go_wp2
        · go_ret
          exact ⟨.mk _, rfl⟩
        · go_ret
          exact ⟨.mk _, rfl⟩
        · go_round
          case rel => exact ⟨k + 1, _, by omega, by go_num, rfl⟩
          case measure => simp [intOf]; omega
      · go_wp2
        all_goals
          go_ret
          exact ⟨.mk _, rfl⟩
  · go_enter Try.func12, Try.ntmps12
    go_wp2
    go_ret
    exact ⟨.mk _, rfl⟩

theorem Try.info4 : (Try.prog.info? 4).map (fun i => (i.zero, i.size, i.bytes)) = some (some (.bool false), 1, 1) := by kernel_rfl

theorem bools_of_own {w : World} {base : Nat} {g n cap : Nat} {bs : Nat → Bool} {l : List Value} (h : w.ownsRow base 4 1 (.slice (some ⟨g, 0, none⟩) n cap) n l) (hl : ∀ i, i < n → l[i]? = some (.bool (bs i))) : Bools w (some ⟨g, 0, none⟩) n bs := by
  intro i hi
  refine ⟨g, 0, rfl, (h.lt _ rfl).2, ?_⟩
  rw [Nat.zero_add, h.cellAt i (by omega)]
  exact hl i hi

theorem set_getB {l : List Value} {n k : Nat} {bs : Nat → Bool} (hn : l.length = n) (hk : k < n) (hl : ∀ i, i < k → l[i]? = some (.bool (bs i))) :
    ∀ i, i < k + 1 → (l.set k (.bool (bs k)))[i]? = some (.bool (bs i)) := by
  intro i hi
  by_cases h : i = k
  · subst h; rw [List.getElem?_set_self (by omega)]
  · rw [List.getElem?_set_ne (by omega)]; exact hl i (by omega)

/-- the clone's answer -/
def ClonedB (bs : Nat → Bool) (n : Nat) (w : World) (e : Ending) (w' : World) : Prop :=
  ∃ ao cap, e = .returned (.slice ao n cap) ∧ Bools w' ao n bs ∧ Below w.heap.size w w'

set_option maxHeartbeats 400000 in
theorem cloneBools_any (ao : Option Addr) (n cap : Nat) (bs : Nat → Bool) (w : World) (hn : n ≤ 1048576) (hnil : ao = none → n = 0 ∧ cap = 0) (hs : Hid (Bools w ao n bs)) :
    Calls Try.prog 13 #[.slice ao n cap] w fun e w' => ClonedB bs n w e w' := by
  obtain ⟨i0, hi, hz0, hz1, hz2⟩ := info_parts Try.info4
  have heq := Lib.run_eql_slice_nil (P := Try.prog)
  cases ao with
  | none =>
    obtain ⟨rfl, rfl⟩ := hnil rfl
    go_enter Try.func13, Try.ntmps13
    go_wp2
    go_ret
    exact ⟨none, 0, rfl, fun i hi => by omega, Below.refl _ _⟩
  | some a =>
    clear hnil
    go_enter Try.func13, Try.ntmps13
    go_wp2_with (at_make; refine wpList_make_full _ rfl _ _ 34 rfl w.heap.size 4 i0 _ 1 Try.underlying34 hi hz0 hz1 _ _ _ _ n rfl rfl rfl rfl (by rw [hz2]; omega) (by unfold maxLen; omega) (Nat.le_refl _) ?_)
    intro w1 own1 gr1
    have hb1 : Below w.heap.size w w1 := (Below.refl _ _).grown gr1 (Nat.le_refl _) (by simp)
    clear gr1
    go_wp2
    go_loopw [4] (fun i wr => ∃ (k : Nat) (l : List Value), k ≤ n ∧ i = .int .i64 k ∧ wr.ownsRow w.heap.size 4 1 (.slice (some ⟨w.heap.size, 0, none⟩) n n) n l ∧ (∀ i, i < k → l[i]? = some (.bool (bs i))) ∧ Below w.heap.size w wr) (fun i _ => n - (intOf i).toNat)
    case atStart => exact ⟨0, _, Nat.zero_le _, rfl, own1, fun i hi => by omega, hb1⟩
    case round =>
      obtain ⟨k, l, hk, rfl, own, hl, hb⟩ := hrel
      clear own1 hb1
      by_cases hlt : k < n
      · obtain ⟨b, off, e0, hlb, hc⟩ := hs.out k hlt
        simp only [Option.some.injEq] at e0
        subst e0
        rw [← hb.cell (by exact hlb)] at hc
        have hfr : wr.frozen? ⟨w.heap.size, k, none⟩ = false := own.frozenAt k
        have hold : ∃ v, wr.cell? ⟨w.heap.size, k, none⟩ = some v := by
          rw [own.cellAt k (by omega)]
          exact ⟨_, List.getElem?_eq_getElem (by have := own.1; omega)⟩
        obtain ⟨v0, hold⟩ := hold
        obtain ⟨own', gr'⟩ := own.stored k (.bool (bs k))
        have hl' := set_getB (by have := own.1; omega) hlt hl
        have hb' := hb.grown gr' hb.size (by simp)
        have H : Hid ((wr.setCell ⟨w.heap.size, k, none⟩ (.bool (bs k))).ownsRow w.heap.size 4 1 (.slice (some ⟨w.heap.size, 0, none⟩) n n) n _ ∧ _ ∧ _) := ⟨own', hl', hb'⟩
        clear own own' gr' hl hl' hb'
        go_wp2
        go_roundw
        case rel => exact ⟨k + 1, _, by omega, by go_num, H.out.1, H.out.2.1, H.out.2.2⟩
        case measure => simp [intOf]; omega
      · have hkn : n = k := by omega
        subst hkn
        have hS : Hid (Bools wr (some ⟨w.heap.size, 0, none⟩) n bs) := bools_of_own own hl
        clear own hl
        go_wp2
        go_ret
        exact ⟨_, n, rfl, hS, hb⟩

set_option maxHeartbeats 400000 in
theorem withDefault_any (s : ByteArray) (w : World) :
    Calls Try.prog 14 #[.string s] w fun e w' => e = .returned (.pointer (some ⟨w.heap.size, 0, none⟩)) ∧ w.alloc (scal (some s)) = w' := by
  go_enter Try.func14, Try.ntmps14
  go_wp2
  go_ret
  exact ⟨rfl, rfl⟩

theorem scalarD_call (w : World) : Calls Try.prog 8 #[] w fun e w' => e = .returned (.pointer (some ⟨w.heap.size, 0, none⟩)) ∧ w.alloc (scal none) = w' := scalar_any w

/-- the block of Map's or List's answer -/
def wrapC (sh : Int) (S : Nat) (at_ acc : Bool) : Obj := .cells (tyC sh (.map none) (.pointer (some ⟨S, 0, none⟩)) at_ .nilIface acc) 46 (0, 0)

set_option maxHeartbeats 400000 in
theorem map_any (S : Nat) (acc : Bool) (w : World) (c : w.cell? ⟨S, 17, none⟩ = some (.bool acc)) :
    Calls Try.prog 15 #[.pointer (some ⟨S, 0, none⟩)] w fun e w' => e = .returned (.pointer (some ⟨w.heap.size, 0, none⟩)) ∧ w.alloc (wrapC 2 S false acc) = w' := by
  go_enter Try.func15, Try.ntmps15
  go_wp2
  go_ret
  exact ⟨rfl, rfl⟩

set_option maxHeartbeats 400000 in
theorem list_any (S : Nat) (acc : Bool) (w : World) (c : w.cell? ⟨S, 17, none⟩ = some (.bool acc)) :
    Calls Try.prog 16 #[.pointer (some ⟨S, 0, none⟩)] w fun e w' => e = .returned (.pointer (some ⟨w.heap.size, 0, none⟩)) ∧ w.alloc (wrapC 3 S true acc) = w' := by
  go_enter Try.func16, Try.ntmps16
  go_wp2
  go_ret
  exact ⟨rfl, rfl⟩

set_option maxHeartbeats 400000 in
theorem defaults_any (S : Nat) (acc : Bool) (w : World) (c : w.cell? ⟨S, 17, none⟩ = some (.bool acc)) :
    Calls Try.prog 17 #[.pointer (some ⟨S, 0, none⟩)] w fun e w' => e = .returned (.bool acc) ∧ w = w' := by
  go_enter Try.func17, Try.ntmps17
  go_wp2
  go_ret
  exact ⟨rfl, rfl⟩

/-! ### what holds after j rounds -/
structure DInv (W wr : World) (gM j : Nat) (ss : List ByteArray) (mk : Nat → Bool) (qs : Nat → Nat) (D : DataW Nat) : Prop where
  map : MapInv wr gM j ss qs D
  blk : ∀ i, i < j → wr.heap[qs i]? = some (scal (if mk i = true then some (ss.getD i ByteArray.empty) else none))
  lo : W.heap.size ≤ gM
  below : Below W.heap.size W wr

theorem DInv.step {W wr : World} {gM j : Nat} {ss : List ByteArray} {mk : Nat → Bool} {qs : Nat → Nat} {D : DataW Nat} (h : DInv W wr gM j ss mk qs D) (hjm : j < maxLen) (hs : (ss.getD j ByteArray.empty).size ≤ maxLen) (d : Option ByteArray) (hd : d = if mk j = true then some (ss.getD j ByteArray.empty) else none) :
    ∃ w3, (Instr.mapUpdate 28 (.map (some gM)) (.string (ss.getD j ByteArray.empty)) (.pointer (some ⟨wr.heap.size, 0, none⟩))).run Try.prog (wr.alloc (scal d)).drew = .ok () w3 ∧
      DInv W w3 gM (j + 1) ss mk (fun i => if i = j then wr.heap.size else qs i) (D.put (kd (ss.getD j ByteArray.empty)) (.held wr.heap.size)) := by
  have hgM := h.map.own.lt
  have m2 := (h.map.kept (World.grownBy_alloc wr (scal d) none) (by simp))
  obtain ⟨w3, hrun, own3, turn⟩ := (m2.own.drew).store klaw Try.underlying28 hjm (keyOf_string_mk Try.underlying9 hs) (ptrR_some wr.heap.size)
  have g3 := turn.grown
  refine ⟨w3, hrun, ⟨m2.step wr.heap.size hs own3, ?_, h.lo, ?_⟩⟩
  · intro i hi
    by_cases e : i = j
    · rw [if_pos e, g3.block _ (by simp [World.drew]) (by simp; omega)]
      rw [e, ← hd]
      exact heap_alloc_new wr _
    · rw [if_neg e]
      have hb := h.blk i (by omega)
      have hlt : qs i < wr.heap.size := (Array.getElem?_eq_some_iff.1 hb).1
      have n1 : qs i ≠ gM := by
        intro e1
        obtain ⟨es, c, hh, _⟩ := h.map.own
        rw [e1, hh] at hb
        cases hb
      rw [g3.block _ (by simp [World.drew]; omega) (by simpa using n1)]
      exact (Below.heap_alloc wr _ _ hlt).trans hb
  · have b2 : Below W.heap.size W (wr.alloc (scal d)) := h.below.alloc h.below.size _
    exact (b2.drew).grown g3 (by have := b2.size; simpa [World.drew] using this) (by simpa using h.lo)

/-- the default that a block's cells tell -/
def dfOf (w : World) (q : Nat) : Option ByteArray :=
  match w.cell? ⟨q, 15, none⟩ with
  | some (.iface _ (.string s)) => some s
  | _ => none

theorem dfOf_scal {w : World} {q : Nat} {d : Option ByteArray} (h : w.heap[q]? = some (scal d)) : dfOf w q = d := by
  have c : w.cell? ⟨q, 15, none⟩ = some (dfV d) := cell_of_row w q 15 _ 46 (0, 0) h
  unfold dfOf
  rw [c]
  cases d <;> rfl

theorem DInv.elts {W wr : World} {gM j : Nat} {ss : List ByteArray} {mk : Nat → Bool} {qs : Nat → Nat} {D : DataW Nat} (h : DInv W wr gM j ss mk qs D) : Elts wr D (dfOf wr) := by
  intro kl hkl
  obtain ⟨i, hi, ha, _⟩ := h.map.elts kl hkl
  have hb := h.blk i hi
  refine ⟨qs i, ha, ?_⟩
  rw [dfOf_scal hb]
  exact hb

theorem lastTo_get {ss : List ByteArray} {s : ByteArray} {n i : Nat} (h : lastTo ss s n = i) : kd (ss.getD i ByteArray.empty) = kd s := by
  induction n with
  | zero => simp [lastTo] at h
  | succ n ih =>
    unfold lastTo at h
    split at h
    · rename_i he
      have : i = n := by omega
      subst this
      exact kd_inj.1 he
    · exact ih h

theorem lastTo_kd (ss : List ByteArray) {a b : ByteArray} (h : kd a = kd b) (n : Nat) : lastTo ss a n = lastTo ss b n := by
  induction n with
  | zero => rfl
  | succ n ih =>
    unfold lastTo
    rw [ih]
    have e : a.toList = b.toList := kd_inj.2 h
    rw [e]

/-- what the loop gathers in 'want' -/
def Want (ss : List ByteArray) (mk : Nat → Bool) (n j : Nat) : Prop := ∃ i, i < j ∧ mk i = true ∧ lastTo ss (ss.getD i ByteArray.empty) n = i

theorem want_step_yes {ss : List ByteArray} {mk : Nat → Bool} {n j : Nat} {wn : Bool} (h : wn = true ↔ Want ss mk n j) (h1 : mk j = true) (h2 : lastTo ss (ss.getD j ByteArray.empty) n = j) : (true = true) ↔ Want ss mk n (j + 1) :=
  ⟨fun _ => ⟨j, by omega, h1, h2⟩, fun _ => rfl⟩

theorem want_step_no {ss : List ByteArray} {mk : Nat → Bool} {n j : Nat} {wn : Bool} (h : wn = true ↔ Want ss mk n j) (h1 : ¬ (mk j = true ∧ lastTo ss (ss.getD j ByteArray.empty) n = j)) : wn = true ↔ Want ss mk n (j + 1) := by
  rw [h]
  constructor
  · rintro ⟨i, hi, a, b⟩; exact ⟨i, by omega, a, b⟩
  · rintro ⟨i, hi, a, b⟩
    by_cases e : i = j
    · subst e; exact absurd ⟨a, b⟩ h1
    · exact ⟨i, by omega, a, b⟩

/-- the answer that Struct gathers is what the loop wants -/
theorem DInv.want {W wr : World} {gM n : Nat} {ss : List ByteArray} {mk : Nat → Bool} {qs : Nat → Nat} {D : DataW Nat} (h : DInv W wr gM n ss mk qs D) (hs : ∀ i, i < n → (ss.getD i ByteArray.empty).size ≤ maxLen) :
    SomeDf D (dfOf wr) (fun _ => true) ↔ Want ss mk n n := by
  constructor
  · rintro ⟨kl, q, h1, _, h3, h4⟩
    obtain ⟨i, hi, ha, s, hz, rfl, hl⟩ := h.map.elts kl h1
    rw [ha] at h3
    cases h3
    rw [dfOf_scal (h.blk i hi)] at h4
    refine ⟨i, hi, ?_, ?_⟩
    · cases hm : mk i
      · rw [hm] at h4; simp at h4
      · rfl
    · rw [lastTo_kd ss (lastTo_get hl) n]; exact hl
  · rintro ⟨i, hi, hm, hl⟩
    obtain ⟨h1, h2⟩ := h.map.present _ i (hs i hi) hl
    refine ⟨_, _, h1, rfl, h2, ?_⟩
    rw [dfOf_scal (h.blk i hi), hm]
    rfl

end Go.Proofs.Qxb6616253a
