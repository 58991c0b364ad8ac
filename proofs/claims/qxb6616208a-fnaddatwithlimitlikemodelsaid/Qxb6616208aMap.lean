/-
  The joiner's map: what its entries are; m[k], m[k] = v, delete(m, k).
-/
import Derived.Test.Qxb6616208aKeys
namespace Go.Proofs.Qxb6616208a
open Go.RowKit Go.Maps
open Go.ChangeMaps (setBlock)
set_option linter.unusedVariables false
set_option linter.unusedSimpArgs false

/-- an entry, plain -/
def ent (x : Key × Nat) : Value × Value := (x.1.val, .pointer (some ⟨x.2, 0, none⟩))

/-- the map's entries -/
def MapIs (w : World) (mb : Nat) (L : List (Key × Nat)) : Prop :=
  ∃ es clock, w.heap[mb]? = some (.map es clock) ∧ MapKept.Stamped es clock ∧ es.toList.map (fun e => (e.key, e.val)) = L.map ent

theorem MapIs.lt {w : World} {mb : Nat} {L : List (Key × Nat)} (h : MapIs w mb L) : mb < w.heap.size := by
  obtain ⟨es, c, h1, _⟩ := h
  exact (Array.getElem?_eq_some_iff.1 h1).1

theorem MapIs.block {w w' : World} {mb : Nat} {L : List (Key × Nat)} (h : MapIs w mb L) (e : w'.heap[mb]? = w.heap[mb]?) : MapIs w' mb L := by
  obtain ⟨es, c, h1, h2⟩ := h
  exact ⟨es, c, e.trans h1, h2⟩

theorem ent_at {L : List (Key × Nat)} {es : List MapEntry} (h : es.map (fun e => (e.key, e.val)) = L.map ent) {j : Nat} {e : MapEntry} (hj : es[j]? = some e) : ∃ x, L[j]? = some x ∧ e.key = x.1.val ∧ e.val = .pointer (some ⟨x.2, 0, none⟩) := by
  have h1 : (es.map (fun e => (e.key, e.val)))[j]? = some (e.key, e.val) := by rw [List.getElem?_map, hj]; rfl
  rw [h, List.getElem?_map] at h1
  cases hx : L[j]? with
  | none => rw [hx] at h1; cases h1
  | some x =>
    rw [hx] at h1
    simp only [Option.map_some, Option.some.injEq, ent, Prod.mk.injEq] at h1
    exact ⟨x, rfl, h1.1.symm, h1.2.symm⟩

theorem keys_ok {L : List (Key × Nat)} {es : List MapEntry} (h : es.map (fun e => (e.key, e.val)) = L.map ent) (hL : ∀ x ∈ L, x.1.Ok) : ∀ e ∈ es, ∃ l, keyOf Try.prog 97 e.key = some l := by
  intro e he
  obtain ⟨j, hj⟩ := List.mem_iff_getElem?.1 he
  obtain ⟨x, hx, e1, _⟩ := ent_at h hj
  rw [e1]
  exact key_of x.1 (hL x (List.mem_of_getElem? hx))

/-- what findKey comes to -/
theorem find_key {L : List (Key × Nat)} {es : List MapEntry} (h : es.map (fun e => (e.key, e.val)) = L.map ent) (hL : ∀ x ∈ L, x.1.Ok) (k : Key) (hk : k.Ok) (w : World) :
    ((Instr.findKey 97 k.val es).run Try.prog w = .ok none w ∧ (∀ x ∈ L, x.1 ≠ k) ∧ ∀ e ∈ es, e.key ≠ k.val) ∨ ∃ j x, (Instr.findKey 97 k.val es).run Try.prog w = .ok (some (j, .pointer (some ⟨x.2, 0, none⟩))) w ∧ L[j]? = some x ∧ x.1 = k := by
  obtain ⟨l, hl⟩ := key_of k hk
  rcases keyed97.find w hl es (keys_ok h hL) with ⟨h1, h2⟩ | ⟨j, e, h1, h2, h3⟩
  · refine Or.inl ⟨h1, fun x hx e0 => ?_, h2⟩
    have : ent x ∈ es.map (fun e => (e.key, e.val)) := by rw [h]; exact List.mem_map_of_mem hx
    obtain ⟨e, he, e1⟩ := List.mem_map.1 this
    refine h2 e he ?_
    simp only [ent, Prod.mk.injEq] at e1
    rw [e1.1, e0]
  · obtain ⟨x, hx, e1, e2⟩ := ent_at h h2
    refine Or.inr ⟨j, x, by rw [h1, e2], hx, ?_⟩
    exact Key.val_inj (e1.symm.trans h3)

theorem zero58 (w : World) : (zeroValue 58).run Try.prog w = .ok (.pointer none) w := by kernel_rfl

/-- m[k] where the key is not there -/
theorem look_none {w : World} {mb : Nat} {L : List (Key × Nat)} (h : MapIs w mb L) (hL : ∀ x ∈ L, x.1.Ok) (k : Key) (hk : k.Ok) (hn : ∀ x ∈ L, x.1 ≠ k) :
    (Instr.lookup 57 (.map (some mb)) k.val false).run Try.prog w = .ok (.pointer none) w := by
  obtain ⟨es, c, h1, h2, h3⟩ := h
  obtain ⟨l, hl⟩ := key_of k hk
  rcases find_key h3 hL k hk w with ⟨f, _⟩ | ⟨j, x, f, hx, e⟩
  · simp [Instr.lookup, run_underlying Try.underlying57, MapKept.run_getObj_map h1, keyed97.check w _ hl, f, zero58, Result.andThen]
  · exact absurd e (hn x (List.mem_of_getElem? hx))

/-- .. the map nil -/
theorem look_nil (w : World) (k : Key) (hk : k.Ok) : (Instr.lookup 57 (.map none) k.val false).run Try.prog w = .ok (.pointer none) w := by
  obtain ⟨l, hl⟩ := key_of k hk
  rcases find_key (L := []) (es := []) rfl (by simp) k hk w with ⟨f, _⟩ | ⟨j, x, f, hx, e⟩
  · simp [Instr.lookup, run_underlying Try.underlying57, keyed97.check w _ hl, f, zero58, Result.andThen]
  · simp at hx

/-- .. where it is there -/
theorem look_some {w : World} {mb : Nat} {L : List (Key × Nat)} (h : MapIs w mb L) (hL : ∀ x ∈ L, x.1.Ok) (k : Key) (hk : k.Ok) {m : Nat} (hm : (k, m) ∈ L) (hu : ∀ m', (k, m') ∈ L → m' = m) :
    (Instr.lookup 57 (.map (some mb)) k.val false).run Try.prog w = .ok (.pointer (some ⟨m, 0, none⟩)) w := by
  obtain ⟨es, c, h1, h2, h3⟩ := h
  obtain ⟨l, hl⟩ := key_of k hk
  rcases find_key h3 hL k hk w with ⟨_, f, _⟩ | ⟨j, x, f, hx, e⟩
  · exact absurd rfl (f (k, m) hm)
  · obtain ⟨k', m'⟩ := x
    simp only [] at e f
    subst e
    rw [hu m' (List.mem_of_getElem? hx)] at f
    simp [Instr.lookup, run_underlying Try.underlying57, MapKept.run_getObj_map h1, keyed97.check w _ hl, f, Result.andThen]

theorem setBlock_heap (w : World) (b : Nat) (o : Obj) (hb : b < w.heap.size) : (setBlock w b o).heap[b]? = some o := by
  simp [setBlock, hb]
theorem setBlock_grown (w : World) (b : Nat) (o : Obj) : w.grownBy (setBlock w b o) (some b) :=
  ⟨rfl, rfl, rfl, by simp [setBlock], fun k _ hk => by
    have : k ≠ b := fun e => hk (by rw [e])
    simp [setBlock, Array.getElem?_setIfInBounds, Ne.symm this]⟩

/-- m[k] = v, a new key -/
theorem put_new {w : World} {mb : Nat} {L : List (Key × Nat)} (h : MapIs w mb L) (hL : ∀ x ∈ L, x.1.Ok) (k : Key) (hk : k.Ok) (hn : ∀ x ∈ L, x.1 ≠ k) (m : Nat) :
    ∃ w', (Instr.mapUpdate 57 (.map (some mb)) k.val (.pointer (some ⟨m, 0, none⟩))).run Try.prog w = .ok () w' ∧ MapIs w' mb (L ++ [(k, m)]) ∧ w.grownBy w' (some mb) ∧ w'.heap.size = w.heap.size := by
  have hlt := h.lt
  obtain ⟨es, c, h1, h2, h3⟩ := h
  obtain ⟨l, hl⟩ := key_of k hk
  rcases find_key h3 hL k hk w with ⟨f, _, hne⟩ | ⟨j, x, f, hx, e⟩
  · refine ⟨setBlock w mb (.map (es.push ⟨k.val, .pointer (some ⟨m, 0, none⟩), c⟩) (c + 1)), ?_, ⟨_, _, setBlock_heap _ _ _ hlt, MapKept.stamped_push h2 hne, ?_⟩, setBlock_grown _ _ _, by simp [setBlock]⟩
    · simp [Instr.mapUpdate, run_underlying Try.underlying57, MapKept.run_getObj_map h1, keyed97.check w false hl, f, MapKept.run_setObj_map _ h1, Result.andThen, setBlock]
    · rw [Array.toList_push, List.map_append, h3, List.map_append]
      rfl
  · exact absurd e (hn x (List.mem_of_getElem? hx))

/-- delete(m, k) -/
theorem del_key {w : World} {mb : Nat} {L : List (Key × Nat)} (h : MapIs w mb L) (hL : ∀ x ∈ L, x.1.Ok) (k : Key) (hk : k.Ok) {m : Nat} (hm : (k, m) ∈ L) (hu : ∀ m', (k, m') ∈ L → m' = m) :
    ∃ w' j, (∀ ty, (Builtin.delete_ #[57, 97] ty #[.map (some mb), k.val]).run Try.prog w = .ok (.tuple #[]) w') ∧ L[j]? = some (k, m) ∧ MapIs w' mb (L.eraseIdx j) ∧ w.grownBy w' (some mb) ∧ w'.heap.size = w.heap.size := by
  have hlt := h.lt
  obtain ⟨es, c, h1, h2, h3⟩ := h
  obtain ⟨l, hl⟩ := key_of k hk
  rcases find_key h3 hL k hk w with ⟨_, f, _⟩ | ⟨j, x, f, hx, e⟩
  · exact absurd rfl (f (k, m) hm)
  · obtain ⟨k', m'⟩ := x
    simp only [] at e f
    subst e
    have hm' := hu m' (List.mem_of_getElem? hx)
    subst hm'
    have hjL : j < L.length := (List.getElem?_eq_some_iff.1 hx).1
    have hjs : j < es.size := by
      have := congrArg List.length h3
      simp at this
      omega
    have hsub : (es.eraseIdxIfInBounds j).toList = es.toList.eraseIdx j := by
      unfold Array.eraseIdxIfInBounds
      rw [dif_pos hjs]
      simp
    refine ⟨setBlock w mb (.map (es.eraseIdxIfInBounds j) c), j, ?_, hx, ⟨_, _, setBlock_heap _ _ _ hlt, MapKept.stamped_erase h2 j, ?_⟩, setBlock_grown _ _ _, by simp [setBlock]⟩
    · intro ty
      simp [Builtin.delete_, run_underlying Try.underlying57, MapKept.run_getObj_map h1, keyed97.check w _ hl, f, MapKept.run_setObj_map _ h1, Result.andThen, setBlock]
    · rw [hsub, ChangeMaps.map_eraseIdx, h3, ChangeMaps.map_eraseIdx]

end Go.Proofs.Qxb6616208a
