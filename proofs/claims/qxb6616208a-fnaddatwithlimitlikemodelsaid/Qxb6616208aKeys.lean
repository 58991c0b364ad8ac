/-
  Keys: '==' on zzKey (73); joinKey (97) as a map's key.
-/
import Derived.Test.Qxb6616208aPdu
import Derived.Laws.StructEq
import Derived.Maps.Keyed
import Derived.DeepKeys4
namespace Go.Proofs.Qxb6616208a
open Go.RowKit Go.Maps
set_option linter.unusedVariables false
set_option linter.unusedSimpArgs false

/-- are two keys the same -/
def Key.same (k k' : Key) : Bool := k.typ == k'.typ && (k.ton == k'.ton && (k.npi == k'.npi && ((k.num.toList == k'.num.toList) && (k.ref == k'.ref && k.tot == k'.tot))))

theorem Key.same_iff {k k' : Key} : k.same k' = true ↔ k = k' := by
  constructor
  · intro h
    simp only [Key.same, Bool.and_eq_true, beq_iff_eq] at h
    obtain ⟨h1, h2, h3, h4, h5, h6⟩ := h
    have h4' : k.num = k'.num := by
      rw [ByteArray.toList_eq, ByteArray.toList_eq] at h4
      have h5 : k.num.data = k'.num.data := Array.ext' h4
      cases hk : k.num; cases hk' : k'.num
      rw [hk, hk'] at h5
      simp only [] at h5
      rw [h5]
    cases k; cases k'
    simp_all
  · rintro rfl
    simp [Key.same]

set_option maxHeartbeats 400000 in
theorem eq73 (k k' : Key) (w : World) : (Op.equalIn 10000 73 (.agg #[.int .i64 k.typ, .int .u8 k.ton, .int .u8 k.npi, .string k.num, .int .i64 k.ref, .int .i64 k.tot]) (.agg #[.int .i64 k'.typ, .int .u8 k'.ton, .int .u8 k'.npi, .string k'.num, .int .i64 k'.ref, .int .i64 k'.tot])).run Try.prog w = .ok (k.same k') w := by
  have hS : Try.prog.underlying 73 = some (.struct (Try.prog.fieldsOf 73)) := by kernel_rfl
  have hp : Try.prog.stoodInHeld 73 = false := by kernel_rfl
  rw [show (10000 : Nat) = 9999 + 1 from rfl, run_equalIn_agg w 9999 73 _ _ hS hp]
  simp only [Program.fieldsOf, Try.underlying73]
  unfold Key.same
  cases h1 : (k.typ == k'.typ) <;> cases h2 : (k.ton == k'.ton) <;> cases h3 : (k.npi == k'.npi) <;> cases h4 : (k.num.toList == k'.num.toList) <;> cases h5 : (k.ref == k'.ref) <;> cases h6 : (k.tot == k'.tot) <;> go_simp

theorem keyed97 : Keyed Try.prog 97 := Keyed.of_law (deep_law_laid (m := 9) (by kernel_rfl) (by omega) (of_decide_eq_true (by kernel_rfl)) (by kernel_rfl) (by kernel_rfl))

/-- a key that a map can hold -/
structure Key.Ok (k : Key) : Prop where
  typ : -9223372036854775808 ≤ k.typ ∧ k.typ < 9223372036854775808
  ton : 0 ≤ k.ton ∧ k.ton < 256
  npi : 0 ≤ k.npi ∧ k.npi < 256
  num : k.num.size ≤ maxLen
  ref : 0 ≤ k.ref ∧ k.ref < 65536
  tot : 1 ≤ k.tot ∧ k.tot < 256

/-- a key's value -/
def Key.val (k : Key) : Value := .agg #[.int .i64 k.typ, .int .u8 k.ton, .int .u8 k.npi, .string k.num, .int .i64 k.ref, .int .i64 k.tot]

theorem Key.val_inj {k k' : Key} (h : k.val = k'.val) : k = k' := by
  simp [Key.val] at h
  cases k; cases k'
  simp_all

theorem key_lits (k : Key) (hk : k.Ok) (d : Nat) : Try.prog.keyLits (d + 3) 97 k.cells = some [.int .i64 k.typ, .int .u8 k.ton, .int .u8 k.npi, .string k.num.data.toList, .int .i64 k.ref, .int .i64 k.tot] := by
  obtain ⟨h1, h2, h3, h4, h5, h6⟩ := hk
  have c97 : Try.prog.cellsOf 97 = 6 := by kernel_rfl
  have c34 : Try.prog.cellsOf 34 = 3 := by kernel_rfl
  have c35 : Try.prog.cellsOf 35 = 1 := by kernel_rfl
  have c3 : Try.prog.cellsOf 3 = 1 := by kernel_rfl
  have c5 : Try.prog.cellsOf 5 = 1 := by kernel_rfl
  have c9 : Try.prog.cellsOf 9 = 1 := by kernel_rfl
  have w1 : (Lit.int .i64 k.typ).wf = true := by simp [Lit.wf, IntKind.min, IntKind.max, IntKind.bits, IntKind.signed]; omega
  have w2 : (Lit.int .u8 k.ton).wf = true := by simp [Lit.wf, IntKind.min, IntKind.max, IntKind.bits, IntKind.signed]; omega
  have w3 : (Lit.int .u8 k.npi).wf = true := by simp [Lit.wf, IntKind.min, IntKind.max, IntKind.bits, IntKind.signed]; omega
  have w5 : (Lit.int .i64 k.ref).wf = true := by simp [Lit.wf, IntKind.min, IntKind.max, IntKind.bits, IntKind.signed]; omega
  have w6 : (Lit.int .i64 k.tot).wf = true := by simp [Lit.wf, IntKind.min, IntKind.max, IntKind.bits, IntKind.signed]; omega
  have l34 : Try.prog.keyLits (d + 2) 34 [.int .u8 k.ton, .int .u8 k.npi, .string k.num] = some [.int .u8 k.ton, .int .u8 k.npi, .string k.num.data.toList] := by
    unfold Program.keyLits
    simp only [Try.underlying34]
    rw [if_pos ⟨by rw [c34]; rfl, by decide +kernel⟩]
    simp [Program.keyLits, Try.underlying5, Try.underlying9, c5, c9, w2, w3, h4]
  unfold Program.keyLits
  simp only [Try.underlying97]
  rw [if_pos ⟨by rw [c97]; rfl, by decide +kernel⟩]
  have e1 : Try.prog.keyLits (d + 2) 35 [.int .i64 k.typ] = some [.int .i64 k.typ] := by simp [Program.keyLits, Try.underlying35, w1]
  have e2 : Try.prog.keyLits (d + 2) 3 [.int .i64 k.ref] = some [.int .i64 k.ref] := by simp [Program.keyLits, Try.underlying3, w5]
  have e3 : Try.prog.keyLits (d + 2) 3 [.int .i64 k.tot] = some [.int .i64 k.tot] := by simp [Program.keyLits, Try.underlying3, w6]
  simp [Key.cells, c34, c35, c3, l34, e1, e2, e3]

theorem key_of (k : Key) (hk : k.Ok) : ∃ l, keyOf Try.prog 97 k.val = some l := by
  have h1 : Try.prog.keyType 97 = true := by kernel_rfl
  have h2 : k.val.formed Try.prog 97 = true := by
    have c97 : Try.prog.cellsOf 97 = 6 := by kernel_rfl
    simp [Value.formed, Key.val, Try.underlying97, c97]
  have h3 : 2 ≤ Try.prog.types.size := of_decide_eq_true (by kernel_rfl)
  obtain ⟨d, hd⟩ : ∃ d, Try.prog.types.size + 1 = d + 3 := ⟨Try.prog.types.size - 2, by omega⟩
  refine ⟨.string (keyBytes [.int .i64 k.typ, .int .u8 k.ton, .int .u8 k.npi, .string k.num.data.toList, .int .i64 k.ref, .int .i64 k.tot]), ?_⟩
  unfold keyOf
  rw [Try.underlying97]
  simp only [h1, h2, Bool.and_self, if_true]
  rw [hd, show k.val.cells.toList = k.cells from rfl, key_lits k hk d]
  rfl

end Go.Proofs.Qxb6616208a
