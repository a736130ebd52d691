import Derived.Test.Qxb6600722aRows
import Derived.WalkKit
import Derived.WalkSpells
import Derived.WalkLawsBesides
import Derived.Deep.MidRow
import Derived.Laws.StructEq
import Derived.DeepKeys
namespace Go.Proofs.Qxb6600722a
open Go.RowKit

theorem hide {p : Prop} (h : p) : Hid p := h
theorem unhide {p : Prop} (h : Hid p) : p := h

theorem Try.cells47 : Try.prog.cellsOf 47 = 18 := by kernel_rfl
theorem Try.size47 : (Try.prog.info? 47).map (·.size) = some 18 := by kernel_rfl
theorem Try.info47 : (Try.prog.info? 47).map (fun i => (i.zero, i.size, i.bytes)) = some (some (.agg #[.int .u8 0, .int .u8 0, .int .u8 0, .int .u8 0, .int .u8 0, .int .u8 0, .int .u8 0, .int .u8 0, .int .u8 0, .int .u8 0, .int .u8 0, .int .u8 0, .int .u8 0, .int .u8 0, .int .u8 0, .int .u8 0, .int .u64 0, .int .u64 0]), 18, 32) := by kernel_rfl
theorem Try.info49 : (Try.prog.info? 49).map (fun i => (i.zero, i.size, i.bytes)) = some (some (.pointer none), 1, 8) := by kernel_rfl
theorem Try.info28 : (Try.prog.info? 28).map (fun i => (i.zero, i.size, i.bytes)) = some (some (.slice none 0 0), 1, 24) := by kernel_rfl
theorem Try.guard47 : Try.prog.eqGuardType Try.prog.depth 47 = false := by kernel_rfl
theorem Try.fields47 : Try.prog.underlying 47 = some (.struct (Try.prog.fieldsOf 47)) := by kernel_rfl
theorem Try.stood47 : Try.prog.stoodInHeld 47 = false := by kernel_rfl

/-- The sixteen cells of a GUID. -/
def guidV (g : Int) : List Value :=
  [.int .u8 (g % 256), .int .u8 (g / 256 % 256), .int .u8 (g / 65536 % 256), .int .u8 (g / 16777216 % 256), .int .u8 (g / 4294967296 % 256), .int .u8 (g / 1099511627776 % 256),
    .int .u8 (g / 281474976710656 % 256), .int .u8 (g / 72057594037927936), .int .u8 0, .int .u8 0, .int .u8 0, .int .u8 0, .int .u8 0, .int .u8 0, .int .u8 0, .int .u8 0]

/-- The eighteen cells of a range. -/
def rngV (g f t : Int) : List Value := guidV g ++ [.int .u64 f, .int .u64 t]

/-- What is asked of a range's cells: as many as the type has, each one cell, and two of them can be compared. -/
structure IsRng (r : List Value) : Prop where
  len : r.length = 18
  one : ∀ v ∈ r, v.oneCell' = true
  lits : ∃ la, Try.prog.keyLits 5 47 r = some la
  formed : (Value.agg r.toArray).formed Try.prog 47 = true

theorem Try.cells43 : Try.prog.cellsOf 43 = 16 := by kernel_rfl
theorem Try.cells5 : Try.prog.cellsOf 5 = 1 := by kernel_rfl
theorem Try.cells45 : Try.prog.cellsOf 45 = 1 := by kernel_rfl

theorem range16 : List.range 16 = [0, 1, 2, 3, 4, 5, 6, 7, 8, 9, 10, 11, 12, 13, 14, 15] := by decide

theorem lits_guid (b0 b1 b2 b3 b4 b5 b6 b7 : Int) (h0 : 0 ≤ b0 ∧ b0 ≤ 255) (h1 : 0 ≤ b1 ∧ b1 ≤ 255) (h2 : 0 ≤ b2 ∧ b2 ≤ 255) (h3 : 0 ≤ b3 ∧ b3 ≤ 255) (h4 : 0 ≤ b4 ∧ b4 ≤ 255) (h5 : 0 ≤ b5 ∧ b5 ≤ 255) (h6 : 0 ≤ b6 ∧ b6 ≤ 255) (h7 : 0 ≤ b7 ∧ b7 ≤ 255) :
    ∃ la, Try.prog.keyLits 4 43 [.int .u8 b0, .int .u8 b1, .int .u8 b2, .int .u8 b3, .int .u8 b4, .int .u8 b5, .int .u8 b6, .int .u8 b7, .int .u8 0, .int .u8 0, .int .u8 0, .int .u8 0, .int .u8 0, .int .u8 0, .int .u8 0, .int .u8 0] = some la := by
  have z0 : (Lit.int .u8 0).wf = true := by decide
  simp [Program.keyLits, Try.underlying43, Try.underlying5, Try.cells43, Try.cells5, range16, List.mapM_cons, WalkArith.wf_u8 h0, WalkArith.wf_u8 h1, WalkArith.wf_u8 h2, WalkArith.wf_u8 h3, WalkArith.wf_u8 h4, WalkArith.wf_u8 h5, WalkArith.wf_u8 h6, WalkArith.wf_u8 h7, z0]

theorem isRng (g f t : Int) (hg : 0 ≤ g ∧ g ≤ 18446744073709551615) (hf : 0 ≤ f ∧ f ≤ 18446744073709551615) (ht : 0 ≤ t ∧ t ≤ 18446744073709551615) : IsRng (rngV g f t) := by
  refine ⟨rfl, ?_, ?_, ?_⟩
  · intro v hv
    simp [rngV, guidV] at hv
    rcases hv with h | h | h | h | h | h | h | h | h | h | h <;> subst h <;> rfl
  · obtain ⟨la, hla⟩ := lits_guid (g % 256) (g / 256 % 256) (g / 65536 % 256) (g / 16777216 % 256) (g / 4294967296 % 256) (g / 1099511627776 % 256) (g / 281474976710656 % 256) (g / 72057594037927936) (by omega) (by omega) (by omega) (by omega) (by omega) (by omega) (by omega) (by omega)
    have wf := WalkArith.wf_u64 hf
    have wt := WalkArith.wf_u64 ht
    have kf : Try.prog.keyLits 4 45 [.int .u64 f] = some [.int .u64 f] := by simp [Program.keyLits, Try.underlying45, wf]
    have kt : Try.prog.keyLits 4 45 [.int .u64 t] = some [.int .u64 t] := by simp [Program.keyLits, Try.underlying45, wt]
    unfold Program.keyLits
    simp [Try.underlying47, Try.cells47, Try.cells43, Try.cells45, rngV, guidV, hla, kf, kt]
  · simp [Value.formed, Try.underlying47, Try.cells47, rngV, guidV]

theorem Try.keyType47 : Try.prog.keyTypeAt 5 47 = true := by kernel_rfl

/-- A range is no other than itself. -/
theorem run_neq_rng (r : List Value) (h : IsRng r) (w : World) : (binOp .neq 47 (.agg r.toArray) (.agg r.toArray)).run Try.prog w = .ok (.bool false) w := by
  obtain ⟨la, hla⟩ := h.lits
  obtain ⟨q, hq, hiff⟩ := run_equalIn_deep (P := Try.prog) 9995 5 47 Try.keyType47 w 5 5 (.agg r.toArray) (.agg r.toArray) la la h.formed h.formed (by simpa [Value.cells] using hla) (by simpa [Value.cells] using hla)
  obtain rfl : q = true := hiff.2 rfl
  rw [run_neq_struct, hq]
  rfl

end Go.Proofs.Qxb6600722a
