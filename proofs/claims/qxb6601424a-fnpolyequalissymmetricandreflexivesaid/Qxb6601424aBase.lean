import Derived.Test.Qxb6601424aRows
import Derived.WalkKit
import Derived.WalkSpells
import Derived.WalkLawsBesides
import Derived.Deep.MidRow
import Derived.Laws.CopyOwn
import Derived.Laws.StructEq
import Derived.DeepKeys
import Derived.Deep.QuietTactic
import Derived.BigQuiet
namespace Go.Proofs.Qxb6601424a
open Go.RowKit
set_option linter.unusedVariables false

theorem hide {p : Prop} (h : p) : Hid p := h
theorem unhide {p : Prop} (h : Hid p) : p := h

theorem Try.cells31 : Try.prog.cellsOf 31 = 3 := by kernel_rfl
theorem Try.cells26 : Try.prog.cellsOf 26 = 3 := by kernel_rfl
theorem Try.info31 : (Try.prog.info? 31).map (fun i => (i.zero, i.size, i.bytes)) = some (some (.agg #[.int .u64 0, .int .u64 0, .int .u64 0]), 3, 24) := by kernel_rfl
theorem Try.info26 : (Try.prog.info? 26).map (fun i => (i.zero, i.size, i.bytes)) = some (some (.agg #[.int .u64 0, .int .u64 0, .int .u64 0]), 3, 24) := by kernel_rfl
theorem Try.cells24 : Try.prog.cellsOf 24 = 1 := by kernel_rfl
theorem Try.keyType31 : Try.prog.keyTypeAt 3 31 = true := by kernel_rfl

abbrev T3 := Int × Int × Int
def tri (t : T3) : List Value := [.int .u64 t.1, .int .u64 t.2.1, .int .u64 t.2.2]
/-- The cells of the first n triples. -/
def cellsTo (X : Nat → T3) : Nat → List Value
  | 0 => []
  | k + 1 => cellsTo X k ++ tri (X k)

theorem cellsTo_len (X : Nat → T3) : ∀ n, (cellsTo X n).length = n * 3
  | 0 => rfl
  | n + 1 => by rw [cellsTo, List.length_append, cellsTo_len X n]; simp [tri]; omega

theorem cellsTo_one (X : Nat → T3) : ∀ n, ∀ v ∈ cellsTo X n, v.oneCell' = true
  | 0, v, h => by simp [cellsTo] at h
  | n + 1, v, h => by
    rcases List.mem_append.1 h with h1 | h1
    · exact cellsTo_one X n v h1
    · simp [tri] at h1
      rcases h1 with rfl | rfl | rfl <;> rfl

def InR (t : T3) : Prop := (0 ≤ t.1 ∧ t.1 ≤ 18446744073709551615) ∧ (0 ≤ t.2.1 ∧ t.2.1 ≤ 18446744073709551615) ∧ 0 ≤ t.2.2 ∧ t.2.2 ≤ 18446744073709551615

/-- A slice of n triples. -/
def R3 (w : World) (a : Option Addr) (n : Nat) (X : Nat → T3) : Prop :=
  0 < n → ∃ b off, a = some ⟨b, off, none⟩ ∧ b < w.heap.size ∧ w.rangeAt b off (cellsTo X n)

theorem R3.below {w w' : World} {a : Option Addr} {n : Nat} {X : Nat → T3} (h : R3 w a n X) (hb : Below w.heap.size w w') : R3 w' a n X := by
  intro h0
  obtain ⟨b, off, ha, hlt, hc⟩ := h h0
  exact ⟨b, off, ha, Nat.lt_of_lt_of_le hlt hb.size, fun j v hv => (hb.cell (p := ⟨b, off + j, none⟩) hlt).trans (hc j v hv)⟩

theorem cellsTo_at (X : Nat → T3) {n k : Nat} (h : k < n) : (cellsTo X n)[k * 3]? = some (.int .u64 (X k).1) ∧ (cellsTo X n)[k * 3 + 1]? = some (.int .u64 (X k).2.1) ∧ (cellsTo X n)[k * 3 + 2]? = some (.int .u64 (X k).2.2) := by
  induction n with
  | zero => omega
  | succ n ih =>
    have hl := cellsTo_len X n
    by_cases e : k = n
    · subst e
      rw [cellsTo, List.getElem?_append_right (by omega), List.getElem?_append_right (by omega), List.getElem?_append_right (by omega), hl]
      refine ⟨by simp [tri], ?_, ?_⟩
      · rw [show k * 3 + 1 - k * 3 = 1 by omega]; rfl
      · rw [show k * 3 + 2 - k * 3 = 2 by omega]; rfl
    · rw [cellsTo, List.getElem?_append_left (by omega), List.getElem?_append_left (by omega), List.getElem?_append_left (by omega)]
      exact ih (by omega)

theorem rangeAt_append {w : World} {b o : Nat} {xs ys : List Value} (h1 : w.rangeAt b o xs) (h2 : w.rangeAt b (o + xs.length) ys) : w.rangeAt b o (xs ++ ys) := by
  intro j v hv
  rw [List.getElem?_append] at hv
  split at hv
  · exact h1 j v hv
  · have := h2 (j - xs.length) v hv
    rwa [show o + xs.length + (j - xs.length) = o + j by omega] at this

theorem Below.setCells {B b : Nat} (hB : B ≤ b) : ∀ (vs : List Value) (o : Nat) {a w : World}, Below B a w → Below B a (w.setCells b o vs)
  | [], _, _, _, h => h
  | v :: r, o, _, _, h => by
    rw [World.setCells]
    exact Below.setCells hB r (o + 1) (h.setCell (p := ⟨b, o, none⟩) hB v)

/-- 'copy(dst, src)' of elements of three cells. -/
theorem run_copy3 (w : World) (dT sT ty elem : TypeId) (g dLen dCap : Nat) (a : Addr) (sLen sCap : Nat) (cs : List Value)
    (hu : Try.prog.underlying dT = some (.slice elem)) (hs : (Try.prog.info? elem).map (·.size) = some 3) (hn : cs.length = Nat.min sLen dLen * 3)
    (hth : ∀ j, j < cs.length → (w.cell? ⟨g, 0 + j, none⟩).isSome = true ∧ w.frozen? ⟨g, 0 + j, none⟩ = false)
    (hsrc : ∀ j v, cs[j]? = some v → w.cell? (a.add j) = some v) (h1 : ∀ v ∈ cs, v.oneCell' = true) :
    (Builtin.copy_ #[dT, sT] ty #[.slice (some ⟨g, 0, none⟩) dLen dCap, .slice (some a) sLen sCap]).run Try.prog w = .ok (goInt (Nat.min sLen dLen)) (w.setCells g 0 cs) := by
  have hl := run_loadCells_list (P := Try.prog) w a cs hsrc
  have hst := run_storeCells_cells (P := Try.prog) g 0 cs 0 w (fun j hj => by simpa using (hth j hj).1) (fun j hj => by simpa using (hth j hj).2) h1
  cases hq : Try.prog.info? elem with
  | none => simp [hq] at hs
  | some i =>
    have hi : i.size = 3 := by simpa [hq] using hs
    simp [Builtin.copy_, run_underlying hu, Builtin.lenOf, Builtin.firstCells, sizeOf, typeInfo, hq, hi, ← hn, hl, hst]

theorem lits3 (x : T3) (hx : InR x) : Try.prog.keyLits 5 31 [.int .u64 x.1, .int .u64 x.2.1, .int .u64 x.2.2] = some [.int .u64 x.1, .int .u64 x.2.1, .int .u64 x.2.2] := by
  have w1 := WalkArith.wf_u64 hx.1
  have w2 := WalkArith.wf_u64 hx.2.1
  have w3 := WalkArith.wf_u64 hx.2.2
  have r3 : List.range 3 = [0, 1, 2] := by decide
  simp [Program.keyLits, Try.underlying31, Try.underlying24, Try.cells31, Try.cells24, r3, List.mapM_cons, w1, w2, w3]

/-- Two triples are told apart as Go tells arrays apart. -/
theorem run_neq3 (x y : T3) (hx : InR x) (hy : InR y) (w : World) : (binOp .neq 31 (.agg #[.int .u64 x.1, .int .u64 x.2.1, .int .u64 x.2.2]) (.agg #[.int .u64 y.1, .int .u64 y.2.1, .int .u64 y.2.2])).run Try.prog w = .ok (.bool (!decide (x = y))) w := by
  have fm : ∀ z : T3, (Value.agg #[.int .u64 z.1, .int .u64 z.2.1, .int .u64 z.2.2]).formed Try.prog 31 = true := fun z => by simp [Value.formed, Try.underlying31, Try.cells31]
  obtain ⟨q, hq, hiff⟩ := run_equalIn_deep (P := Try.prog) 9997 3 31 Try.keyType31 w 5 5 (.agg #[.int .u64 x.1, .int .u64 x.2.1, .int .u64 x.2.2]) (.agg #[.int .u64 y.1, .int .u64 y.2.1, .int .u64 y.2.2]) _ _ (fm x) (fm y) (by simpa [Value.cells] using lits3 x hx) (by simpa [Value.cells] using lits3 y hy)
  rw [run_neq_struct, hq]
  have : q = decide (x = y) := by
    by_cases h : x = y
    · rw [decide_eq_true h]; exact hiff.2 (by rw [h])
    · rw [decide_eq_false h]
      cases q with
      | false => rfl
      | true =>
        refine absurd ?_ h
        have := hiff.1 rfl
        simp at this
        exact Prod.ext this.1 (Prod.ext this.2.1 this.2.2)
  rw [this]
  rfl
end Go.Proofs.Qxb6601424a
