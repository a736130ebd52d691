import Derived.Test.Qxb6600722aLawA
import Derived.ProofKit
import Derived.OpenShut
import Derived.ChangeOld
import Derived.Below
import Derived.Deep.Matrix
namespace Go.Proofs.Qxb6600722a
open Go.ChangeShapes Go.WideShapes Go.ChangeAt Go.RowKit
set_option linter.unusedVariables false

theorem own : ownKnob Try.prog.godebug = none := by kernel_rfl
theorem laidOut : laidOutB Try.prog = true := by kernel_rfl

theorem rowI_open {w : World} {x : Addr} {len cap : Nat} {zs : List Int} (hl : len ≤ cap) (hz : zs.length = cap) (hc : ∀ i, i < cap → w.cell? (x.add i) = some (.int .u64 (zs.getD i 0))) :
    RowV w (some x) len (fun j => .int .u64 ((zs.take len).getD j 0)) := by
  intro h0
  obtain ⟨b, off, spot⟩ := x
  have hspot : spot = none := by simpa [Addr.add] using World.cell?_spot (hc 0 (by omega))
  subst hspot
  have hlt : b < w.heap.size := World.block_lt_of_cell? w _ (hc 0 (by omega))
  refine ⟨b, off, rfl, hlt, fun j hj => ?_⟩
  rw [← Go.WideShapes.add_plain, hc j (by omega)]
  simp [List.getD, hj]

theorem rowS_open {w : World} {x : Addr} {len cap : Nat} {V : Nat → Value} (hl : len ≤ cap) (hc : ∀ i, i < cap → w.cell? (x.add i) = some (V i)) : RowV w (some x) len V := by
  intro h0
  obtain ⟨b, off, spot⟩ := x
  have hspot : spot = none := by simpa [Addr.add] using World.cell?_spot (hc 0 (by omega))
  subst hspot
  have hlt : b < w.heap.size := World.block_lt_of_cell? w _ (hc 0 (by omega))
  refine ⟨b, off, rfl, hlt, fun j hj => ?_⟩
  rw [← Go.WideShapes.add_plain, hc j (by omega)]

theorem take_bounds {zs : List Int} (len : Nat) (h : ∀ n ∈ zs, (Lit.int .u64 n).wf = true) (j : Nat) : 0 ≤ (zs.take len).getD j 0 ∧ (zs.take len).getD j 0 ≤ 18446744073709551615 := by
  rw [List.getD_eq_getElem?_getD]
  cases hj : (zs.take len)[j]? with
  | none => simp
  | some y =>
    have hm : y ∈ zs := List.mem_of_mem_take (List.mem_of_getElem? hj)
    simpa using bounds_u64 (h y hm)

section
variable {H : Type} {enc : TypeId × Value → H} {W : World} {base : Nat} {held : Bool} {fuel : Nat} {x : DataW H × List MemPlace}

theorem open_numbers {a : Option Addr} {len cap : Nat} (h : DataW.trod enc Try.prog W base (fun _ => true) held fuel 23 (Value.slice a len cap).cells.toList = some x) :
    ∃ ss : List Int, ss.length = len ∧ len ≤ 9223372036854775807 ∧ (a = none → len = 0) ∧ RowV W a len (fun j => .int .u64 (ss.getD j 0)) ∧ ∀ j, 0 ≤ ss.getD j 0 ∧ ss.getD j 0 ≤ 18446744073709551615 := by
  rcases open_ints Try.underlying23 Try.underlying45 (by kernel_rfl) h with ⟨hcs, _⟩ | ⟨x, l, c, zs, hcs, _, hl, hm, hz, _, hcell, hwz⟩
  · simp [Value.cells] at hcs
    obtain ⟨rfl, rfl, rfl⟩ := hcs
    exact ⟨[], rfl, by omega, fun _ => rfl, (fun h => absurd h (by omega)), fun j => by simp⟩
  · simp [Value.cells] at hcs
    obtain ⟨rfl, rfl, rfl⟩ := hcs
    have hz' : zs.length = cap := by simpa using hz
    exact ⟨zs.take len, by simp; omega, by unfold maxLen at hm; omega, (fun h => by cases h), rowI_open hl hz' (fun i hi => hcell i (by omega)), take_bounds len hwz⟩

theorem open_blocks {a : Option Addr} {n cap : Nat} (h : DataW.trod enc Try.prog W base (fun _ => true) held fuel 22 (Value.slice a n cap).cells.toList = some x) :
    ∃ (A : Nat → Option Addr) (L C : Nat → Nat) (ts : Nat → List Int), Ts W a n A L C ts ∧ n ≤ 9223372036854775807 ∧ (∀ i, i < n → L i ≤ 9223372036854775807) ∧ (a = none → n = 0) := by
  rcases Deep.open_int_rows Try.underlying22 Try.underlying23 Try.underlying45 (by kernel_rfl) (by kernel_rfl) h with ⟨hcs, _⟩ | ⟨x, l, c, A, L, C, Z, hcs, _, hl, hm, _, hcell⟩
  · simp [Value.cells] at hcs
    obtain ⟨rfl, rfl, rfl⟩ := hcs
    exact ⟨fun _ => none, fun _ => 0, fun _ => 0, fun _ => [], ⟨fun h => absurd h (by omega), fun i hi => absurd hi (by omega), fun i hi => absurd hi (by omega), fun i hi => absurd hi (by omega), fun i hi => absurd hi (by omega)⟩, by omega, fun i hi => absurd hi (by omega), fun _ => rfl⟩
  · simp [Value.cells] at hcs
    obtain ⟨rfl, rfl, rfl⟩ := hcs
    refine ⟨A, L, C, fun i => (Z i).take (L i), ⟨rowS_open hl (fun i hi => (hcell i hi).1), fun i hi => ?_, fun i hi h0 => ?_, fun i hi => ?_, fun i hi j => ?_⟩, by unfold maxLen at hm; omega, fun i hi => ?_, fun h => by cases h⟩
    · obtain ⟨h1, h2, h3, h4, h5, h6, h7⟩ := hcell i (by omega)
      simp; omega
    · obtain ⟨h1, h2, h3, h4, h5, h6, h7⟩ := hcell i (by omega)
      have := h6 h0; omega
    · obtain ⟨h1, h2, h3, h4, h5, h6, h7⟩ := hcell i (by omega)
      cases hA : A i with
      | none => have := h6 hA; exact fun h0 => absurd h0 (by omega)
      | some y => exact rowI_open h2 h4 (h7 y hA).2
    · obtain ⟨h1, h2, h3, h4, h5, h6, h7⟩ := hcell i (by omega)
      exact take_bounds _ h5 j
    · obtain ⟨h1, h2, h3, h4, h5, h6, h7⟩ := hcell i (by omega)
      unfold maxLen at h3; omega
end
end Go.Proofs.Qxb6600722a
