import Derived.Test.Qxb6601424aWalk
import Derived.ProofKit
import Derived.OpenShut
import Derived.ChangeOld
import Derived.Below
import Derived.Deep.Slices
namespace Go.Proofs.Qxb6601424a
open Go.ChangeShapes Go.WideShapes Go.ChangeAt Go.RowKit
set_option linter.unusedVariables false

theorem own : ownKnob Try.prog.godebug = none := by kernel_rfl
theorem laidOut : laidOutB Try.prog = true := by kernel_rfl

section
variable {H : Type} {enc : TypeId × Value → H} {W : World} {base : Nat} {held : Bool} {fuel : Nat} {x : DataW H × List MemPlace}

theorem open_tri {sp : Nat → Bool} {v0 v1 v2 : Value} (h : DataW.trod enc Try.prog W base sp held fuel 26 [v0, v1, v2] = some x) : ∃ t : T3, [v0, v1, v2] = tri t ∧ InR t := by
  cases fuel with
  | zero => simp [DataW.trod] at h
  | succ m =>
    rw [DataW.trod_step] at h
    unfold DataW.trodStep at h
    simp only [Try.underlying26] at h
    rw [if_pos (by rw [Try.cells26]; rfl)] at h
    simp only [Option.map_eq_some_iff] at h
    obtain ⟨ys, hy, _⟩ := h
    have r3 : List.range 3 = [0, 1, 2] := by decide
    rw [r3] at hy
    simp only [List.mapM_cons, List.mapM_nil, Try.cells24, Option.bind_eq_bind, Option.bind_eq_some_iff, Option.pure_def] at hy
    obtain ⟨y0, e0, t1, ⟨y1, e1, t2, ⟨y2, e2, _⟩, _⟩, _⟩ := hy
    simp at e0 e1 e2
    obtain ⟨p0, q0, _, z0⟩ := DataW.trod_int Try.underlying24 e0
    obtain ⟨p1, q1, _, z1⟩ := DataW.trod_int Try.underlying24 e1
    obtain ⟨p2, q2, _, z2⟩ := DataW.trod_int Try.underlying24 e2
    simp at q0 q1 q2
    subst q0; subst q1; subst q2
    exact ⟨(p0, p1, p2), rfl, bounds_u64 z0, bounds_u64 z1, bounds_u64 z2⟩

theorem R3.of_cells {b off : Nat} {X : Nat → T3} {w : World} : ∀ n, (∀ i, i < n → w.cell? ⟨b, off + i * 3, none⟩ = some (.int .u64 (X i).1) ∧ w.cell? ⟨b, off + i * 3 + 1, none⟩ = some (.int .u64 (X i).2.1) ∧ w.cell? ⟨b, off + i * 3 + 2, none⟩ = some (.int .u64 (X i).2.2)) →
    w.rangeAt b off (cellsTo X n)
  | 0, _ => fun j v hv => by simp [cellsTo] at hv
  | n + 1, h => by
    refine rangeAt_append (R3.of_cells n (fun i hi => h i (by omega))) ?_
    rw [cellsTo_len]
    obtain ⟨h0, h1, h2⟩ := h n (by omega)
    intro j v hv
    match j, hv with
    | 0, hv => simp [tri] at hv; subst hv; exact h0
    | 1, hv => simp [tri] at hv; subst hv; exact h1
    | 2, hv => simp [tri] at hv; subst hv; exact h2
    | j + 3, hv => simp [tri] at hv

theorem open_polys {a : Option Addr} {n cap : Nat} (h : DataW.trod enc Try.prog W base (fun _ => true) held fuel 22 (Value.slice a n cap).cells.toList = some x) :
    ∃ X : Nat → T3, n ≤ 9223372036854775807 ∧ (a = none → n = 0) ∧ R3 W a n X ∧ ∀ k, k < n → InR (X k) := by
  rcases Deep.open_slice Try.underlying22 h with ⟨hcs, _⟩ | ⟨y, l, c, m, f, D, Pl, hcs, _, hl, hm, hmm, _, hx⟩
  · simp [Value.cells] at hcs
    obtain ⟨rfl, rfl, rfl⟩ := hcs
    exact ⟨fun _ => (0, 0, 0), by omega, fun _ => rfl, fun h => absurd h (by omega), fun k hk => absurd hk (by omega)⟩
  · simp [Value.cells] at hcs
    obtain ⟨rfl, rfl, rfl⟩ := hcs
    simp only [if_true] at hmm
    subst hmm
    rw [Try.cells26] at hx
    have each : ∀ i, i < m → ∃ t : T3, W.cell? (y.add (i * 3)) = some (.int .u64 t.1) ∧ W.cell? ((y.add (i * 3)).add 1) = some (.int .u64 t.2.1) ∧ W.cell? ((y.add (i * 3)).add 2) = some (.int .u64 t.2.2) ∧ InR t := by
      intro i hi
      obtain ⟨cs', h1, h2⟩ := hx i hi
      obtain ⟨_, hlen, hcell⟩ := World.cells?_some h1
      match cs', hlen with
      | [v0, v1, v2], _ =>
        obtain ⟨t, ht, hr⟩ := open_tri h2
        simp [tri] at ht
        obtain ⟨rfl, rfl, rfl⟩ := ht
        have e0 := hcell 0 (by omega)
        have e1 := hcell 1 (by omega)
        have e2 := hcell 2 (by omega)
        refine ⟨t, ?_, by simpa using e1, by simpa using e2, hr⟩
        simpa [Addr.add] using e0
    obtain ⟨X, hX⟩ := Deep.choose_lt each
    refine ⟨X, by unfold maxLen at hm; omega, (fun h => by cases h), fun h0 => ?_, fun k hk => (hX k (by omega)).2.2.2⟩
    obtain ⟨b, off, spot⟩ := y
    have hspot : spot = none := by
      have := World.cell?_spot (hX 0 (by omega)).1
      simpa [Addr.add] using this
    subst hspot
    refine ⟨b, off, rfl, ?_, R3.of_cells n (fun i hi => ?_)⟩
    · have := (hX 0 (by omega)).1
      rw [Addr.add_mid] at this
      exact World.block_lt_of_cell? W _ this
    · obtain ⟨h1, h2, h3, _⟩ := hX i (by omega)
      rw [Addr.add_mid] at h1 h2 h3
      rw [Addr.add_mid] at h2 h3
      exact ⟨h1, h2, h3⟩
end
end Go.Proofs.Qxb6601424a
