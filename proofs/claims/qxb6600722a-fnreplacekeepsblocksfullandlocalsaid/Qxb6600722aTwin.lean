import Derived.Test.Qxb6600722aLawA
import Derived.Test.Qxb6600722aPlain2
namespace Go.Proofs.Qxb6600722a
open Go.RowKit
set_option linter.unusedVariables false

/-- A Knowledge's value whose memory lies outside S. -/
def KRead (S : Nat → Prop) (w : World) (kv : Option Addr) (bl : List (List Rng)) : Prop :=
  (kv = none ∧ bl = []) ∨
  ∃ B a n cap ps, kv = some ⟨B, 0, none⟩ ∧ ¬ S B ∧ w.cell? ⟨B, 0, none⟩ = some (.slice a n cap) ∧ (0 < n → ∃ b, a = some ⟨b, 0, none⟩ ∧ b < w.heap.size ∧ ¬ S b ∧ w.rangeAt b 0 ps) ∧ ps.length = n ∧ PB S w ps bl

theorem KRead.kept {S : Nat → Prop} {w w' : World} {kv : Option Addr} {bl : List (List Rng)} (h : KRead S w kv bl) (k : Kept S w w') : KRead S w' kv bl := by
  rcases h with h | ⟨B, a, n, cap, ps, h1, h2, h3, h4, h5, h6⟩
  · exact Or.inl h
  · refine Or.inr ⟨B, a, n, cap, ps, h1, h2, k.cell h3 h2, fun h0 => ?_, h5, h6.kept k⟩
    obtain ⟨b, e1, e2, e3, e4⟩ := h4 h0
    exact ⟨b, e1, Nat.lt_of_lt_of_le e2 k.size, e3, k.range e4 e3⟩

theorem KRead.val {S : Nat → Prop} {w : World} {kv : Option Addr} {bl : List (List Rng)} (h : KRead S w kv bl) : KVal w kv bl := by
  rcases h with h | ⟨B, a, n, cap, ps, h1, h2, h3, h4, h5, h6⟩
  · exact Or.inl h
  · refine Or.inr ⟨B, a, n, cap, ps, h1, h3, fun h0 => ?_, h5, ⟨h6.len, fun i hi => ?_⟩⟩
    · obtain ⟨b, e1, e2, e3, e4⟩ := h4 h0
      exact ⟨b, e1, e2, e4⟩
    · obtain ⟨g, a, n, c, e1, e2, e3, e4⟩ := h6.each i hi
      exact ⟨g, a, n, c, e1, e2, id, e4.change (fun _ _ _ h => h)⟩

def TwinPost (S : Nat → Prop) (w : World) (bl : List (List Rng)) (e : Ending) (w' : World) : Prop :=
  ∃ kv, e = .returned (.agg #[.pointer kv]) ∧ Below w.heap.size w w' ∧ KRead S w' kv bl

theorem know_twin (S : Nat → Prop) (a : Option Addr) (n cap : Nat) (A : Nat → Option Addr) (L C : Nat → Nat) (bl : Nat → List Rng) (w : World) (hs : n ≤ 1048576) (hn : a = none → n = 0) (h : Bs S w a n A L C bl) (hS : ∀ k, S k → k < w.heap.size) :
    Calls Try.prog 11 #[.slice a n cap] w (TwinPost S w (blist bl n)) := by
  cases a with
  | none =>
    obtain rfl := hn rfl
    refine (know_nil' cap w).mono ?_
    rintro e w' ⟨rfl, hb⟩
    exact ⟨none, rfl, hb, Or.inl ⟨rfl, rfl⟩⟩
  | some x =>
    refine (know_any S x n cap A L C bl w hs h).mono ?_
    rintro e w' ⟨rfl, hk⟩
    have hsz := hk.size
    refine ⟨_, rfl, hk.bel, Or.inr ⟨w.heap.size + 2, some ⟨w.heap.size + 1, 0, none⟩, n, n, ptrs w.heap.size n, rfl, fun e => by have := hS _ e; omega, ?_, fun h0 => ⟨w.heap.size + 1, rfl, by omega, fun e => by have := hS _ e; omega, ?_⟩, ptrs_len _ _, ⟨by rw [ptrs_len, blist_len], fun i hi => ?_⟩⟩⟩
    · rw [cell_of_row w' _ 0 _ 48 (0, 0) hk.b0]; rfl
    · intro j v hv
      have hrow := hk.row
      simp only [Nat.sub_self, List.replicate_zero, List.append_nil] at hrow
      rw [cell_of_row w' _ _ _ 49 (0, 0) hrow]
      simpa using hv
    · rw [blist_len] at hi
      refine ⟨w.heap.size + 3 + i, A i, L i, C i, ptrs_get _ n i hi, hk.each i hi, fun e => by have := hS _ e; omega, ?_⟩
      rw [blist_get _ _ _ hi]
      exact (h.each i hi).below hk.bel

theorem laid_blist {bl : Nat → List Rng} {M : Nat → Nat} {n : Nat} (h : LaidP n M) (hl : ∀ i, i < n → (bl i).length = M i) : Laid (blist bl n) := by
  refine ⟨fun i hi => ?_, fun i hi => ?_⟩
  · rw [blist_len] at hi
    rw [blist_get _ _ _ hi, hl i hi]; exact h.1 i hi
  · rw [blist_len] at hi
    rw [blist_get _ _ _ hi, blist_get _ _ _ (by omega), hl _ hi, hl i (by omega)]; exact h.2 i hi

/-- The same blocks read as a list and as a row. -/
theorem Bs.listed {S : Nat → Prop} {w : World} {a : Option Addr} {n : Nat} {A : Nat → Option Addr} {L C : Nat → Nat} {bl : Nat → List Rng} (h : Bs S w a n A L C bl) :
    Bs S w a (blist bl n).length A (fun i => ((blist bl n).getD i []).length) C (fun i => (blist bl n).getD i []) := by
  rw [blist_len]
  refine ⟨h.row.congr (fun j hj => ?_), h.out, fun i hi => ?_⟩
  · rw [blist_get _ _ _ hj, (h.each j hj).len]
  · rw [blist_get _ _ _ hi]
    have := h.each i hi
    rwa [← this.len] at this

end Go.Proofs.Qxb6600722a
