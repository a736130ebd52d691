import Derived.Test.Qxb6600722aBase
import Derived.Laws.CopyOwn
namespace Go.Proofs.Qxb6600722a
open Go.RowKit

/-! MEMORY: what is kept; rows; slices of ranges. -/

/-- Every block of w but those of S is as it was. -/
structure Kept (S : Nat → Prop) (w w' : World) : Prop where
  os : w'.os = w.os
  tape : w'.tape = w.tape
  output : w'.output = w.output
  size : w.heap.size ≤ w'.heap.size
  block : ∀ k, k < w.heap.size → ¬ S k → w'.heap[k]? = w.heap[k]?

theorem Kept.refl (S : Nat → Prop) (w : World) : Kept S w w := ⟨rfl, rfl, rfl, Nat.le_refl _, fun _ _ _ => rfl⟩
theorem Kept.trans {S : Nat → Prop} {a b c : World} (h : Kept S a b) (k : Kept S b c) : Kept S a c :=
  ⟨k.os.trans h.os, k.tape.trans h.tape, k.output.trans h.output, Nat.le_trans h.size k.size, fun i hi hs => (k.block i (Nat.lt_of_lt_of_le hi h.size) hs).trans (h.block i hi hs)⟩
/-- S may grow, and may forget what was not there. -/
theorem Kept.mono {S T : Nat → Prop} {a b : World} (h : Kept S a b) (hst : ∀ k, k < a.heap.size → S k → T k) : Kept T a b :=
  ⟨h.os, h.tape, h.output, h.size, fun i hi ht => h.block i hi (fun hs => ht (hst i hi hs))⟩
theorem Kept.of_below {S : Nat → Prop} {w w' : World} (h : Below w.heap.size w w') : Kept S w w' := ⟨h.os, h.tape, h.output, h.size, fun k hk _ => h.block k hk⟩
theorem Kept.below {S : Nat → Prop} {B : Nat} {w w' : World} (h : Kept S w w') (hB : B ≤ w.heap.size) (hs : ∀ k, k < B → ¬ S k) : Below B w w' :=
  ⟨h.os, h.tape, h.output, h.size, fun k hk => h.block k (by omega) (hs k hk)⟩
theorem Kept.drewN {S : Nat → Prop} {a w : World} (h : Kept S a w) (n : Nat) : Kept S a (w.drewN n) := h.trans ⟨rfl, rfl, rfl, Nat.le_refl _, fun _ _ _ => rfl⟩
theorem Kept.drew {S : Nat → Prop} {a w : World} (h : Kept S a w) : Kept S a w.drew := h.trans ⟨rfl, rfl, rfl, Nat.le_refl _, fun _ _ _ => rfl⟩
theorem Kept.alloc {S : Nat → Prop} {a w : World} (h : Kept S a w) (o : Obj) : Kept S a (w.alloc o) := h.trans (Kept.of_below ((Below.refl _ _).alloc (Nat.le_refl _) o))
theorem Kept.setCell {S : Nat → Prop} {a w : World} (h : Kept S a w) {p : Addr} (hp : S p.block) (u : Value) : Kept S a (w.setCell p u) :=
  h.trans ⟨rfl, rfl, rfl, by simp [World.setCell], fun k _ hk => Below.heap_setCell _ _ _ _ (fun e => hk (by rw [e]; exact hp))⟩
theorem Kept.cell {S : Nat → Prop} {w w' : World} (h : Kept S w w') {p : Addr} {v : Value} (hc : w.cell? p = some v) (hs : ¬ S p.block) : w'.cell? p = some v :=
  (World.cell?_of_block (w := w) (h.block p.block (World.block_lt_of_cell? w p hc) hs)).trans hc
theorem Kept.frozen {S : Nat → Prop} {w w' : World} (h : Kept S w w') {p : Addr} (hl : p.block < w.heap.size) (hs : ¬ S p.block) : w'.frozen? p = w.frozen? p :=
  World.frozen?_of_block (w := w) (h.block p.block hl hs)
theorem Kept.range {S : Nat → Prop} {w w' : World} (h : Kept S w w') {b o : Nat} {cs : List Value} (hc : w.rangeAt b o cs) (hs : ¬ S b) : w'.rangeAt b o cs :=
  fun j v hv => h.cell (p := ⟨b, o + j, none⟩) (hc j v hv) hs

theorem Below.setCells {B b : Nat} (hB : B ≤ b) : ∀ (vs : List Value) (o : Nat) {a w : World}, Below B a w → Below B a (w.setCells b o vs)
  | [], _, _, _, h => h
  | v :: r, o, _, _, h => by
    rw [World.setCells]
    exact Below.setCells hB r (o + 1) (h.setCell (p := ⟨b, o, none⟩) hB v)

theorem rangeAt_append {w : World} {b o : Nat} {xs ys : List Value} (h1 : w.rangeAt b o xs) (h2 : w.rangeAt b (o + xs.length) ys) : w.rangeAt b o (xs ++ ys) := by
  intro j v hv
  rw [List.getElem?_append] at hv
  split at hv
  · exact h1 j v hv
  · have := h2 (j - xs.length) v hv
    rwa [show o + xs.length + (j - xs.length) = o + j by omega] at this

theorem rangeAt_left {w : World} {b o : Nat} {xs ys : List Value} (h : w.rangeAt b o (xs ++ ys)) : w.rangeAt b o xs := by
  intro j v hv
  exact h j v (by rw [List.getElem?_append_left (List.getElem?_eq_some_iff.1 hv).1]; exact hv)

theorem rangeAt_right {w : World} {b o : Nat} {xs ys : List Value} (h : w.rangeAt b o (xs ++ ys)) : w.rangeAt b (o + xs.length) ys := by
  intro j v hv
  have := h (xs.length + j) v (by rw [List.getElem?_append_right (by omega)]; simpa using hv)
  rwa [← Nat.add_assoc] at this

theorem rangeAt_nil (w : World) (b o : Nat) : w.rangeAt b o [] := fun j v hv => by simp at hv

/-- The first 'len' cells of a slice of one-cell elements, where it has any. -/
def RowV (w : World) (a : Option Addr) (len : Nat) (V : Nat → Value) : Prop :=
  0 < len → ∃ b off, a = some ⟨b, off, none⟩ ∧ b < w.heap.size ∧ ∀ j, j < len → w.cell? ⟨b, off + j, none⟩ = some (V j)

theorem RowV.below {w w' : World} {a : Option Addr} {len : Nat} {V : Nat → Value} (h : RowV w a len V) (hb : Below w.heap.size w w') : RowV w' a len V := by
  intro h0
  obtain ⟨b, off, ha, hlt, hc⟩ := h h0
  exact ⟨b, off, ha, Nat.lt_of_lt_of_le hlt hb.size, fun j hj => (hb.cell (p := ⟨b, off + j, none⟩) hlt).trans (hc j hj)⟩

theorem RowV.congr {w : World} {a : Option Addr} {len : Nat} {V V' : Nat → Value} (h : RowV w a len V) (hv : ∀ j, j < len → V j = V' j) : RowV w a len V' := by
  intro h0
  obtain ⟨b, off, ha, hlt, hc⟩ := h h0
  exact ⟨b, off, ha, hlt, fun j hj => by rw [hc j hj, hv j hj]⟩

abbrev Rng := List Value

theorem flat_len {rs : List Rng} (h : ∀ r ∈ rs, IsRng r) : rs.flatten.length = rs.length * 18 := by
  induction rs with
  | nil => rfl
  | cons r rs ih =>
    rw [List.flatten_cons, List.length_append, ih (fun x hx => h x (List.mem_cons_of_mem _ hx)), (h r List.mem_cons_self).len, List.length_cons]
    omega

/-- A slice of ranges, outside the blocks of S. -/
structure Rs (S : Nat → Prop) (w : World) (a : Option Addr) (n cap : Nat) (rs : List Rng) : Prop where
  len : rs.length = n
  cap : n ≤ cap
  rng : ∀ r ∈ rs, IsRng r
  lies : 0 < n → ∃ b off, a = some ⟨b, off, none⟩ ∧ b < w.heap.size ∧ ¬ S b ∧ w.rangeAt b off rs.flatten

theorem Rs.kept {S : Nat → Prop} {w w' : World} {a : Option Addr} {n cap : Nat} {rs : List Rng} (h : Rs S w a n cap rs) (k : Kept S w w') : Rs S w' a n cap rs :=
  ⟨h.len, h.cap, h.rng, fun h0 => by
    obtain ⟨b, off, ha, hb, hs, hc⟩ := h.lies h0
    exact ⟨b, off, ha, Nat.lt_of_lt_of_le hb k.size, hs, k.range hc hs⟩⟩

theorem Rs.below {S : Nat → Prop} {w w' : World} {a : Option Addr} {n cap : Nat} {rs : List Rng} (h : Rs S w a n cap rs) (k : Below w.heap.size w w') : Rs S w' a n cap rs := h.kept (Kept.of_below k)

theorem Rs.change {S T : Nat → Prop} {w : World} {a : Option Addr} {n cap : Nat} {rs : List Rng} (h : Rs S w a n cap rs) (hst : ∀ b, b < w.heap.size → ¬ S b → ¬ T b) : Rs T w a n cap rs :=
  ⟨h.len, h.cap, h.rng, fun h0 => by
    obtain ⟨b, off, ha, hb, hs, hc⟩ := h.lies h0
    exact ⟨b, off, ha, hb, hst b hb hs, hc⟩⟩

end Go.Proofs.Qxb6600722a
