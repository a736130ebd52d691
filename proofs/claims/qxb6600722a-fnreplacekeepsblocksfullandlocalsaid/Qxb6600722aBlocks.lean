import Derived.Test.Qxb6600722aRanges
namespace Go.Proofs.Qxb6600722a
open Go.RowKit

/-- A slice of slices of ranges: element i is '.slice (A i) (L i) (C i)', which holds 'bl i'. -/
structure Bs (S : Nat → Prop) (w : World) (a : Option Addr) (n : Nat) (A : Nat → Option Addr) (L C : Nat → Nat) (bl : Nat → List Rng) : Prop where
  row : RowV w a n (fun i => .slice (A i) (L i) (C i))
  out : 0 < n → ∀ x, a = some x → ¬ S x.block
  each : ∀ i, i < n → Rs S w (A i) (L i) (C i) (bl i)

/-- What zzb1Blocks is handed: element i is '.slice (A i) (L i) (C i)' with the numbers 'ts i'. -/
structure Ts (w : World) (a : Option Addr) (n : Nat) (A : Nat → Option Addr) (L C : Nat → Nat) (ts : Nat → List Int) : Prop where
  row : RowV w a n (fun i => .slice (A i) (L i) (C i))
  len : ∀ i, i < n → (ts i).length = L i
  none : ∀ i, i < n → A i = none → L i = 0
  each : ∀ i, i < n → RowV w (A i) (L i) (fun j => .int .u64 ((ts i).getD j 0))
  wf : ∀ i, i < n → ∀ j, 0 ≤ (ts i).getD j 0 ∧ (ts i).getD j 0 ≤ 18446744073709551615

theorem Ts.below {w w' : World} {a : Option Addr} {n : Nat} {A : Nat → Option Addr} {L C : Nat → Nat} {ts : Nat → List Int} (h : Ts w a n A L C ts) (hb : Below w.heap.size w w') : Ts w' a n A L C ts :=
  ⟨h.row.below hb, h.len, h.none, fun i hi => (h.each i hi).below hb, h.wf⟩

/-- The first k elements of a row of slices of ranges. -/
structure BRel (S : Nat → Prop) (w : World) (L : Nat → Nat) (bl : Nat → List Rng) (k : Nat) (ys : List Value) : Prop where
  len : ys.length = k
  each : ∀ i, i < k → ∃ a c, ys[i]? = some (.slice a (L i / 3) c) ∧ Rs S w a (L i / 3) c (bl i)

theorem BRel.kept {S : Nat → Prop} {w w' : World} {L : Nat → Nat} {bl : Nat → List Rng} {k : Nat} {ys : List Value} (h : BRel S w L bl k ys) (hk : Kept S w w') : BRel S w' L bl k ys :=
  ⟨h.len, fun i hi => by obtain ⟨a, c, h1, h2⟩ := h.each i hi; exact ⟨a, c, h1, h2.kept hk⟩⟩

theorem BRel.snoc {S : Nat → Prop} {w : World} {L : Nat → Nat} {bl : Nat → List Rng} {k : Nat} {ys : List Value} (h : BRel S w L bl k ys) {a : Option Addr} {c : Nat} (hr : Rs S w a (L k / 3) c (bl k)) :
    BRel S w L bl (k + 1) (ys ++ [.slice a (L k / 3) c]) := by
  refine ⟨by simp [h.len], fun i hi => ?_⟩
  by_cases hik : i < k
  · obtain ⟨a, c, h1, h2⟩ := h.each i hik
    exact ⟨a, c, by rw [List.getElem?_append_left (by rw [h.len]; exact hik)]; exact h1, h2⟩
  · obtain rfl : i = k := by omega
    exact ⟨a, c, by rw [List.getElem?_append_right (by rw [h.len]; omega), h.len]; simp, hr⟩

theorem grown_of_below {w w' : World} (h : Below w.heap.size w w') : w.grownBy w' none := ⟨h.os, h.tape, h.output, h.size, fun k hk _ => h.block k hk⟩

def BlocksPost (w : World) (a : Option Addr) (n : Nat) (L : Nat → Nat) (ts : Nat → List Int) (e : Ending) (w' : World) : Prop :=
  ∃ a' cap' A' C', e = .returned (.slice a' n cap') ∧ (a' = none ↔ a = none) ∧ Bs (fun k => k < w.heap.size) w' a' n A' (fun i => L i / 3) C' (fun i => rangesOf (ts i) (L i / 3)) ∧ Below w.heap.size w w'

def sliceA : Value → Option Addr | .slice a _ _ => a | _ => none
def sliceC : Value → Nat | .slice _ _ c => c | _ => 0

theorem blocks_end {w wr : World} {n : Nat} {L : Nat → Nat} {ts : Nat → List Int} {ys : List Value} {x : Addr} (hrel : BRel (fun j => j ≤ w.heap.size) wr L (fun i => rangesOf (ts i) (L i / 3)) n ys)
    (hown : wr.ownsRow w.heap.size 28 1 (.slice (some ⟨w.heap.size, 0, none⟩) n n) n ys) (hbel : Below w.heap.size w wr) :
    BlocksPost w (some x) n L ts (.returned (.slice (some ⟨w.heap.size, 0, none⟩) n n)) wr := by
  have hsz : w.heap.size < wr.heap.size := (hown.lt _ rfl).2
  refine ⟨_, n, fun i => sliceA (ys.getD i undef), fun i => sliceC (ys.getD i undef), rfl, by simp, ⟨fun _ => ⟨w.heap.size, 0, rfl, hsz, fun j hj => ?_⟩, (fun _ y hy => by obtain rfl := Option.some.inj hy; simp), fun i hi => ?_⟩, hbel⟩
  · obtain ⟨a, c, h1, _⟩ := hrel.each j hj
    rw [Nat.zero_add, hown.cellAt j (by omega), h1]
    simp [List.getD, h1, sliceA, sliceC]
  · obtain ⟨a, c, h1, h2⟩ := hrel.each i hi
    have e1 : sliceA (ys.getD i undef) = a := by simp [List.getD, h1, sliceA]
    have e2 : sliceC (ys.getD i undef) = c := by simp [List.getD, h1, sliceC]
    show Rs _ wr (sliceA (ys.getD i undef)) (L i / 3) (sliceC (ys.getD i undef)) _
    rw [e1, e2]
    exact h2.change (fun b _ hb => by omega)

/-- One element is stored. -/
theorem blocks_step {w wr w1 : World} {n k : Nat} {L : Nat → Nat} {ts : Nat → List Int} {ys : List Value} {a : Option Addr} {c : Nat} (hk : k < n) (hrel : BRel (fun j => j ≤ w.heap.size) wr L (fun i => rangesOf (ts i) (L i / 3)) k ys)
    (hown : wr.ownsRow w.heap.size 28 1 (.slice (some ⟨w.heap.size, 0, none⟩) n n) n (ys ++ List.replicate (n - k) (.slice none 0 0))) (hbel : Below w.heap.size w wr)
    (hr : Rs (fun j => j < wr.heap.size) w1 a (L k / 3) c (rangesOf (ts k) (L k / 3))) (hb : Below wr.heap.size wr w1) :
    BRel (fun j => j ≤ w.heap.size) (w1.setCell ⟨w.heap.size, k, none⟩ (.slice a (L k / 3) c)) L (fun i => rangesOf (ts i) (L i / 3)) (k + 1) (ys ++ [.slice a (L k / 3) c]) ∧
    (w1.setCell ⟨w.heap.size, k, none⟩ (.slice a (L k / 3) c)).ownsRow w.heap.size 28 1 (.slice (some ⟨w.heap.size, 0, none⟩) n n) n ((ys ++ [.slice a (L k / 3) c]) ++ List.replicate (n - (k + 1)) (.slice none 0 0)) ∧
    Below w.heap.size w (w1.setCell ⟨w.heap.size, k, none⟩ (.slice a (L k / 3) c)) := by
  have hsz : w.heap.size < wr.heap.size := (hown.lt _ rfl).2
  have k1 : Kept (fun j => j ≤ w.heap.size) wr (w1.setCell ⟨w.heap.size, k, none⟩ (.slice a (L k / 3) c)) := Kept.setCell (S := fun j => j ≤ w.heap.size) (Kept.of_below hb) (p := ⟨w.heap.size, k, none⟩) (Nat.le_refl w.heap.size) _
  have k2 : Kept (fun j => j ≤ w.heap.size) w1 (w1.setCell ⟨w.heap.size, k, none⟩ (.slice a (L k / 3) c)) := Kept.setCell (S := fun j => j ≤ w.heap.size) (Kept.refl _ _) (p := ⟨w.heap.size, k, none⟩) (Nat.le_refl w.heap.size) _
  refine ⟨(hrel.kept k1).snoc ((hr.change (fun b _ hb => by omega)).kept k2), ?_, (hbel.trans (hb.mono (Nat.le_of_lt hsz))).setCell (Nat.le_refl _) _⟩
  have hown1 := hown.kept (grown_of_below hb) (by simp [Value.ownBlock])
  have := (hown1.stored k (.slice a (L k / 3) c)).1
  rwa [show n - k = (n - (k + 1)) + 1 by omega, List.replicate_succ, List.set_append_right _ _ (by rw [hrel.len]; exact Nat.le_refl _), hrel.len, Nat.sub_self, List.set_cons_zero, ← List.singleton_append, ← List.append_assoc] at this

set_option maxHeartbeats 1000000 in
theorem blocks_any (a : Option Addr) (n cap : Nat) (A : Nat → Option Addr) (L C : Nat → Nat) (ts : Nat → List Int) (w : World) (hs : n ≤ 1048576) (hL : ∀ i, i < n → L i ≤ 1048576) (hn : a = none → n = 0) (h : Ts w a n A L C ts) :
    Calls Try.prog 9 #[.slice a n cap] w (BlocksPost w a n L ts) := by
  have hnil := fun (w : World) (a : Option Addr) (n c : Nat) => Lib.run_eql_slice_nil (P := Try.prog) w 22 23 a n c 0 0 Try.underlying22
  cases a with
  | none =>
    obtain rfl := hn rfl
    go_enter Try.func9, Try.ntmps9
    go_wp2
    go_ret
    exact ⟨none, 0, fun _ => none, fun _ => 0, rfl, Iff.rfl, ⟨(fun h0 => absurd h0 (by omega)), (fun h0 => absurd h0 (by omega)), fun i hi => absurd hi (by omega)⟩, Below.refl _ _⟩
  | some x =>
    obtain ⟨i0, hi, hz0, hz1, hz2⟩ := info_parts Try.info28
    have HT := hide h
    have HL := hide hL
    clear h hn hL
    go_enter Try.func9, Try.ntmps9
    go_wp2_with (at_make; refine wpList_make_full _ rfl _ _ 26 rfl w.heap.size 28 i0 _ 1 Try.underlying26 hi hz0 hz1 _ _ _ _ n rfl rfl rfl rfl ?_ ?_ ?_ ?_)
    case refine_1 => rw [hz2]; omega
    case refine_2 => unfold maxLen; omega
    case refine_3 => exact Nat.le_refl _
    intro w1 hown hgrow
    have hbel := (Below.refl w.heap.size w).grown hgrow (Nat.le_refl _) (by simp)
    have HO := hide hown
    have HB := hide hbel
    clear hgrow hi hz0 hz1 hz2 i0 hown hbel
    go_wp2
    go_loopw [4] (fun i wr => ∃ (k : Nat) (ys : List Value), k ≤ n ∧ i = .int .i64 k ∧ BRel (fun j => j ≤ w.heap.size) wr L (fun i => rangesOf (ts i) (L i / 3)) k ys ∧
        wr.ownsRow w.heap.size 28 1 (.slice (some ⟨w.heap.size, 0, none⟩) n n) n (ys ++ List.replicate (n - k) (.slice none 0 0)) ∧ Below w.heap.size w wr) (fun i _ => n - (intOf i).toNat)
    case atStart => exact ⟨0, [], Nat.zero_le _, rfl, ⟨rfl, fun i hi => absurd hi (by omega)⟩, by simpa [toList_madeCells_one] using unhide HO, unhide HB⟩
    case round =>
      obtain ⟨k, ys, hk, rfl, hrel, hown, hbel⟩ := hrel
      clear HO HB
      have hsz : w.heap.size < wr.heap.size := (hown.lt _ rfl).2
      by_cases hlt : k < n
      · obtain ⟨b, off, hx, hb, hc⟩ := (unhide HT).row (by omega)
        obtain rfl := Option.some.inj hx
        have c0 : wr.cell? ⟨b, off + k, none⟩ = some (.slice (A k) (L k) (C k)) := (hbel.cell (by exact hb)).trans (hc k hlt)
        have C10 := hide (ranges_any (A k) (L k) (C k) (ts k) wr ((unhide HT).len k hlt) (unhide HL k hlt) ((unhide HT).none k hlt) (((unhide HT).each k hlt).below (hbel.mono (by omega))) ((unhide HT).wf k hlt))
        have f0 := hown.frozenAt k
        obtain ⟨v3, hold⟩ : ∃ v, wr.cell? ⟨w.heap.size, k, none⟩ = some v := ⟨_, (hown.cellAt k (by omega)).trans (List.getElem?_eq_getElem (by have := hown.1; omega))⟩
        clear HT HL hc
        go_wp2_with fail
        refine (unhide C10).mono ?_
        rintro e w1 ⟨a1, cap1, rfl, hr1, hb1⟩
        have R := blocks_step hlt hrel hown hbel hr1 hb1
        have f1 : w1.frozen? ⟨w.heap.size, k, none⟩ = false := (hb1.frozen (by exact hsz)).trans f0
        have o1 : w1.cell? ⟨w.heap.size, k, none⟩ = some v3 := (hb1.cell (by exact hsz)).trans hold
        have HR := hide R
        clear R hrel hown hbel hr1 hb1 C10 f0 hold c0
        go_wp2
        go_roundw
        case rel => exact ⟨k + 1, _, by omega, by go_num, (unhide HR).1, (unhide HR).2.1, (unhide HR).2.2⟩
        case measure => simp [intOf]; omega
      · obtain rfl : k = n := by omega
        rw [Nat.sub_self, List.replicate_zero, List.append_nil] at hown
        have HE := hide (blocks_end (x := x) hrel hown hbel)
        go_wp2
        go_ret
        exact unhide HE
end Go.Proofs.Qxb6600722a
