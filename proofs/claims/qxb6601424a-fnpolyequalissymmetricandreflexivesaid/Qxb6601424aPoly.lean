import Derived.Test.Qxb6601424aBase
namespace Go.Proofs.Qxb6601424a
open Go.RowKit
set_option linter.unusedVariables false

def PolyPost (w : World) (n : Nat) (X : Nat → T3) (e : Ending) (w' : World) : Prop := ∃ a cap, e = .returned (.slice a n cap) ∧ R3 w' a n X ∧ Below w.heap.size w w'

theorem rel3 {w wr : World} {G n k : Nat} {X : Nat → T3} (hra : wr.rangeAt G 0 (cellsTo X k)) (hth : wr.there G 0 (n * 3)) (hbel : Below G w wr) (hsz : G < wr.heap.size) (hk : k < n) :
    (wr.setCells G (k * 3) (tri (X k))).rangeAt G 0 (cellsTo X (k + 1)) ∧ (wr.setCells G (k * 3) (tri (X k))).there G 0 (n * 3) ∧ Below G w (wr.setCells G (k * 3) (tri (X k))) ∧ G < (wr.setCells G (k * 3) (tri (X k))).heap.size := by
  have hl := cellsTo_len X k
  refine ⟨rangeAt_append (World.rangeAt_setCells_apart hra _ _ _ (Or.inr (Or.inl (by omega)))) ?_, World.there_setCells hth _ _ _, Below.setCells (Nat.le_refl G) _ _ hbel, ?_⟩
  · rw [hl, Nat.zero_add]
    exact World.rangeAt_setCells_same wr G (k * 3) (tri (X k)) (fun j hj => by have hj' : j < 3 := hj; have := hth (k * 3 + j) (by omega); simpa [Nat.add_assoc] using this)
  · exact Nat.lt_of_lt_of_le hsz (Below.setCells (Nat.zero_le G) (tri (X k)) (k * 3) (Below.refl 0 wr)).size

theorem there_made {w w1 : World} {n : Nat} {base : Nat} {e : TypeId} {v : Value} {xs : List Value} (hown : w1.ownsRow base e 3 (.slice (some ⟨base, 0, none⟩) n n) n xs) : w1.there base 0 (n * 3) := fun j hj => by
  rw [Nat.zero_add]
  refine ⟨?_, hown.frozenAt j⟩
  rw [hown.cellAt j hj]
  have := hown.1
  rw [List.getElem?_eq_getElem (by omega)]
  rfl

set_option maxHeartbeats 400000 in
theorem poly_any (a : Option Addr) (n cap : Nat) (X : Nat → T3) (w : World) (hs : n ≤ 1048576) (hn : a = none → n = 0) (hr : R3 w a n X) : Calls Try.prog 8 #[.slice a n cap] w (PolyPost w n X) := by
  have hnil := fun (w : World) (a : Option Addr) (n c : Nat) => Lib.run_eql_slice_nil (P := Try.prog) w 22 26 a n c 0 0 Try.underlying22
  cases a with
  | none =>
    obtain rfl := hn rfl
    go_enter Try.func8, Try.ntmps8
    go_wp2
    go_ret
    exact ⟨_, _, rfl, fun h => absurd h (by omega), Below.refl _ _⟩
  | some x =>
    obtain ⟨i0, hi, hz0, hz1, hz2⟩ := info_parts Try.info31
    have HR := hide hr
    clear hr hn
    go_enter Try.func8, Try.ntmps8
    go_wp2_with (at_make; refine wpList_make_full _ rfl _ _ 28 rfl w.heap.size 31 i0 _ 3 Try.underlying28 hi hz0 hz1 _ _ _ _ n rfl rfl rfl rfl ?_ ?_ ?_ ?_)
    case refine_1 => rw [hz2]; omega
    case refine_2 => unfold maxLen; omega
    case refine_3 => exact Nat.le_refl _
    intro w1 hown hgrow
    have hbel := (Below.refl w.heap.size w).grown hgrow (Nat.le_refl _) (by simp)
    have hth := there_made (w := w) (v := .bool true) hown
    have hlt : w.heap.size < w1.heap.size := (hown.lt _ rfl).2
    have HB := hide hbel
    have HT := hide hth
    clear hgrow hi hz0 hz1 hz2 i0 hown hbel hth
    go_wp2
    go_loopw [4] (fun i wr => ∃ k : Nat, k ≤ n ∧ i = .int .i64 k ∧ wr.rangeAt w.heap.size 0 (cellsTo X k) ∧ wr.there w.heap.size 0 (n * 3) ∧ Below w.heap.size w wr ∧ w.heap.size < wr.heap.size)
      (fun i _ => n - (intOf i).toNat)
    case atStart => exact ⟨0, Nat.zero_le _, rfl, (fun j v hv => by simp [cellsTo] at hv), unhide HT, unhide HB, hlt⟩
    case round =>
      obtain ⟨k, hk, rfl, hra, hth, hbel, hsz⟩ := hrel
      clear HT HB hlt
      by_cases hlt : k < n
      · obtain ⟨b, off, hx, hb, hc⟩ := unhide HR (by omega)
        obtain rfl := Option.some.inj hx
        obtain ⟨x0, x1, x2⟩ := cellsTo_at X hlt
        have c0 : wr.cell? ⟨b, off + k * 3, none⟩ = some (.int .u64 (X k).1) := (hbel.cell (by exact hb)).trans (hc _ _ x0)
        have c1 : wr.cell? ⟨b, off + k * 3 + 1, none⟩ = some (.int .u64 (X k).2.1) := (hbel.cell (by exact hb)).trans (hc _ _ x1)
        have c2 : wr.cell? ⟨b, off + k * 3 + 2, none⟩ = some (.int .u64 (X k).2.2) := (hbel.cell (by exact hb)).trans (hc _ _ x2)
        have HF := hide (rel3 hra hth hbel hsz hlt)
        have d0 : ∃ v, wr.cell? ⟨w.heap.size, k * 3, none⟩ = some v := by have := (hth (k * 3) (by omega)).1; rw [Nat.zero_add] at this; exact Option.isSome_iff_exists.1 this
        have d1 : ∃ v, wr.cell? ⟨w.heap.size, k * 3 + 1, none⟩ = some v := by have := (hth (k * 3 + 1) (by omega)).1; rw [Nat.zero_add] at this; exact Option.isSome_iff_exists.1 this
        have d2 : ∃ v, wr.cell? ⟨w.heap.size, k * 3 + 2, none⟩ = some v := by have := (hth (k * 3 + 2) (by omega)).1; rw [Nat.zero_add] at this; exact Option.isSome_iff_exists.1 this
        have f0 : wr.frozen? ⟨w.heap.size, k * 3, none⟩ = false := by have := (hth (k * 3) (by omega)).2; rwa [Nat.zero_add] at this
        have f1 : wr.frozen? ⟨w.heap.size, k * 3 + 1, none⟩ = false := by have := (hth (k * 3 + 1) (by omega)).2; rwa [Nat.zero_add] at this
        have f2 : wr.frozen? ⟨w.heap.size, k * 3 + 2, none⟩ = false := by have := (hth (k * 3 + 2) (by omega)).2; rwa [Nat.zero_add] at this
        obtain ⟨v0, d0⟩ := d0
        obtain ⟨v1, d1⟩ := d1
        obtain ⟨v2, d2⟩ := d2
        have hkn : (k : Int) < (n : Int) := by omega
        clear hra hth hc x0 x1 x2 HR hx
        go_wp2
        go_roundw
        case rel => exact ⟨k + 1, by omega, by go_num, (unhide HF).1, (unhide HF).2.1, (unhide HF).2.2.1, (unhide HF).2.2.2⟩
        case measure => simp [intOf]; omega
      · obtain rfl : k = n := by omega
        have HE : Hid (PolyPost w k X (.returned (.slice (some ⟨w.heap.size, 0, none⟩) k k)) wr) := ⟨_, _, rfl, fun _ => ⟨_, _, rfl, hsz, hra⟩, hbel⟩
        clear hra hth
        go_wp2
        go_ret
        exact unhide HE
end Go.Proofs.Qxb6601424a
