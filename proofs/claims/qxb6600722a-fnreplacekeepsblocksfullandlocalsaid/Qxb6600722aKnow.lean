import Derived.Test.Qxb6600722aReplace3
import Derived.Deep.RegionHeld
import Derived.BigRegion
namespace Go.Proofs.Qxb6600722a
open Go.RowKit
set_option linter.unusedVariables false

theorem replace_all (R n cap m : Nat) (am : Option Addr) (ps qs : List Value) (w : World) (lo hi : Nat) (hs : n + m ≤ 1048576) (hlo : lo ≤ hi) (hhi : hi ≤ n) (hR : w.heap[R]? = some (.cells ps.toArray 49 (0, 0))) (hn : ps.length = n) (hone : ∀ v ∈ ps, v.oneCell' = true) (hq : Qs R w am m cap qs) :
    Calls Try.prog 25 #[.slice (some ⟨R, 0, none⟩) n n, .int .i64 lo, .int .i64 hi, .slice am m cap] w (RepPost R w (ps.take lo ++ qs ++ ps.drop hi)) := by
  by_cases e : lo = hi
  · subst e
    exact replace_same R n cap m am ps qs w lo hs hhi hR hn hone hq
  · by_cases e2 : hi = n
    · subst e2
      rw [List.drop_of_length_le (by omega), List.append_nil]
      by_cases e3 : lo + m ≤ hi
      · exact replace_tail_fits R hi cap m am ps qs w lo hs (by omega) e3 hR hn hq
      · exact replace_tail_grow R hi cap m am ps qs w lo hs (by omega) (by omega) hR hn hq
    · by_cases e3 : lo + m ≤ hi
      · exact replace_mid_fits R n cap m am ps qs w lo hi hs (by omega) (by omega) e3 hR hn hone hq
      · exact replace_mid_grow R n cap m am ps qs w lo hi hs (by omega) (by omega) (by omega) hR hn hone hq

/-- Pointers to n blocks laid one behind the other. -/
def ptrs (c k : Nat) : List Value := (List.range k).map fun i => Value.pointer (some ⟨c + 3 + i, 0, none⟩)
theorem ptrs_len (c k : Nat) : (ptrs c k).length = k := by simp [ptrs]
theorem ptrs_succ (c k : Nat) : ptrs c (k + 1) = ptrs c k ++ [.pointer (some ⟨c + 3 + k, 0, none⟩)] := by simp [ptrs, List.range_succ]
theorem ptrs_get (c k i : Nat) (h : i < k) : (ptrs c k)[i]? = some (.pointer (some ⟨c + 3 + i, 0, none⟩)) := by simp [ptrs, h]

/-- A Knowledge that ZZKnowledgeOf has made, k blocks of it. -/
structure KRel (c n : Nat) (w wr : World) (A : Nat → Option Addr) (L C : Nat → Nat) (k : Nat) : Prop where
  size : wr.heap.size = c + 3 + k
  row : wr.heap[c + 1]? = some (.cells (ptrs c k ++ List.replicate (n - k) (Value.pointer none)).toArray 49 (0, 0))
  b0 : wr.heap[c + 2]? = some (.cells #[.slice (some ⟨c + 1, 0, none⟩) n n] 48 (0, 0))
  each : ∀ i, i < k → wr.cell? ⟨c + 3 + i, 0, none⟩ = some (.slice (A i) (L i) (C i))
  bel : Below c w wr

theorem know_start (n : Nat) (w : World) (A : Nat → Option Addr) (L C : Nat → Nat) :
    KRel w.heap.size n w (((w.alloc (.cells #[Value.pointer none] 32)).alloc (.cells (Array.replicate n (Value.pointer none)) 49)).alloc (.cells #[.slice (some ⟨w.heap.size + 1, 0, none⟩) n n] 48)) A L C 0 := by
  refine ⟨by simp, ?_, ?_, fun i hi => absurd hi (by omega), (((Below.refl _ _).alloc (Nat.le_refl _) _).alloc (by simp) _).alloc (by simp; omega) _⟩
  · rw [Below.heap_alloc _ _ _ (by simp)]
    have := heap_alloc_new (w.alloc (.cells #[Value.pointer none] 32)) (.cells (Array.replicate n (Value.pointer none)) 49)
    rw [World.size_alloc] at this
    rw [this]
    simp [ptrs]
  · have := heap_alloc_new ((w.alloc (.cells #[Value.pointer none] 32)).alloc (.cells (Array.replicate n (Value.pointer none)) 49)) (.cells #[.slice (some ⟨w.heap.size + 1, 0, none⟩) n n] 48)
    rw [World.size_alloc, World.size_alloc] at this
    exact this

/-- One block more. -/
theorem know_step {c n k : Nat} {w wr : World} {A : Nat → Option Addr} {L C : Nat → Nat} (hc : c = w.heap.size) (hk : k < n) (h : KRel c n w wr A L C k) :
    KRel c n w ((wr.alloc (.cells #[.slice (A k) (L k) (C k)] 51)).setCell ⟨c + 1, k, none⟩ (.pointer (some ⟨c + 3 + k, 0, none⟩))) A L C (k + 1) := by
  have hsz := h.size
  have hrow : (wr.alloc (.cells #[.slice (A k) (L k) (C k)] 51)).heap[c + 1]? = some (.cells (ptrs c k ++ List.replicate (n - k) (Value.pointer none)).toArray 49 (0, 0)) := by
    rw [Below.heap_alloc _ _ _ (by omega)]; exact h.row
  refine ⟨by simp [World.setCell]; omega, ?_, ?_, fun i hi => ?_, (h.bel.alloc (by omega) _).setCell (p := ⟨c + 1, k, none⟩) (Nat.le_succ _) _⟩
  · rw [heap_setCell_same _ (c + 1) k _ 49 _ hrow, List.setIfInBounds_toArray, show n - k = (n - (k + 1)) + 1 by omega, List.replicate_succ, List.set_append_right _ _ (by rw [ptrs_len]; exact Nat.le_refl _), ptrs_len, Nat.sub_self, List.set_cons_zero, ptrs_succ]
    simp
  · rw [Below.heap_setCell _ _ _ _ (by simp), Below.heap_alloc _ _ _ (by omega)]
    exact h.b0
  · rw [World.cell?_setCell_far _ _ _ _ (by show c + 1 ≠ c + 3 + i; omega)]
    by_cases hik : i < k
    · rw [World.cell?_alloc_past _ _ _ (by show c + 3 + i < wr.heap.size; omega)]
      exact h.each i hik
    · obtain rfl : i = k := by omega
      rw [World.cell?_alloc_at _ _ _ _ (by show c + 3 + i = wr.heap.size; omega)]
      rfl

theorem KRel.drew {c n k : Nat} {w wr : World} {A : Nat → Option Addr} {L C : Nat → Nat} (h : KRel c n w wr A L C k) : KRel c n w wr.drew A L C k := ⟨h.size, h.row, h.b0, h.each, h.bel.drew⟩

theorem KRel.setRes {c n k : Nat} {w wr : World} {A : Nat → Option Addr} {L C : Nat → Nat} (h : KRel c n w wr A L C k) (v : Value) : KRel c n w (wr.setCell ⟨c, 0, none⟩ v) A L C k := by
  refine ⟨by simp [World.setCell]; exact h.size, ?_, ?_, fun i hi => ?_, h.bel.setCell (p := ⟨c, 0, none⟩) (Nat.le_refl c) _⟩
  · rw [Below.heap_setCell _ _ _ _ (by simp)]; exact h.row
  · rw [Below.heap_setCell _ _ _ _ (by simp)]; exact h.b0
  · rw [World.cell?_setCell_far _ _ _ _ (by show c ≠ c + 3 + i; omega)]; exact h.each i hi

set_option maxHeartbeats 1000000 in
theorem know_any (S : Nat → Prop) (x : Addr) (n cap : Nat) (A : Nat → Option Addr) (L C : Nat → Nat) (bl : Nat → List Rng) (w : World) (hs : n ≤ 1048576) (h : Bs S w (some x) n A L C bl) :
    Calls Try.prog 11 #[.slice (some x) n cap] w fun e w' => e = .returned (.agg #[.pointer (some ⟨w.heap.size + 2, 0, none⟩)]) ∧ KRel w.heap.size n w w' A L C n := by
  have hnil := fun (w : World) (a : Option Addr) (n c : Nat) => Lib.run_eql_slice_nil (P := Try.prog) w 26 28 a n c 0 0 Try.underlying26
  obtain ⟨i0, hi, hz0, hz1, hz2⟩ := info_parts Try.info49
  have H := hide h
  clear h
  have hmk : ∀ w : World, (Instr.makeSlice 48 (.int .i64 (n : Int)) (.int .i64 (n : Int))).run Try.prog w = .ok (.slice (some ⟨w.heap.size, 0, none⟩) n n) (w.alloc (.cells (Array.replicate n (Value.pointer none)) 49)) := fun w => by
    have := run_make (P := Try.prog) w 48 49 i0 _ Try.underlying48 hi hz0 .i64 .i64 n n (by omega) (Int.le_refl _) (by rw [hz2]; omega) (by omega)
    simp only [Int.toNat_natCast, hz1, Nat.mul_one] at this
    rw [this]
    have e : madeCells (Value.pointer none).cells n = Array.replicate n (Value.pointer none) := by
      apply Array.ext'
      exact (toList_madeCells_one _ _).trans (by simp)
    rw [e]
  clear hi hz0 hz1 hz2
  have HS := hide (know_start n w A L C)
  go_enter Try.func11, Try.ntmps11
  go_wp2
  go_loopw [4] (fun i wr => ∃ k : Nat, k ≤ n ∧ i = .int .i64 k ∧ KRel w.heap.size n w wr A L C k ∧ (wr.cell? ⟨w.heap.size, 0, none⟩).isSome = true ∧ wr.frozen? ⟨w.heap.size, 0, none⟩ = false) (fun i _ => n - (intOf i).toNat)
  case atStart =>
    refine ⟨0, Nat.zero_le _, rfl, unhide HS, ?_, ?_⟩
    · rw [World.cell?_alloc_past _ _ _ (by simp; omega), World.cell?_alloc_past _ _ _ (by simp), World.cell?_alloc_at _ _ _ _ rfl]; rfl
    · rw [World.frozen?_alloc_past _ _ _ (by simp; omega), World.frozen?_alloc_past _ _ _ (by simp)]; exact World.frozen?_alloc_at _ _ _ _ rfl
  case round =>
    obtain ⟨k, hk, rfl, hrel, hr0, hf0⟩ := hrel
    clear HS
    have hsz := hrel.size
    have d0 : wr.cell? ⟨w.heap.size + 1 + 1, 0, none⟩ = some (.slice (some ⟨w.heap.size + 1, 0, none⟩) n n) := by rw [cell_of_row wr _ 0 _ 48 (0, 0) hrel.b0]; rfl
    by_cases hlt : k < n
    · obtain ⟨b, off, hx, hb, hc⟩ := (unhide H).row (by omega)
      have c0 : wr.cell? ⟨b, off + k, none⟩ = some (.slice (A k) (L k) (C k)) := (hrel.bel.cell (by exact hb)).trans (hc k hlt)
      have e0 : (wr.cell? ⟨w.heap.size + 1, k, none⟩) = some (.pointer none) := by rw [cell_of_row wr _ k _ 49 (0, 0) hrel.row, List.getElem?_toArray, List.getElem?_append_right (by rw [ptrs_len]; exact Nat.le_refl _), ptrs_len, Nat.sub_self, List.getElem?_replicate, if_pos (by omega)]
      have f0 : wr.frozen? ⟨w.heap.size + 1, k, none⟩ = false := frozen_of_row wr _ k _ 49 hrel.row
      have hlt' : (k : Int) < (n : Int) := by omega
      have d1 : ∀ o, (wr.alloc o).cell? ⟨w.heap.size + 1 + 1, 0, none⟩ = some (.slice (some ⟨w.heap.size + 1, 0, none⟩) n n) := fun o => (World.cell?_alloc_past _ _ _ (by show w.heap.size + 1 + 1 < wr.heap.size; omega)).trans d0
      have c1 : ∀ o, (wr.alloc o).cell? ⟨b, off + k, none⟩ = some (.slice (A k) (L k) (C k)) := fun o => (World.cell?_alloc_past _ _ _ (by show b < wr.heap.size; omega)).trans c0
      have e1 : ∀ o, (wr.alloc o).cell? ⟨w.heap.size + 1, k, none⟩ = some (.pointer none) := fun o => (World.cell?_alloc_past _ _ _ (by show w.heap.size + 1 < wr.heap.size; omega)).trans e0
      have f1 : ∀ o, (wr.alloc o).frozen? ⟨w.heap.size + 1, k, none⟩ = false := fun o => (World.frozen?_alloc_past _ _ _ (by show w.heap.size + 1 < wr.heap.size; omega)).trans f0
      have HN := hide (know_step rfl hlt hrel)
      clear hc H
      obtain rfl := Option.some.inj hx
      have g0 : ∀ o p v, ((wr.alloc o).setCell ⟨w.heap.size + 1, p, none⟩ v).cell? ⟨w.heap.size, 0, none⟩ = wr.cell? ⟨w.heap.size, 0, none⟩ := fun o p v => by
        rw [World.cell?_setCell_far _ _ _ _ (by show w.heap.size + 1 ≠ w.heap.size; omega), World.cell?_alloc_past _ _ _ (by show w.heap.size < wr.heap.size; omega)]
      have g1 : ∀ o p v, ((wr.alloc o).setCell ⟨w.heap.size + 1, p, none⟩ v).frozen? ⟨w.heap.size, 0, none⟩ = false := fun o p v => by
        rw [World.frozen?_setCell, World.frozen?_alloc_past _ _ _ (by show w.heap.size < wr.heap.size; omega)]; exact hf0
      have G0 := hide g0
      have G1 := hide g1
      have HR0 := hide hr0
      clear g0 g1 hr0 hf0
      go_wp2
      go_region
      clear d0 c0 e0 f0 d1 c1 e1 f1
      go_wp2
      go_roundw
      case rel => exact ⟨k + 1, by omega, by go_num, (unhide HN).drew, (congrArg Option.isSome (unhide G0 _ _ _)).trans (unhide HR0), unhide G1 _ _ _⟩
      case measure => simp [intOf]; omega
    · obtain rfl : k = n := by omega
      obtain ⟨v0, hv0⟩ := Option.isSome_iff_exists.1 hr0
      have HE := hide (hrel.setRes (.pointer (some ⟨w.heap.size + 1 + 1, 0, none⟩)))
      clear hr0 d0 hrel
      go_wp2
      refine bodyPost_ret (v := .agg #[.pointer (some ⟨w.heap.size + 2, 0, none⟩)]) ?_ rfl ⟨rfl, unhide HE⟩
      have hcc := World.cell?_setCell_same wr ⟨w.heap.size, 0, none⟩ (.pointer (some ⟨w.heap.size + 1 + 1, 0, none⟩)) hv0
      simp [results, Try.results11, go_sem, hcc]
set_option maxHeartbeats 1000000 in
theorem know_nil (w : World) : Calls Try.prog 11 #[.slice none 0 0] w fun e w' => e = .returned (.agg #[.pointer none]) ∧ Below w.heap.size w w' := by
  have hnil := fun (w : World) (a : Option Addr) (n c : Nat) => Lib.run_eql_slice_nil (P := Try.prog) w 26 28 a n c 0 0 Try.underlying26
  go_enter Try.func11, Try.ntmps11
  go_wp2
  refine bodyPost_ret (v := .agg #[.pointer none]) ?_ rfl ⟨rfl, (Below.refl _ _).alloc (Nat.le_refl _) _⟩
  simp [results, Try.results11, go_sem]

end Go.Proofs.Qxb6600722a
