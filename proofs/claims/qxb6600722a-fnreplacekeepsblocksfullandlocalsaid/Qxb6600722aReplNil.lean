import Derived.Test.Qxb6600722aRepl
namespace Go.Proofs.Qxb6600722a
open Go.RowKit
set_option linter.unusedVariables false

theorem repl_nil_end {K B : Nat} {a : Option Addr} {cap : Nat} {w w3 w4 : World} {qs : List Value} {rs : List Rng} (hKl : K < w.heap.size) (hb3 : Below w.heap.size w w3) (hB : B = w3.heap.size) (hKi : w3.cell? ⟨K, 0, none⟩ = some (.pointer none))
    (hmade : PB (fun k => k = K) w3 qs (chunks rs))
    (hk : Kept (fun k => k = B + 1) ((w3.alloc (.cells #[.slice none 0 0] 48)).setCell ⟨K, 0, none⟩ (.pointer (some ⟨B, 0, none⟩))).drew w4)
    (hx : 0 < qs.length → ∃ b, a = some ⟨b, 0, none⟩ ∧ (∃ cur, w4.heap[b]? = some (.cells cur 49 (0, 0))) ∧ w4.rangeAt b 0 qs) :
    ReplPost (fun k => k = K) K w (chunks rs) (.returned (.tuple #[])) (w4.setCell ⟨B, 0, none⟩ (.slice a qs.length cap)) := by
  have hz := hb3.size
  have k1 : Kept (fun k => k = K) w3 (((w3.alloc (.cells #[.slice none 0 0] 48)).setCell ⟨K, 0, none⟩ (.pointer (some ⟨B, 0, none⟩))).drew) := (Kept.setCell (S := fun k => k = K) ((Kept.refl _ w3).alloc _) (p := ⟨K, 0, none⟩) rfl _).drew
  have hs1 : (((w3.alloc (.cells #[.slice none 0 0] 48)).setCell ⟨K, 0, none⟩ (.pointer (some ⟨B, 0, none⟩))).drew).heap.size = w3.heap.size + 1 := by simp [World.setCell]
  have ht4 : w4.heap[B]? = some (.cells #[.slice none 0 0] 48 (0, 0)) := by
    rw [hk.block B (by omega) (by omega)]
    show ((w3.alloc (.cells #[.slice none 0 0] 48)).setCell ⟨K, 0, none⟩ (.pointer (some ⟨B, 0, none⟩))).heap[B]? = _
    rw [Below.heap_setCell _ _ _ _ (by show B ≠ K; omega), hB]
    exact heap_alloc_new w3 _
  have hc4 : w4.cell? ⟨B, 0, none⟩ = some (.slice none 0 0) := by rw [cell_of_row w4 B 0 _ 48 (0, 0) ht4]; rfl
  have k2 : Kept (fun k => k = K) w3 w4 := by
    refine ⟨hk.os.trans k1.os, hk.tape.trans k1.tape, hk.output.trans k1.output, Nat.le_trans k1.size hk.size, fun i hi hs => ?_⟩
    rw [hk.block i (by omega) (by omega)]
    exact k1.block i hi hs
  have k3 : Kept (fun k => k = K) w3 (w4.setCell ⟨B, 0, none⟩ (.slice a qs.length cap)) := by
    refine ⟨k2.os, k2.tape, k2.output, Nat.le_trans k2.size (by simp [World.setCell]), fun i hi hs => ?_⟩
    rw [Below.heap_setCell _ _ _ _ (by show i ≠ B; omega)]
    exact k2.block i hi hs
  have hcK : w4.cell? ⟨K, 0, none⟩ = some (.pointer (some ⟨B, 0, none⟩)) := by
    rw [World.cell?_of_block (w := (((w3.alloc (.cells #[.slice none 0 0] 48)).setCell ⟨K, 0, none⟩ (.pointer (some ⟨B, 0, none⟩))).drew)) (hk.block K (by omega) (by omega))]
    exact World.cell?_setCell_same _ _ _ ((World.cell?_alloc_past _ _ _ (by show K < w3.heap.size; omega)).trans hKi)
  refine ⟨rfl, (Kept.of_below hb3).trans k3, Or.inr ⟨B, a, _, cap, qs, ?_, World.cell?_setCell_same _ _ _ hc4, fun h0 => ?_, rfl, (hmade.kept k3).change (fun _ _ _ h => h)⟩⟩
  · rw [World.cell?_setCell_far _ _ _ _ (by show B ≠ K; omega)]; exact hcK
  · obtain ⟨b, ha, ⟨cur, hc⟩, hr⟩ := hx h0
    have hne : b ≠ B := fun e => by rw [e, ht4] at hc; simp at hc
    refine ⟨b, ha, Nat.lt_of_lt_of_le (Array.getElem?_eq_some_iff.1 hc).1 (by simp [World.setCell]), fun j v hv => ?_⟩
    rw [World.cell?_setCell_far _ _ _ _ (fun e => hne e.symm)]
    exact hr j v hv

set_option maxHeartbeats 2000000 in
set_option maxRecDepth 100000 in
theorem repl_nil (K : Nat) (a : Option Addr) (nr cr : Nat) (rs : List Rng) (w : World) (hK : w.cell? ⟨K, 0, none⟩ = some (.pointer none)) (hKf : w.frozen? ⟨K, 0, none⟩ = false) (hrs : Rs (fun k => k = K) w a nr cr rs) (ht : rs.length ≤ 131072) :
    Calls Try.prog 21 #[.pointer (some ⟨K, 0, none⟩), .int .i64 0, .int .i64 0, .slice a nr cr] w (ReplPost (fun k => k = K) K w (chunks rs)) := by
  have hKl : K < w.heap.size := World.block_lt_of_cell? w _ hK
  have HRS := hide hrs
  clear hrs
  go_enter Try.func21, Try.ntmps21
  go_wp2_with fail
  refine (inOrder_nil w).mono ?_
  rintro e w1 ⟨rfl, hb1⟩
  have hz1 := hb1.size
  have hr1 := (unhide HRS).below hb1
  have C24 := hide (blocksOf_any (fun k => k = K) a nr cr rs w1 (by rw [← hr1.len]; omega) hr1)
  have HB1 := hide hb1
  clear hb1 hr1 HRS
  go_wp2
  refine wp_loop_rounds 1 ?_
  rw [rounds_succ]
  go_wp2
  refine wp_loop_rounds 1 ?_
  rw [rounds_succ]
  go_wp2_with fail
  refine (unhide C24).mono ?_
  rintro e w3 ⟨v, qs, rfl, hown, hprel, hb3⟩
  have hmade := PB.of_made hprel hb3 (fun k hk => by rw [hk]; omega)
  obtain ⟨am, cm, hv, hq⟩ := Qs.of_owns (R := K) hown (by omega) hmade.one
  rw [hv]
  have hbw : Below w.heap.size w w3 := (unhide HB1).trans (hb3.mono hz1)
  have p0 : w3.cell? ⟨K, 0, none⟩ = some (.pointer none) := (hbw.cell (by exact hKl)).trans hK
  have pf : w3.frozen? ⟨K, 0, none⟩ = false := (hbw.frozen (by exact hKl)).trans hKf
  have hz3 := hbw.size
  have HBW := hide hbw
  have HM := hide hmade
  have HQ := hide hq
  have hml : qs.length = (rs.length + 127) / 128 := hq.len
  have HML := hide hml
  clear hown hprel hb3 hmade hv hq hbw hK hKf C24 HB1 hml
  rcases Nat.eq_zero_or_pos rs.length with h0 | h0
  · obtain rfl : rs = [] := List.eq_nil_of_length_eq_zero h0
    have HE : Hid (ReplPost (fun k => k = K) K w (chunks ([] : List Rng)) (.returned (.tuple #[])) w3) := ⟨rfl, Kept.of_below (unhide HBW), Or.inl ⟨p0, chunks_nil⟩⟩
    go_wp2
    exact bodyPost_ret (v := .tuple #[]) (by simp [results, Try.results21]) rfl (unhide HE)
  · have hm0 : 0 < (rs.length + 127) / 128 := by omega
    have HML0 : Hid ((rs.length + 127) / 128 ≤ 1048576) := by unfold Hid; omega
    generalize (rs.length + 127) / 128 = m at HQ HML HML0 hm0 ⊢
    have hm1 : ((m : Int) == 0) = false := by rw [beq_eq_false_iff_ne]; omega
    have p1 : ∀ o, (w3.alloc o).cell? ⟨K, 0, none⟩ = some (.pointer none) := fun o => (World.cell?_alloc_past _ _ _ (by show K < w3.heap.size; omega)).trans p0
    have pf1 : ∀ o, (w3.alloc o).frozen? ⟨K, 0, none⟩ = false := fun o => (World.frozen?_alloc_past _ _ _ (by show K < w3.heap.size; omega)).trans pf
    have k1 : Kept (fun k => k = K) w3 (((w3.alloc (.cells #[.slice none 0 0] 48)).setCell ⟨K, 0, none⟩ (.pointer (some ⟨w3.heap.size, 0, none⟩))).drew) := (Kept.setCell (S := fun k => k = K) ((Kept.refl _ w3).alloc _) (p := ⟨K, 0, none⟩) rfl _).drew
    have hq5 : Qs K (((w3.alloc (.cells #[.slice none 0 0] 48)).setCell ⟨K, 0, none⟩ (.pointer (some ⟨w3.heap.size, 0, none⟩))).drew) am m cm qs := by
      refine ⟨(unhide HQ).len, (unhide HQ).nil, (unhide HQ).one, fun h1 => ?_⟩
      obtain ⟨g, hg, hgK, hgl, hc⟩ := (unhide HQ).lies h1
      exact ⟨g, hg, hgK, Nat.lt_of_lt_of_le hgl k1.size, k1.range hc hgK⟩
    have C25 := hide (replace_nil K cm m am qs _ (w3.heap.size + 1) (by have := unhide HML0; omega) hm0 hq5)
    have HQF : Hid (∀ w4, Kept (fun k => k = w3.heap.size + 1) (((w3.alloc (.cells #[.slice none 0 0] 48)).setCell ⟨K, 0, none⟩ (.pointer (some ⟨w3.heap.size, 0, none⟩))).drew) w4 →
        w4.cell? ⟨w3.heap.size, 0, none⟩ = some (.slice none 0 0) ∧ w4.frozen? ⟨w3.heap.size, 0, none⟩ = false ∧ w4.cell? ⟨K, 0, none⟩ = some (.pointer (some ⟨w3.heap.size, 0, none⟩))) := fun w4 hk => by
      have hs1 : (((w3.alloc (.cells #[.slice none 0 0] 48)).setCell ⟨K, 0, none⟩ (.pointer (some ⟨w3.heap.size, 0, none⟩))).drew).heap.size = w3.heap.size + 1 := by simp [World.setCell]
      have hb4 : w4.heap[w3.heap.size]? = some (.cells #[.slice none 0 0] 48 (0, 0)) := by
        rw [hk.block _ (by omega) (by omega)]
        show ((w3.alloc (.cells #[.slice none 0 0] 48)).setCell ⟨K, 0, none⟩ (.pointer (some ⟨w3.heap.size, 0, none⟩))).heap[w3.heap.size]? = _
        rw [Below.heap_setCell _ _ _ _ (by show w3.heap.size ≠ K; omega)]
        exact heap_alloc_new w3 _
      refine ⟨by rw [cell_of_row w4 _ 0 _ 48 (0, 0) hb4]; rfl, frozen_of_row w4 _ 0 _ 48 hb4, ?_⟩
      rw [World.cell?_of_block (w := (((w3.alloc (.cells #[.slice none 0 0] 48)).setCell ⟨K, 0, none⟩ (.pointer (some ⟨w3.heap.size, 0, none⟩))).drew)) (hk.block K (by omega) (by omega))]
      exact World.cell?_setCell_same _ _ _ (p1 _)
    have p5 : ((w3.alloc (.cells #[.slice none 0 0] 48)).setCell ⟨K, 0, none⟩ (.pointer (some ⟨w3.heap.size, 0, none⟩))).cell? ⟨K, 0, none⟩ = some (.pointer (some ⟨w3.heap.size, 0, none⟩)) := World.cell?_setCell_same _ _ _ (p1 _)
    have HP0 := hide p0
    clear k1 hq5
    go_wp2
    clear p0 pf p1 pf1
    go_region_held2 (fun w' => w'.cell? ⟨K, 0, none⟩ = some (.pointer (some ⟨w3.heap.size, 0, none⟩))) (first | exact p5 | exact (unhide HQF _ ‹_›).2.2 | (rw [World.cell?_setCell_far _ _ _ _ (by show w3.heap.size ≠ K; omega)]; exact (unhide HQF _ ‹_›).2.2))
      ((go_at_call 25; refine (unhide C25).mono ?_; rintro e w4 ⟨a4, cap4, rfl, hx4, hk4⟩; have q1 := (unhide HQF w4 hk4).1; have q2 := (unhide HQF w4 hk4).2.1))
    have HE := hide (repl_nil_end (cap := cap4) hKl (unhide HBW) rfl (unhide HP0) (unhide HM) hk4 hx4)
    go_end0
    exact unhide HE
end Go.Proofs.Qxb6600722a
