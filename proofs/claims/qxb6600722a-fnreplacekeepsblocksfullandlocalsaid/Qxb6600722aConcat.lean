import Derived.Test.Qxb6600722aAppend
import Derived.Lib.AppendZeros
namespace Go.Proofs.Qxb6600722a
open Go.RowKit

def GrowPost (w : World) (e : Ending) (w' : World) : Prop := ∃ v, e = .returned v ∧ w'.ownsRow w.heap.size 47 18 v 0 [] ∧ Below w.heap.size w w'

theorem Try.underlying3' : Try.prog.underlying 3 = some (.int .i64) := Try.underlying3

set_option maxHeartbeats 1000000 in
theorem grow_any (n : Nat) (w : World) (hn : n ≤ 4194304) : Calls Try.prog 26 #[.slice none 0 0, .int .i64 n] w (GrowPost w) := by
  by_cases h0 : n = 0
  · subst h0
    go_enter Try.func26, Try.ntmps26
    go_wp2
    go_ret
    exact ⟨_, rfl, World.ownsRow_nil _ _ _ _, Below.refl _ _⟩
  · obtain ⟨i0, hi, hz0, hz1, hz2⟩ := info_parts Try.info47
    have h1 : 0 < n := by omega
    have hrun := Lib.run_append_nil_zeros (P := Try.prog) w 28 3 28 47 i0 _ .i64 .i64 Try.underlying28 Try.underlying3 hi hz0 n h1 (by omega) (by omega) (by rw [hz2]; omega)
    have HR := hide hrun
    have hge := grownCap_ge w n 0 47
    have hmx := grownCap_le_maxLen w n 0 47 (by unfold maxLen; omega)
    have HE : Hid (GrowPost w (.returned (.slice (some ⟨w.heap.size, 0, none⟩) 0 (grownCap w n 0 47)))
        ((w.alloc (.cells (Builtin.zeroCells (Value.agg #[.int .u8 0, .int .u8 0, .int .u8 0, .int .u8 0, .int .u8 0, .int .u8 0, .int .u8 0, .int .u8 0, .int .u8 0, .int .u8 0, .int .u8 0, .int .u8 0, .int .u8 0, .int .u8 0, .int .u8 0, .int .u8 0, .int .u64 0, .int .u64 0]).cells n ++ Builtin.zeroCells (Value.agg #[.int .u8 0, .int .u8 0, .int .u8 0, .int .u8 0, .int .u8 0, .int .u8 0, .int .u8 0, .int .u8 0, .int .u8 0, .int .u8 0, .int .u8 0, .int .u8 0, .int .u8 0, .int .u8 0, .int .u8 0, .int .u8 0, .int .u64 0, .int .u64 0]).cells (grownCap w n 0 47 - n)) 47)).drew)) := by
      refine ⟨_, rfl, World.ownsRow.drew (World.ownsRow_made w _ _ (Nat.le_refl _) hmx ?_), ((Below.refl _ _).alloc (Nat.le_refl _) _).drew⟩
      rw [Array.size_append, size_zeroCells, size_zeroCells]
      show n * 18 + (grownCap w n 0 47 - n) * 18 = _
      omega
    clear hrun hge hmx hi hz0 hz1 hz2
    go_enter Try.func26, Try.ntmps26
    go_wp2_with (at_builtin; refine Lib.wpList_append_run _ rfl _ _ _ _ rfl _ _ rfl rfl _ _ (unhide HR) ?_)
    go_ret
    exact unhide HE

def ConcatPost (w : World) (rs : List Rng) (e : Ending) (w' : World) : Prop := ∃ a cap, e = .returned (.slice a rs.length cap) ∧ Rs (fun k => k < w.heap.size) w' a rs.length cap rs ∧ Below w.heap.size w w'

set_option maxHeartbeats 1000000 in
theorem concat_any (S T : Nat → Prop) (g : Nat) (a1 a2 : Option Addr) (n1 n2 c1 c2 : Nat) (rs1 rs2 : List Rng) (w : World) (hs : n1 + n2 ≤ 1048576) (hg0 : w.cell? ⟨g, 0, none⟩ = some (.slice a1 n1 c1)) (hg1 : w.cell? ⟨g, 1, none⟩ = some (.slice a2 n2 c2))
    (h1 : Rs S w a1 n1 c1 rs1) (h2 : Rs T w a2 n2 c2 rs2) : Calls Try.prog 23 #[.slice (some ⟨g, 0, none⟩) 2 2] w (ConcatPost w (rs1 ++ rs2)) := by
  have hgl : g < w.heap.size := World.block_lt_of_cell? w _ hg0
  have H1 := hide h1
  have H2 := hide h2
  have C26 := hide (grow_any (n1 + n2) w (by omega))
  clear h1 h2
  go_enter Try.func23, Try.ntmps23
  go_wp2
  refine wp_loop_rounds 3 ?_
  rw [rounds_succ]
  go_wp2
  rw [rounds_succ]
  go_wp2
  rw [rounds_succ]
  go_wp2_with fail
  rw [show (n1 : Int) + (n2 : Int) = ((n1 + n2 : Nat) : Int) by omega]
  refine (unhide C26).mono ?_
  rintro e w1 ⟨v, rfl, hown, hb1⟩
  have hz1 := hb1.size
  have d0 : w1.cell? ⟨g, 0, none⟩ = some (.slice a1 n1 c1) := (hb1.cell (by exact hgl)).trans hg0
  have d1 : w1.cell? ⟨g, 1, none⟩ = some (.slice a2 n2 c2) := (hb1.cell (by exact hgl)).trans hg1
  have r1 := (unhide H1).below hb1
  have r2 := hide ((unhide H2).below hb1)
  clear hg0 hg1 C26
  go_wp2
  refine wp_loop_rounds 3 ?_
  rw [rounds_succ]
  go_wp2_with (at_builtin; refine wpList_append_rs _ rfl _ _ rfl w.heap.size _ _ _ rfl hown S _ _ _ rs1 rfl r1 (by omega) (by omega) ?_)
  intro v1 w2 hown1 hgrow1
  have hb2 := (Below.refl w.heap.size w1).grown hgrow1 hz1 (fun q hq => (hown.lt q hq).1)
  have hz2 := hb2.size
  have e1 : w2.cell? ⟨g, 1, none⟩ = some (.slice a2 n2 c2) := (hb2.cell (by exact hgl)).trans d1
  have r3 : Rs T w2 a2 n2 c2 rs2 := by
    refine (unhide H2).below (hb1.trans hb2)
  clear d0 d1 r1 r2 hown
  go_wp2
  rw [rounds_succ]
  go_wp2_with (at_builtin; refine wpList_append_rs _ rfl _ _ rfl w.heap.size _ _ _ rfl hown1 T _ _ _ rs2 rfl r3 (by omega) (by omega) ?_)
  intro v2 w3 hown2 hgrow2
  have hb3 := (Below.refl w.heap.size w2).grown hgrow2 (by omega) (fun q hq => (hown1.lt q hq).1)
  rw [← List.flatten_append] at hown2
  have hlen : (rs1 ++ rs2).length = n1 + n2 := by rw [List.length_append, (unhide H1).len, (unhide H2).len]
  obtain ⟨a', cap', hv, hr⟩ := Rs.of_owns hown2 (fun r hr => by rcases List.mem_append.1 hr with h | h; exact (unhide H1).rng r h; exact (unhide H2).rng r h) hlen
  have HE : Hid (ConcatPost w (rs1 ++ rs2) (.returned (.slice a' (n1 + n2) cap')) w3) := by
    rw [← hlen] at hr ⊢
    exact ⟨a', cap', rfl, hr, hb1.trans (hb2.trans hb3)⟩
  rw [hv]
  clear e1 r3 hown1 hown2 hgrow1 hgrow2 hr hv hlen
  go_wp2
  rw [rounds_succ]
  go_wp2
  go_ret
  exact unhide HE
end Go.Proofs.Qxb6600722a
