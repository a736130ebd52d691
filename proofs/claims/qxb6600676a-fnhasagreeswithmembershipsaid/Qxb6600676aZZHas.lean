import Derived.Test.Qxb6600676aHas
namespace Go.Proofs.Qxb6600676a
open Go.RowKit

section
variable (w : World) (v u : Value) (p : Int)

/-- The world in which 'has' is called: a labelHolders and a place have been laid. -/
def laid2 : World := (w.alloc (.cells #[v, u, .int .i64 0] 39)).alloc (.cells #[.int .i64 p] 3)

theorem laid2_below : Below w.heap.size w (laid2 w v u p) := ((Below.refl _ _).alloc (Nat.le_refl _) _).alloc (by simp) _
theorem laid2_0 : (laid2 w v u p).cell? ⟨w.heap.size, 0, none⟩ = some v := by
  unfold laid2; rw [World.cell?_alloc_past _ _ _ (by simp), World.cell?_alloc_at _ _ _ _ rfl]; rfl
theorem laid2_1 : (laid2 w v u p).cell? ⟨w.heap.size, 1, none⟩ = some u := by
  unfold laid2; rw [World.cell?_alloc_past _ _ _ (by simp), World.cell?_alloc_at _ _ _ _ rfl]; rfl
theorem laid2_p : (laid2 w v u p).cell? ⟨w.heap.size + 1, 0, none⟩ = some (.int .i64 p) := by
  unfold laid2; rw [World.cell?_alloc_at _ _ _ _ (by simp)]; rfl
theorem laid2_f : (laid2 w v u p).frozen? ⟨w.heap.size + 1, 0, none⟩ = false := World.frozen?_alloc_at _ _ _ _ (by simp)
theorem laid2_size : (laid2 w v u p).heap.size = w.heap.size + 2 := by unfold laid2; simp
end

set_option maxHeartbeats 800000 in
theorem zzHasList (a : Option Addr) (cap : Nat) (bs : List Bool) (n : Nat) (d : Int) (at0 : Nat) (w : World) (hn : n ≤ 65536) (hat : at0 ≤ place bs n d)
    (hr : RowV w a (cnt bs n) (fun j => .int .i64 ((posTo bs n).getD j 0 : Nat))) :
    Calls Try.prog 9 #[.slice a (cnt bs n) cap, .slice none 0 0, .int .i64 d, .int .i64 at0] w fun e w' =>
      e = .returned (.tuple #[.bool (member bs n d), .int .i64 (place bs n d : Nat)]) ∧ Below w.heap.size w w' := by
  have hb := laid2_below w (.slice a (cnt bs n) cap) (.slice none 0 0) at0
  have C := hasList_any w.heap.size (w.heap.size + 1) a cap bs n d at0 (laid2 w (.slice a (cnt bs n) cap) (.slice none 0 0) at0) hn (by omega) hat (laid2_0 ..) (laid2_1 ..) (laid2_p ..) (laid2_f ..)
    (fun h0 => by
      obtain ⟨b, off, ha, hlt, hc⟩ := hr h0
      exact ⟨b, off, ha, by omega, fun j hj => (hb.cell (p := ⟨b, off + j, none⟩) hlt).trans (hc j hj)⟩)
  have HC := hide C
  clear hr C
  go_enter Try.func9, Try.ntmps9
  go_wp2_with fail
  refine (unhide HC).mono ?_
  rintro e w' ⟨rfl, hp, hbel⟩
  clear HC
  go_wp2
  go_quiet (fail)
  go_wp2
  go_ret2
  exact ⟨rfl, below_drewN (hb.trans (hbel.mono (by omega))) _⟩

set_option maxHeartbeats 800000 in
theorem zzHasBits (v : Value) (g m : Nat) (bs : List Bool) (n d : Nat) (at0 : Nat) (w : World) (hd : d ≤ 9223372036854775807) (hm : d / 64 < m) (hg : g < w.heap.size)
    (hv : ∃ a l c, v = .slice a l c) (cw : w.cell? ⟨g, d / 64, none⟩ = some (.int .u64 ((wordsTo bs m n).getD (d / 64) 0 : Nat))) :
    Calls Try.prog 9 #[v, .slice (some ⟨g, 0, none⟩) m m, .int .i64 d, .int .i64 at0] w fun e w' =>
      e = .returned (.tuple #[.bool (member bs n d), .int .i64 at0]) ∧ Below w.heap.size w w' := by
  obtain ⟨a, l, c, rfl⟩ := hv
  have hb := laid2_below w (.slice a l c) (.slice (some ⟨g, 0, none⟩) m m) at0
  have hp := laid2_p w (.slice a l c) (.slice (some ⟨g, 0, none⟩) m m) at0
  have C := hasBits_any w.heap.size (w.heap.size + 1) g m bs n d (laid2 w (.slice a l c) (.slice (some ⟨g, 0, none⟩) m m) at0) hd hm (laid2_1 ..) ((hb.cell (p := ⟨g, d / 64, none⟩) hg).trans cw)
  have HC := hide C
  clear C
  go_enter Try.func9, Try.ntmps9
  go_wp2_with fail
  refine (unhide HC).mono ?_
  rintro e w' ⟨rfl, q, rfl⟩
  clear HC
  go_wp2
  go_quiet (fail)
  go_wp2
  go_ret2
  exact ⟨rfl, below_drewN (below_drewN hb _) _⟩
end Go.Proofs.Qxb6600676a
