import Derived.Test.Qxb6600722aBase
import Derived.WalkKit
import Derived.WalkSpells
import Derived.WalkLawsBesides
import Derived.Deep.MidRow
namespace Go.Proofs.Qxb6600722a
open Go.RowKit

set_option maxHeartbeats 800000 in
theorem guid_any (g : Int) (w : World) (h0 : 0 ≤ g) (h1 : g ≤ 18446744073709551615) :
    Calls Try.prog 20 #[.int .u64 g] w fun e w' => e = .returned (.agg (guidV g).toArray) ∧ Below w.heap.size w w' := by
  go_enter Try.func20, Try.ntmps20
  go_wp2
  refine wp_loop_rounds 9 ?_
  rw [rounds_succ]
  go_wp2
  rw [rounds_succ]
  go_wp2
  rw [rounds_succ]
  go_wp2
  rw [rounds_succ]
  go_wp2
  rw [rounds_succ]
  go_wp2
  rw [rounds_succ]
  go_wp2
  rw [rounds_succ]
  go_wp2
  rw [rounds_succ]
  go_wp2
  rw [rounds_succ]
  go_wp2
  refine bodyPost_ret (v := .agg (guidV g).toArray) ?_ rfl ⟨rfl, ((Below.refl _ _).alloc (Nat.le_refl _) _).alloc (by simp) _⟩
  simp [results, Try.results20, go_sem, guidV]
end Go.Proofs.Qxb6600722a
