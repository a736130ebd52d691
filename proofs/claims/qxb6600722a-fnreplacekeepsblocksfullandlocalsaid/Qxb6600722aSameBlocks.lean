import Derived.Test.Qxb6600722aSame
import Derived.Test.Qxb6600722aBlocks
namespace Go.Proofs.Qxb6600722a
open Go.RowKit

theorem Bs.below {S : Nat → Prop} {w w' : World} {a : Option Addr} {n : Nat} {A : Nat → Option Addr} {L C : Nat → Nat} {bl : Nat → List Rng} (h : Bs S w a n A L C bl) (hb : Below w.heap.size w w') : Bs S w' a n A L C bl :=
  ⟨h.row.below hb, h.out, fun i hi => (h.each i hi).below hb⟩

theorem below_of_drewN (w : World) (q : Nat) : Below w.heap.size w (w.drewN q) := below_drewN (Below.refl _ _) q

set_option maxHeartbeats 1000000 in
theorem sameBlocks_any (S T : Nat → Prop) (a1 a2 : Option Addr) (n cap1 cap2 : Nat) (A1 A2 : Nat → Option Addr) (L C1 C2 : Nat → Nat) (bl : Nat → List Rng) (w : World) (hs : n ≤ 1048576) (hL : ∀ i, i < n → L i ≤ 1048576)
    (h1 : Bs S w a1 n A1 L C1 bl) (h2 : Bs T w a2 n A2 L C2 bl) :
    Calls Try.prog 18 #[.slice a1 n cap1, .slice a2 n cap2] w fun e w' => e = .returned (.bool true) ∧ ∃ q, w' = w.drewN q := by
  have H1 := hide h1
  have H2 := hide h2
  have HL := hide hL
  clear h1 h2 hL
  go_enter Try.func18, Try.ntmps18
  go_wp2
  go_loopw [5] (fun i wr => ∃ k q : Nat, k ≤ n ∧ i = .int .i64 k ∧ wr = w.drewN q) (fun i _ => n - (intOf i).toNat)
  case atStart => exact ⟨0, 0, Nat.zero_le _, rfl, rfl⟩
  case round =>
    obtain ⟨k, q, hk, rfl, hwr⟩ := hrel
    have hbel : Below w.heap.size w wr := by rw [hwr]; exact below_of_drewN w q
    have HWR := hide hwr
    clear hwr
    by_cases hlt : k < n
    · obtain ⟨b1, o1, hx1, hb1, hc1⟩ := (unhide H1).row (by omega)
      obtain ⟨b2, o2, hx2, hb2, hc2⟩ := (unhide H2).row (by omega)
      have p1 : wr.cell? ⟨b1, o1 + k, none⟩ = some (.slice (A1 k) (L k) (C1 k)) := (hbel.cell (by exact hb1)).trans (hc1 k hlt)
      have p2 : wr.cell? ⟨b2, o2 + k, none⟩ = some (.slice (A2 k) (L k) (C2 k)) := (hbel.cell (by exact hb2)).trans (hc2 k hlt)
      have HC : Hid (∀ m, Calls Try.prog 13 #[.slice (A1 k) (L k) (C1 k), .slice (A2 k) (L k) (C2 k)] (wr.drewN m) fun e w' => e = .returned (.bool true) ∧ ∃ q, w' = (wr.drewN m).drewN q) := fun m =>
        same_any S T _ _ _ _ _ (bl k) (wr.drewN m) (unhide HL k hlt) (((unhide H1).each k hlt).below (below_drewN hbel m)) (((unhide H2).each k hlt).below (below_drewN hbel m))
      clear hc1 hc2 H1 H2 HL hb1 hb2 hbel
      obtain rfl := hx1
      obtain rfl := hx2
      have hlt' : (k : Int) < (n : Int) := by omega
      go_wp2
      go_quiet ((go_at_call 13; exact Calls.quiet_of (unhide HC _)))
      go_wp2
      go_roundw
      case rel => exact ⟨k + 1, _, by omega, by go_num, by rw [unhide HWR, World.drewN_drewN]⟩
      case measure => simp [intOf]; omega
    · go_wp2
      go_ret
      exact ⟨rfl, _, unhide HWR⟩
end Go.Proofs.Qxb6600722a
