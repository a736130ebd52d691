import Derived.Test.Qxb6600676aParts
import Derived.Deep.LoopGhost
import Derived.BigQuiet
namespace Go.Proofs.Qxb6600676a
open Go.RowKit

set_option maxHeartbeats 800000 in
theorem hasList_any (H Pb : Nat) (a : Option Addr) (cap : Nat) (bs : List Bool) (n : Nat) (d : Int) (at0 : Nat) (w : World) (hn : n ≤ 65536)
    (hH : H < Pb) (hat : at0 ≤ place bs n d)
    (c0 : w.cell? ⟨H, 0, none⟩ = some (.slice a (cnt bs n) cap)) (c1 : w.cell? ⟨H, 1, none⟩ = some (.slice none 0 0)) (p0 : w.cell? ⟨Pb, 0, none⟩ = some (.int .i64 at0)) (pf : w.frozen? ⟨Pb, 0, none⟩ = false)
    (hr : 0 < cnt bs n → ∃ b off, a = some ⟨b, off, none⟩ ∧ b < Pb ∧ ∀ j, j < cnt bs n → w.cell? ⟨b, off + j, none⟩ = some (.int .i64 ((posTo bs n).getD j 0 : Nat))) :
    Calls Try.prog 12 #[.pointer (some ⟨H, 0, none⟩), .int .i64 d, .pointer (some ⟨Pb, 0, none⟩)] w fun e w' =>
      e = .returned (.bool (member bs n d)) ∧ w'.cell? ⟨Pb, 0, none⟩ = some (.int .i64 (place bs n d : Nat)) ∧ Below Pb w w' := by
  have hnil := fun (w : World) (a : Option Addr) (n c : Nat) => run_neq_slice_nil_any (P := Try.prog) w 28 35 a n c 0 0 Try.underlying28
  go_enter Try.func12, Try.ntmps12
  go_wp2
  have HR := hide hr
  clear hr hnil
  have hpl := place_le bs n d
  have hcl := cnt_le bs n
  go_loopg [] (place bs n d) (fun q wr => ∃ k : Nat, k ≤ place bs n d ∧ place bs n d - k ≤ q ∧ wr.cell? ⟨Pb, 0, none⟩ = some (.int .i64 k) ∧ wr.frozen? ⟨Pb, 0, none⟩ = false ∧ Below Pb w wr)
  case atStart => exact ⟨at0, hat, by omega, p0, pf, Below.refl _ _⟩
  case round =>
    obtain ⟨k, hk, hq, hp, hf, hbel⟩ := hrel
    have d0 : wr.cell? ⟨H, 0, none⟩ = some (.slice a (cnt bs n) cap) := (hbel.cell (by exact hH)).trans c0
    clear c0 c1 p0 pf
    by_cases hlt : k < place bs n d
    · obtain ⟨b, off, hx, hb, hc⟩ := unhide HR (by omega)
      obtain rfl := hx
      have hcx : wr.cell? ⟨b, off + k, none⟩ = some (.int .i64 ((posTo bs n).getD k 0 : Nat)) := (hbel.cell (by exact hb)).trans (hc k (by omega))
      have h1 : (k : Int) < (cnt bs n : Int) := by omega
      have h2 := has_lt bs n d k hlt
      generalize ((posTo bs n).getD k 0 : Nat) = z at hcx h2
      clear hc HR
      go_wp2
      go_quiet (fail)
      go_wp2
      go_roundg (place bs n d - (k + 1))
      case measure => omega
      case rel =>
        refine ⟨k + 1, by omega, Nat.le_refl _, ?_, ?_, ?_⟩
        · exact (World.cell?_setCell_same _ _ _ (u := .int .i64 k) (by simpa using hp)).trans (by simp)
        · simpa using hf
        · exact below_drewN (hbel.setCell (p := ⟨Pb, 0, none⟩) (Nat.le_refl _) _) _
    · obtain rfl : k = place bs n d := by omega
      have hit := has_hit bs n d
      by_cases h1 : place bs n d < cnt bs n
      · obtain ⟨b, off, hx, hb, hc⟩ := unhide HR (by omega)
        obtain rfl := hx
        have hcx : wr.cell? ⟨b, off + place bs n d, none⟩ = some (.int .i64 ((posTo bs n).getD (place bs n d) 0 : Nat)) := (hbel.cell (by exact hb)).trans (hc _ h1)
        have h3 := has_ge bs n d (place bs n d) (Nat.le_refl _) h1
        rw [decide_eq_true h1, Bool.true_and] at hit
        generalize ((posTo bs n).getD (place bs n d) 0 : Nat) = z at hcx h3 hit
        have h2 : (place bs n d : Int) < (cnt bs n : Int) := by omega
        have HI := hide hit
        clear hc HR hit
        go_wp2
        go_quiet (fail)
        go_wp2
        go_quiet (fail)
        go_wp2
        go_ret
        exact ⟨congrArg (fun x => Ending.returned (.bool x)) (unhide HI), by simpa using hp, below_drewN (below_drewN hbel _) _⟩
      · have h2 : decide ((place bs n d : Int) < (cnt bs n : Int)) = false := by simp; omega
        rw [decide_eq_false h1, Bool.false_and] at hit
        have HI := hide hit
        clear hit
        go_wp2
        go_quiet (fail)
        go_wp2
        go_quiet (fail)
        go_wp2
        go_ret
        exact ⟨congrArg (fun x => Ending.returned (.bool x)) (unhide HI), by simpa using hp, below_drewN (below_drewN hbel _) _⟩

theorem and_word (x i : Nat) (hx : x < 2 ^ 64) (hi : i < 64) : bits .and .u64 (x : Int) (IntKind.u64.wrap ((2 : Int) ^ i)) = ((x &&& 2 ^ i : Nat) : Int) := by
  rw [two_pow_wrap i hi]
  have h : (2 : Nat) ^ i < 18446744073709551616 := by
    have := Nat.pow_lt_pow_right (a := 2) (by omega) hi
    simpa using this
  exact u64_and_nat x (2 ^ i) (by simpa using hx) h

theorem bits_hit (x i : Nat) (hx : x < 2 ^ 64) (hi : i < 64) : (bits .and .u64 (x : Int) (IntKind.u64.wrap ((2 : Int) ^ i)) != 0) = (x &&& 2 ^ i != 0) := by
  rw [and_word x i hx hi]
  generalize x &&& 2 ^ i = y
  rw [Bool.eq_iff_iff, bne_iff_ne, bne_iff_ne]
  omega

set_option maxHeartbeats 800000 in
theorem hasBits_any (H Pb g m : Nat) (bs : List Bool) (n d : Nat) (w : World) (hd : d ≤ 9223372036854775807) (hm : d / 64 < m)
    (c1 : w.cell? ⟨H, 1, none⟩ = some (.slice (some ⟨g, 0, none⟩) m m)) (cw : w.cell? ⟨g, d / 64, none⟩ = some (.int .u64 ((wordsTo bs m n).getD (d / 64) 0 : Nat))) :
    Calls Try.prog 12 #[.pointer (some ⟨H, 0, none⟩), .int .i64 d, .pointer (some ⟨Pb, 0, none⟩)] w fun e w' =>
      e = .returned (.bool (member bs n d)) ∧ ∃ q, w' = w.drewN q := by
  have hnil := fun (w : World) (a : Option Addr) (n c : Nat) => run_neq_slice_nil_any (P := Try.prog) w 28 35 a n c 0 0 Try.underlying28
  have hlt := wordsTo_lt bs m n (d / 64)
  have hit := word_hit bs m n d hm
  generalize ((wordsTo bs m n).getD (d / 64) 0 : Nat) = x at hlt hit cw
  have HI := hide hit
  have HL := hide hlt
  clear hit hlt
  have h1 : ((d / 64 : Nat) : Int) < (m : Int) := by omega
  go_enter Try.func12, Try.ntmps12
  go_wp2
  go_quiet (fail)
  go_wp2
  go_ret
  exact ⟨congrArg (fun y => Ending.returned (.bool y)) ((bits_hit x _ (unhide HL) (Nat.mod_lt _ (by omega))).trans (unhide HI)), _, rfl⟩

theorem RowV.lt {w : World} {a : Option Addr} {len B : Nat} {V : Nat → Value} (h : RowV w a len V) (hB : w.heap.size ≤ B) : 0 < len → ∃ b off, a = some ⟨b, off, none⟩ ∧ b < B ∧ ∀ j, j < len → w.cell? ⟨b, off + j, none⟩ = some (V j) := by
  intro h0
  obtain ⟨b, off, ha, hlt, hc⟩ := h h0
  exact ⟨b, off, ha, by omega, hc⟩

end Go.Proofs.Qxb6600676a
