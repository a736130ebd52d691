import Derived.Test.Qxb6600722aReplace2
namespace Go.Proofs.Qxb6600722a
open Go.RowKit
set_option linter.unusedVariables false

theorem run_clear_none (a : Option Addr) (c : Nat) (ty : TypeId) (w : World) : (Builtin.clear_ #[48] ty #[.slice a 0 c]).run Try.prog w = .ok (.tuple #[]) w := by
  cases a <;> simp [Builtin.clear_, run_underlying Try.underlying48]

theorem splice_len2 {ps qs : List Value} {lo hi n m : Nat} (hn : ps.length = n) (hm : qs.length = m) (h1 : lo + m ≤ hi) (h2 : hi ≤ n) : (splice (splice ps lo qs) (lo + m) (ps.drop hi)).length = n := by
  rw [length_splice _ _ _ (by rw [length_splice _ _ _ (by omega), List.length_drop]; omega), length_splice _ _ _ (by omega), hn]

/-- The row behind the two copies. -/
theorem rep_inplace {R n lo hi m : Nat} {w W : World} {ps qs : List Value} (hn : ps.length = n) (hm : qs.length = m) (h1 : lo + m ≤ hi) (h2 : hi ≤ n)
    (hrow : W.heap[R]? = some (.cells (splice (splice ps lo qs) (lo + m) (ps.drop hi)).toArray 49 (0, 0))) (hk : Kept (fun k => k = R) w W) :
    RepPost R w (ps.take lo ++ qs ++ ps.drop hi) (.returned (.slice (some ⟨R, 0, none⟩) (lo + m + (n - hi)) n)) W := by
  refine ⟨_, n, by rw [List.length_append, List.length_append, List.length_take, hm, List.length_drop, hn, Nat.min_eq_left (by omega)], fun _ => ⟨R, rfl, ⟨_, hrow⟩, ?_⟩, hk⟩
  refine rangeAt_heap hrow (fun j v hv => ?_)
  rw [Nat.zero_add]
  exact splice_two (by rw [List.length_take]; omega) hm (fun j hj => by rw [List.getElem?_take, if_pos hj]) (by rw [List.length_drop]; omega) j v hv

section
variable (R n cap m : Nat) (am : Option Addr) (ps qs : List Value) (w : World)

set_option maxHeartbeats 2000000 in
set_option maxRecDepth 100000 in
/-- In the middle, and it fits. -/
theorem replace_mid_fits (lo hi : Nat) (hs : n + m ≤ 1048576) (hlo : lo < hi) (hhi : hi < n) (ht : lo + m ≤ hi) (hR : w.heap[R]? = some (.cells ps.toArray 49 (0, 0))) (hn : ps.length = n) (hone : ∀ v ∈ ps, v.oneCell' = true) (hq : Qs R w am m cap qs) :
    Calls Try.prog 25 #[.slice (some ⟨R, 0, none⟩) n n, .int .i64 lo, .int .i64 hi, .slice am m cap] w (RepPost R w (ps.take lo ++ qs ++ ps.drop hi)) := by
  have HQ := hide hq
  have HR := hide hR
  have HN := hide hn
  have HO := hide hone
  have x1 : (lo : Int) ≤ (hi : Int) := by omega
  have x2 : (hi : Int) ≤ (n : Int) := by omega
  have x3 : ((lo : Int) == (hi : Int)) = false := by rw [beq_eq_false_iff_ne]; omega
  have x4 : ((hi : Int) == (n : Int)) = false := by rw [beq_eq_false_iff_ne]; omega
  have x5 : ¬ n = lo := by omega
  have x6 : ¬ n = hi := by omega
  have hRl : R < w.heap.size := (Array.getElem?_eq_some_iff.1 hR).1
  have y1 : IntKind.i64.wrap ((lo : Int) + (m : Int)) = (lo : Int) + (m : Int) := by rw [IntKind.wrap_i64]; omega
  clear hR hn hone hq
  go_enter Try.func25, Try.ntmps25
  go_wp2
  go_quiet (fail)
  have z1 : (lo : Int) + (m : Int) + ((n - hi : Nat) : Int) ≤ (n : Int) := by omega
  have z2 : ((lo : Int) + (m : Int) + ((n - hi : Nat) : Int)).toNat = lo + m + (n - hi) := by omega
  have z3 : (lo : Int) + (m : Int) ≤ (hi : Int) := by omega
  have z4 : ¬ n = lo + m := by omega
  go_wp2_with (refine wpList_copy_kept rfl (.tmp 95) (.tmp 96) rfl _ _ _ _ _ _ rfl rfl R lo ps (by exact unhide HR) qs ?e1 ?e2 ?e3 ?e4 (fun k => k = R) w ((Kept.refl _ _).drewN nq) rfl ?_)
  case e1 => rw [(unhide HQ).len]; exact (Nat.min_eq_left (by omega)).symm
  case e2 => intro h0; obtain ⟨g, hg, _, _, hc⟩ := (unhide HQ).lies (by rw [(unhide HQ).len] at h0; exact h0); exact ⟨_, hg, fun j v hv => by rw [Addr.add_mid]; exact hc j v hv⟩
  case e3 => rw [(unhide HQ).len, unhide HN]; omega
  case e4 => exact (unhide HQ).one
  intro W2 HG2 HB2
  have HQm := hide (unhide HQ).len
  have HS : Hid (∀ j v, (ps.drop hi)[j]? = some v → W2.cell? ((⟨R, hi, none⟩ : Addr).add j) = some v) := fun j v hv => by
    rw [Addr.add_mid]
    refine rangeAt_heap HG2.out (fun j v hv => ?_) j v hv
    rw [List.getElem?_drop] at hv
    rw [splice_get _ _ _ _ (by rw [unhide HQm, unhide HN]; omega), if_neg (by rw [unhide HQm]; omega)]
    exact hv
  have HLen : Hid ((ps.drop hi).length = n - hi) := by unfold Hid; rw [List.length_drop, unhide HN]
  have HSpl : Hid ((splice ps lo qs).length = n) := by unfold Hid; rw [length_splice _ _ _ (by rw [unhide HQm, unhide HN]; omega), unhide HN]
  have wr2 : ((lo : Int) + (m : Int)).toNat = lo + m := by omega
  have wr3 : 0 ≤ (lo : Int) + (m : Int) := by omega
  have wr4 : (lo : Int) + (m : Int) ≤ (lo : Int) + (m : Int) + ((n - hi : Nat) : Int) := by omega
  go_wp2
  go_region_held2 (fun w' => Hid (Kept (fun k => k = R) w w')) (first | exact Kept.drew (unhide HB2) | assumption)
    ((refine step_copy_kept rfl (.tmp 103) (.tmp 106) rfl (some ⟨R, lo + m, none⟩) (some ⟨R, hi, none⟩) (n - hi) (n - (lo + m)) (n - hi) (n - hi) rfl rfl R (lo + m) (splice ps lo qs) (by exact HG2.out) (ps.drop hi) (by rw [unhide HLen]; exact (Nat.min_eq_left (by omega)).symm) (fun _ => ⟨rfl, _, rfl, by exact unhide HS⟩) (by rw [unhide HLen, unhide HSpl]; omega) (fun v hv => unhide HO v (List.mem_of_mem_drop hv)) (fun k => k = R) w (Kept.drew (unhide HB2)) rfl ?_; intro W3 HG3 hB3))
  have HE := hide (rep_inplace (unhide HN) (unhide HQm) ht (Nat.le_of_lt hhi) HG3.out (unhide hB3))
  have HL3 := hide (splice_len2 (unhide HN) (unhide HQm) ht (Nat.le_of_lt hhi))
  have HLX : Hid ((ps.take lo ++ qs ++ ps.drop hi).length = lo + m + (n - hi)) := by unfold Hid; rw [List.length_append, List.length_append, List.length_take, unhide HQm, unhide HLen, unhide HN, Nat.min_eq_left (by omega)]
  by_cases hT : n = lo + m + (n - hi)
  · have hclr := run_clear_none
    have z5 : n - (lo + m + (n - hi)) = 0 := by omega
    have HT := hide hT
    clear HG3 hB3 HG2 HS HLen HQm HSpl HB2 HLX HL3 hT
    go_wp2
    go_ret
    exact unhide HE
  · have hz : ∀ w : World, (zeroValue 49).run Try.prog w = .ok (.pointer none) w := by obtain ⟨i0, hi0, hz0, _, _⟩ := info_parts Try.info49; exact fun w => by simp [zeroValue, typeInfo, hi0, hz0]
    have hclr : ∀ ty, (Builtin.clear_ #[48] ty #[.slice (some ⟨R, lo + m + (n - hi), none⟩) (n - (lo + m + (n - hi))) (n - (lo + m + (n - hi)))]).run Try.prog W3 = .ok (.tuple #[]) (W3.setCells R (lo + m + (n - hi)) (List.replicate (n - (lo + m + (n - hi))) (.pointer none))) := fun ty =>
      Lib.run_clear_slice W3 48 49 ty (.pointer none) Try.underlying48 hz rfl rfl R _ _ _ (by omega)
        (fun j hj => by rw [cell_of_row W3 R _ _ 49 (0, 0) HG3.out, List.getElem?_toArray, List.getElem?_eq_getElem (by rw [unhide HL3]; omega)]; rfl) (fun j hj => frozen_of_row W3 R _ _ 49 HG3.out)
    have HP2 := hide ((unhide HE).clear (lo + m + (n - hi)) (by rw [unhide HLX]; exact Nat.le_refl _) (List.replicate (n - (lo + m + (n - hi))) (.pointer none)))
    clear HG3 hB3 HG2 HS HLen HQm HSpl HB2 HLX HL3 hz HE
    go_wp2
    go_ret
    exact unhide HP2
end
end Go.Proofs.Qxb6600722a
