import Derived.Test.Qxb6600722aReplNil
namespace Go.Proofs.Qxb6600722a
open Go.RowKit
set_option linter.unusedVariables false

/-- What a Knowledge's value holds. -/
def KVal (w : World) (kv : Option Addr) (bl : List (List Rng)) : Prop :=
  (kv = none ∧ bl = []) ∨
  ∃ B a n cap ps, kv = some ⟨B, 0, none⟩ ∧ w.cell? ⟨B, 0, none⟩ = some (.slice a n cap) ∧ (0 < n → ∃ b, a = some ⟨b, 0, none⟩ ∧ b < w.heap.size ∧ w.rangeAt b 0 ps) ∧ ps.length = n ∧ PB (fun _ => False) w ps bl

def BRPost (w : World) (bl : List (List Rng)) (e : Ending) (w' : World) : Prop :=
  ∃ a cap A C, e = .returned (.slice a bl.length cap) ∧ Bs (fun _ => False) w' a bl.length A (fun i => (bl.getD i []).length) C (fun i => bl.getD i []) ∧ Below w.heap.size w w'

theorem brpost_nil {w w' : World} (h : Below w.heap.size w w') : BRPost w [] (.returned (.slice none 0 0)) w' :=
  ⟨none, 0, fun _ => none, fun _ => 0, rfl, ⟨fun h0 => absurd h0 (by simp), fun h0 => absurd h0 (by simp), fun i hi => absurd hi (by simp)⟩, h⟩

structure YRel (w : World) (bl : List (List Rng)) (k : Nat) (ys : List Value) : Prop where
  len : ys.length = k
  each : ∀ i, i < k → ∃ a c, ys[i]? = some (.slice a (bl.getD i []).length c) ∧ Rs (fun _ => False) w a (bl.getD i []).length c (bl.getD i [])

theorem YRel.snoc {w : World} {bl : List (List Rng)} {k : Nat} {ys : List Value} (h : YRel w bl k ys) {a : Option Addr} {n c : Nat} (hn : (bl.getD k []).length = n) (hr : Rs (fun _ => False) w a n c (bl.getD k [])) : YRel w bl (k + 1) (ys ++ [.slice a n c]) := by
  subst hn
  refine ⟨by simp [h.len], fun i hi => ?_⟩
  by_cases hik : i < k
  · obtain ⟨a, c, h1, h2⟩ := h.each i hik
    exact ⟨a, c, by rw [List.getElem?_append_left (by rw [h.len]; exact hik)]; exact h1, h2⟩
  · obtain rfl : i = k := by omega
    exact ⟨a, c, by rw [List.getElem?_append_right (by rw [h.len]; omega), h.len]; simp, hr⟩

theorem brpost_end {w w' : World} {bl : List (List Rng)} {ys : List Value} {g : Nat} (h : YRel w bl bl.length ys) (hown : w'.ownsRow g 28 1 (.slice (some ⟨g, 0, none⟩) bl.length bl.length) bl.length ys) (hb : Below w.heap.size w w') :
    BRPost w bl (.returned (.slice (some ⟨g, 0, none⟩) bl.length bl.length)) w' := by
  have hgl : g < w'.heap.size := (hown.lt _ rfl).2
  refine ⟨_, bl.length, fun i => sliceA (ys.getD i undef), fun i => sliceC (ys.getD i undef), rfl, ⟨fun _ => ⟨g, 0, rfl, hgl, fun j hj => ?_⟩, (fun _ _ _ => id), fun i hi => ?_⟩, hb⟩
  · obtain ⟨a, c, h1, _⟩ := h.each j hj
    rw [Nat.zero_add, hown.cellAt j (by omega), h1]
    simp [List.getD, h1, sliceA, sliceC]
  · obtain ⟨a, c, h1, h2⟩ := h.each i hi
    have e1 : sliceA (ys.getD i undef) = a := by simp [List.getD, h1, sliceA]
    have e2 : sliceC (ys.getD i undef) = c := by simp [List.getD, h1, sliceC]
    show Rs _ w' (sliceA (ys.getD i undef)) _ (sliceC (ys.getD i undef)) _
    rw [e1, e2]
    exact h2.below hb

set_option maxHeartbeats 1000000 in
theorem bRanges_any (kv : Option Addr) (bl : List (List Rng)) (w : World) (hs : bl.length ≤ 1048576) (h : KVal w kv bl) : Calls Try.prog 15 #[.agg #[.pointer kv]] w (BRPost w bl) := by
  have hnil := fun (w : World) (a : Option Addr) (n c : Nat) => Lib.run_eql_slice_nil (P := Try.prog) w 48 49 a n c 0 0 Try.underlying48
  have hal : ∀ o, Below w.heap.size w (w.alloc o) := fun o => (Below.refl _ _).alloc (Nat.le_refl _) o
  rcases h with ⟨rfl, rfl⟩ | ⟨B, a, n, cap, ps, rfl, hB, hrow, hn, hpb⟩
  · have HAL := hide hal
    clear hal
    go_enter Try.func15, Try.ntmps15
    go_wp2_with fail
    refine (inOrder_nil _).mono ?_
    rintro e w1 ⟨rfl, hb1⟩
    have HE := hide (brpost_nil ((unhide HAL _).trans (hb1.mono (by simp))))
    go_wp2
    go_ret
    exact unhide HE
  · have hBl : B < w.heap.size := World.block_lt_of_cell? w _ hB
    have hbn : bl.length = n := by rw [← hpb.len]; exact hn
    have HPB := hide hpb
    have HROW := hide hrow
    have HBN := hide hbn
    have HAL := hide hal
    have HN := hide hn
    have hsn : n ≤ 1048576 := by omega
    have C22 := hide (fun o => inOrder_some B a n cap (w.alloc o) ((World.cell?_alloc_past _ _ _ (by exact hBl)).trans hB))
    clear hpb hrow hbn hal hn hB hs
    cases a with
    | none =>
      have h0 : n = 0 := by
        rcases Nat.eq_zero_or_pos n with h | h
        · exact h
        · obtain ⟨b, hb, _⟩ := unhide HROW h; cases hb
      subst h0
      obtain rfl : bl = [] := List.eq_nil_of_length_eq_zero (unhide HBN)
      go_enter Try.func15, Try.ntmps15
      go_wp2_with fail
      refine (unhide C22 _).mono ?_
      rintro e w1 ⟨rfl, hb1⟩
      have HE := hide (brpost_nil ((unhide HAL _).trans (hb1.mono (by simp))))
      go_wp2
      go_ret
      exact unhide HE
    | some x =>
      obtain ⟨i0, hi, hz0, hz1, hz2⟩ := info_parts Try.info28
      go_enter Try.func15, Try.ntmps15
      go_wp2_with fail
      refine (unhide C22 _).mono ?_
      rintro e w1 ⟨rfl, hb1⟩
      have hb2 : Below w.heap.size w w1 := (unhide HAL _).trans (hb1.mono (by simp))
      have hz := hb2.size
      have HB2 := hide hb2
      clear hb1 hb2 C22 HAL
      go_wp2_with (at_make; refine wpList_make_full _ rfl _ _ 26 rfl w1.heap.size 28 i0 _ 1 Try.underlying26 hi hz0 hz1 _ _ _ _ n rfl rfl rfl rfl ?_ ?_ ?_ ?_)
      case refine_1 => rw [hz2]; omega
      case refine_2 => unfold maxLen; omega
      case refine_3 => exact Nat.le_refl _
      intro w2 hown hgrow
      have hb3 : Below w.heap.size w w2 := (unhide HB2).grown hgrow hz (by simp)
      rw [toList_madeCells_one] at hown
      have HO := hide hown
      have HB3 := hide hb3
      clear hgrow hi hz0 hz1 hz2 i0 hown hb3 HB2
      go_wp2
      go_loopw [5] (fun i wr => ∃ (k : Nat) (ys : List Value), k ≤ n ∧ i = .int .i64 k ∧ YRel w bl k ys ∧ wr.ownsRow w1.heap.size 28 1 (.slice (some ⟨w1.heap.size, 0, none⟩) n n) n (ys ++ List.replicate (n - k) (.slice none 0 0)) ∧ Below w.heap.size w wr) (fun i _ => n - (intOf i).toNat)
      case atStart => exact ⟨0, [], Nat.zero_le _, rfl, ⟨rfl, fun i hi => absurd hi (by omega)⟩, by simpa using unhide HO, unhide HB3⟩
      case round =>
        obtain ⟨k, ys, hk, rfl, hrel, hown, hbel⟩ := hrel
        clear HO HB3
        by_cases hlt : k < n
        · obtain ⟨b, hx, hb, hra⟩ := unhide HROW (by omega)
          obtain rfl := Option.some.inj hx
          obtain ⟨g, ag, ng, cg, hp, hc, _, hr⟩ := (unhide HPB).each k (by rw [unhide HBN]; exact hlt)
          have hgl : g < w.heap.size := World.block_lt_of_cell? w _ hc
          have c0 : wr.cell? ⟨b, k, none⟩ = some (.pointer (some ⟨g, 0, none⟩)) := by
            rw [hbel.cell (p := ⟨b, k, none⟩) hb]
            have := hra k _ hp
            rwa [Nat.zero_add] at this
          have c1 : wr.cell? ⟨g, 0, none⟩ = some (.slice ag ng cg) := (hbel.cell (by exact hgl)).trans hc
          have f0 := hown.frozenAt k
          obtain ⟨v3, hold⟩ : ∃ v, wr.cell? ⟨w1.heap.size, k, none⟩ = some v := ⟨_, (hown.cellAt k (by omega)).trans (List.getElem?_eq_getElem (by have := hown.1; omega))⟩
          have hR : (wr.setCell ⟨w1.heap.size, k, none⟩ (.slice ag ng cg)).ownsRow w1.heap.size 28 1 (.slice (some ⟨w1.heap.size, 0, none⟩) n n) n ((ys ++ [.slice ag ng cg]) ++ List.replicate (n - (k + 1)) (.slice none 0 0)) := by
            have := (hown.stored k (.slice ag ng cg)).1
            rwa [show n - k = (n - (k + 1)) + 1 by omega, List.replicate_succ, List.set_append_right _ _ (by rw [hrel.len]; exact Nat.le_refl _), hrel.len, Nat.sub_self, List.set_cons_zero, ← List.singleton_append, ← List.append_assoc] at this
          have HF := hide (And.intro (hrel.snoc hr.len hr) (And.intro hR (hbel.setCell (p := ⟨w1.heap.size, k, none⟩) (by exact hz) (.slice ag ng cg))))
          clear hra hp hc hr hrel hown hbel hR HPB HROW
          go_wp2
          go_roundw
          case rel => exact ⟨k + 1, _, by omega, by go_num, (unhide HF).1, (unhide HF).2.1, (unhide HF).2.2⟩
          case measure => simp [intOf]; omega
        · obtain rfl : k = n := by omega
          rw [Nat.sub_self, List.replicate_zero, List.append_nil] at hown
          have HE : Hid (BRPost w bl (.returned (.slice (some ⟨w1.heap.size, 0, none⟩) k k)) wr) := by
            have e := unhide HBN
            subst e
            exact brpost_end hrel hown hbel
          clear hown hrel hbel
          go_wp2
          go_ret
          exact unhide HE
end Go.Proofs.Qxb6600722a
