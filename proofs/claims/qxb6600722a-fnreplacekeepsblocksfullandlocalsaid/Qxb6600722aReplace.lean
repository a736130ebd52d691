import Derived.Test.Qxb6600722aInsert
namespace Go.Proofs.Qxb6600722a
open Go.RowKit
set_option linter.unusedVariables false

theorem owns_there {w : World} {base g k cap : Nat} {e : TypeId} {xs : List Value} (h : w.ownsRow base e 1 (.slice (some ⟨g, 0, none⟩) k cap) k xs) : w.there g 0 cap := by
  rcases h.2 with ⟨h', _⟩ | ⟨g', cap', cur, h', _, hg, _, _, hcs, _⟩
  · simp at h'
  · simp only [Value.slice.injEq, Option.some.injEq, Addr.mk.injEq, and_true, true_and] at h'
    obtain ⟨rfl, rfl⟩ := h'
    intro j hj
    rw [Nat.zero_add]
    refine ⟨?_, frozen_of_row w g j cur e hg⟩
    rw [cell_of_row w g j cur e (0, 0) hg, Array.getElem?_eq_getElem (by omega)]
    rfl

theorem Kept.setCells {S : Nat → Prop} {b : Nat} (hb : S b) : ∀ (vs : List Value) (o : Nat) {a w : World}, Kept S a w → Kept S a (w.setCells b o vs)
  | [], _, _, _, h => h
  | v :: r, o, _, _, h => by
    rw [World.setCells]
    exact Kept.setCells hb r (o + 1) (h.setCell (p := ⟨b, o, none⟩) hb v)

theorem setCells_type {R b : Nat} {t : TypeId} : ∀ (vs : List Value) (o : Nat) {w : World} {cur : Array Value}, w.heap[b]? = some (.cells cur t (0, 0)) → ∃ cur', (w.setCells R o vs).heap[b]? = some (.cells cur' t (0, 0))
  | [], _, _, cur, h => ⟨cur, h⟩
  | v :: r, o, w, cur, h => by
    rw [World.setCells]
    by_cases e : b = R
    · subst e
      exact setCells_type r (o + 1) (heap_setCell_same w b o cur t v h)
    · refine setCells_type (cur := cur) r (o + 1) ?_
      rw [Below.heap_setCell _ _ _ _ e]
      exact h

theorem RepPost.clear {R k c : Nat} {w w' : World} {xs : List Value} (h : RepPost R w xs (.returned (.slice (some ⟨R, 0, none⟩) k c)) w') (o : Nat) (hk : xs.length ≤ o) (vs : List Value) :
    RepPost R w xs (.returned (.slice (some ⟨R, 0, none⟩) k c)) (w'.setCells R o vs) := by
  obtain ⟨a, cap, he, hx, hkept⟩ := h
  have hk2 := Kept.setCells (S := fun k => k = R) rfl vs o hkept
  refine ⟨a, cap, he, fun h0 => ?_, hk2⟩
  obtain ⟨b, ha, ⟨cur, hb⟩, hr⟩ := hx h0
  exact ⟨b, ha, setCells_type vs o hb, World.rangeAt_setCells_apart hr _ _ _ (Or.inr (Or.inl (by omega)))⟩

section
variable (R n cap m : Nat) (am : Option Addr) (ps qs : List Value) (w : World)

theorem insert_all (lo : Nat) (hs : n + m ≤ 1048576) (hlo : lo ≤ n) (hR : w.heap[R]? = some (.cells ps.toArray 49 (0, 0))) (hn : ps.length = n) (hone : ∀ v ∈ ps, v.oneCell' = true) (hq : Qs R w am m cap qs) :
    Calls Try.prog 27 #[.slice (some ⟨R, 0, none⟩) n n, .int .i64 lo, .slice am m cap] w (RepPost R w (ps.take lo ++ qs ++ ps.drop lo)) := by
  by_cases hm : m = 0
  · subst hm
    obtain rfl : qs = [] := List.eq_nil_of_length_eq_zero hq.len
    rw [List.append_nil, List.take_append_drop]
    exact insert_none R n cap am ps w lo hlo hR hn
  · by_cases hl : lo = n
    · subst hl
      rw [List.take_of_length_le (by omega), List.drop_of_length_le (by omega), List.append_nil]
      exact insert_end R lo cap m am ps qs w hs (by omega) hR hn hq
    · exact insert_mid R n cap m am ps qs w lo hs (by omega) (by omega) hR hn hone hq

set_option maxHeartbeats 2000000 in
set_option maxRecDepth 100000 in
/-- Nothing is taken out: Insert. -/
theorem replace_same (lo : Nat) (hs : n + m ≤ 1048576) (hlo : lo ≤ n) (hR : w.heap[R]? = some (.cells ps.toArray 49 (0, 0))) (hn : ps.length = n) (hone : ∀ v ∈ ps, v.oneCell' = true) (hq : Qs R w am m cap qs) :
    Calls Try.prog 25 #[.slice (some ⟨R, 0, none⟩) n n, .int .i64 lo, .int .i64 lo, .slice am m cap] w (RepPost R w (ps.take lo ++ qs ++ ps.drop lo)) := by
  have C := hide (insert_all R n cap m am ps qs w lo hs hlo hR hn hone hq)
  have h1 : (lo : Int) ≤ (n : Int) := by omega
  have h2 : ((lo : Int) == (lo : Int)) = true := by simp
  clear hR hn hone hq
  by_cases e : n = lo
  · subst e
    go_enter Try.func25, Try.ntmps25
    go_wp2_with fail
    refine (unhide C).mono ?_
    rintro e w' ⟨a, cap', rfl, h3, h4⟩
    have HE : Hid (RepPost R w (ps.take n ++ qs ++ ps.drop n) (.returned (.slice a (ps.take n ++ qs ++ ps.drop n).length cap')) w') := ⟨a, cap', rfl, h3, h4⟩
    clear h3 h4 C
    generalize (ps.take n ++ qs ++ ps.drop n).length = len at HE ⊢
    go_wp2
    go_ret
    exact unhide HE
  · go_enter Try.func25, Try.ntmps25
    go_wp2_with fail
    refine (unhide C).mono ?_
    rintro e w' ⟨a, cap', rfl, h3, h4⟩
    have HE : Hid (RepPost R w (ps.take lo ++ qs ++ ps.drop lo) (.returned (.slice a (ps.take lo ++ qs ++ ps.drop lo).length cap')) w') := ⟨a, cap', rfl, h3, h4⟩
    clear h3 h4 C
    generalize (ps.take lo ++ qs ++ ps.drop lo).length = len at HE ⊢
    go_wp2
    go_ret
    exact unhide HE

set_option maxHeartbeats 2000000 in
set_option maxRecDepth 100000 in
theorem replace_nil (R0 : Nat) (hs : m ≤ 1048576) (hm : 0 < m) (hq : Qs R w am m cap qs) :
    Calls Try.prog 25 #[.slice none 0 0, .int .i64 0, .int .i64 0, .slice am m cap] w (RepPost R0 w qs) := by
  have C := hide (insert_nil R cap m am qs w R0 hs hm hq)
  clear hq
  go_enter Try.func25, Try.ntmps25
  go_wp2_with fail
  refine (unhide C).mono ?_
  rintro e w' ⟨a, cap', rfl, h3, h4⟩
  have HE : Hid (RepPost R0 w qs (.returned (.slice a qs.length cap')) w') := ⟨a, cap', rfl, h3, h4⟩
  clear h3 h4 C
  generalize qs.length = len at HE ⊢
  go_wp2
  go_ret
  exact unhide HE

set_option maxHeartbeats 2000000 in
set_option maxRecDepth 100000 in
/-- To the end, and more comes than goes: a new row. -/
theorem replace_tail_grow (lo : Nat) (hs : n + m ≤ 1048576) (hlo : lo < n) (hg : n < lo + m) (hR : w.heap[R]? = some (.cells ps.toArray 49 (0, 0))) (hn : ps.length = n) (hq : Qs R w am m cap qs) :
    Calls Try.prog 25 #[.slice (some ⟨R, 0, none⟩) n n, .int .i64 lo, .int .i64 n, .slice am m cap] w (RepPost R w (ps.take lo ++ qs)) := by
  obtain ⟨i0, hi, hz0, hz1, hz2⟩ := info_parts Try.info49
  have hown := owns_head R n ps w (base := 0) lo (by omega) (by omega) (Nat.zero_le _) hR hn
  obtain ⟨g, hg', hgR, hgl, hc⟩ := hq.lies (by omega)
  subst hg'
  have HQ := hide hq
  have HC := hide hc
  have HN := hide hn
  have h1 : (lo : Int) ≤ (n : Int) := by omega
  have h2 : ((lo : Int) == (n : Int)) = false := by rw [beq_eq_false_iff_ne]; omega
  have h3 : ((n : Int) == (n : Int)) = true := by simp
  have h4 : ¬ n = lo := by omega
  clear hq hc hR hn hgR hgl
  go_enter Try.func25, Try.ntmps25
  go_wp2_with (at_builtin; refine wpList_append_own _ rfl _ _ 48 rfl 0 49 i0 (.pointer none) 1 8 Try.underlying48 hi hz0 hz1 hz2 rfl (by decide) _ _ _ rfl hown ⟨g, 0, none⟩ m cap qs rfl ?_ ?_ ?_ ?_ ?_ ?_ ?_)
  case refine_1 => rw [(unhide HQ).len, Nat.mul_one]
  case refine_2 => intro j u hu; rw [Addr.add_mid]; exact unhide HC j u hu
  case refine_3 => exact (unhide HQ).one
  case refine_4 => unfold maxLen; omega
  case refine_5 => omega
  case refine_6 => exact Nat.zero_le _
  intro v' w' hown' hgrow _
  have hl : (ps.take lo ++ qs).length = lo + m := by rw [List.length_append, List.length_take, unhide HN, (unhide HQ).len]; omega
  have HP : Hid (RepPost R w (ps.take lo ++ qs) (.returned v') w') := by
    rw [← hl] at hown'
    exact RepPost.of_owns hown' (Kept.grown hgrow)
  obtain ⟨a', c', hv⟩ : ∃ a' c', v' = .slice a' (lo + m) c' := by
    rcases hown'.2 with ⟨rfl, h0⟩ | ⟨g', c', cur, rfl, _⟩
    · exact ⟨none, 0, by rw [h0]⟩
    · exact ⟨_, c', rfl⟩
  rw [hv] at HP
  rw [hv]
  have h5 : ¬ ((lo : Int) + (m : Int) < (n : Int)) := by omega
  clear hown hown' hgrow hl hv
  go_wp2
  go_ret
  exact unhide HP

set_option maxHeartbeats 2000000 in
set_option maxRecDepth 100000 in
/-- To the end, and it fits. -/
theorem replace_tail_fits (lo : Nat) (hs : n + m ≤ 1048576) (hlo : lo < n) (hg : lo + m ≤ n) (hR : w.heap[R]? = some (.cells ps.toArray 49 (0, 0))) (hn : ps.length = n) (hq : Qs R w am m cap qs) :
    Calls Try.prog 25 #[.slice (some ⟨R, 0, none⟩) n n, .int .i64 lo, .int .i64 n, .slice am m cap] w (RepPost R w (ps.take lo ++ qs)) := by
  obtain ⟨i0, hi, hz0, hz1, hz2⟩ := info_parts Try.info49
  have hown := owns_head R n ps w (base := 0) lo (by omega) (by omega) (Nat.zero_le _) hR hn
  have HQ := hide hq
  have HN := hide hn
  have h1 : (lo : Int) ≤ (n : Int) := by omega
  have h2 : ((lo : Int) == (n : Int)) = false := by rw [beq_eq_false_iff_ne]; omega
  have h3 : ((n : Int) == (n : Int)) = true := by simp
  have h4 : ¬ n = lo := by omega
  clear hq hR hn
  go_enter Try.func25, Try.ntmps25
  go_wp2_with (at_builtin; refine wpList_append_fits_any _ rfl _ _ 48 rfl 0 49 i0 1 Try.underlying48 hi hz1 R lo n _ rfl hown am m cap qs rfl ?_ ?_ ?_ ?_ ?_ ?_)
  case refine_1 => rw [(unhide HQ).len, Nat.mul_one]
  case refine_2 => exact (unhide HQ).nil
  case refine_3 =>
    intro ad had j u hu
    obtain ⟨g, hg', _, _, hc⟩ := (unhide HQ).lies (by have := (List.getElem?_eq_some_iff.1 hu).1; have := (unhide HQ).len; omega)
    rw [hg'] at had
    obtain rfl := Option.some.inj had
    rw [Addr.add_mid]
    exact hc j u hu
  case refine_4 => exact (unhide HQ).one
  case refine_5 => exact hg
  intro w' hown' hgrow
  have hl : (ps.take lo ++ qs).length = lo + m := by rw [List.length_append, List.length_take, unhide HN, (unhide HQ).len]; omega
  have HP : Hid (RepPost R w (ps.take lo ++ qs) (.returned (.slice (some ⟨R, 0, none⟩) (lo + m) n)) w') := by
    have h := hown'
    rw [← hl] at h ⊢
    exact RepPost.of_owns h (Kept.grown hgrow)
  by_cases hlt : lo + m < n
  · have h5 : (lo : Int) + (m : Int) < (n : Int) := by omega
    have hz : ∀ w : World, (zeroValue 49).run Try.prog w = .ok (.pointer none) w := fun w => by simp [zeroValue, typeInfo, hi, hz0]
    have hth := owns_there hown'
    have hclr : ∀ ty, (Builtin.clear_ #[48] ty #[.slice (some ⟨R, lo + m, none⟩) (n - (lo + m)) (n - (lo + m))]).run Try.prog w' = .ok (.tuple #[]) (w'.setCells R (lo + m) (List.replicate (n - (lo + m)) (.pointer none))) := fun ty =>
      Lib.run_clear_slice w' 48 49 ty (.pointer none) Try.underlying48 hz rfl rfl R (lo + m) _ _ (by omega) (fun j hj => by have := (hth (lo + m + j) (by omega)).1; rwa [Nat.zero_add] at this) (fun j hj => by have := (hth (lo + m + j) (by omega)).2; rwa [Nat.zero_add] at this)
    have HP2 := hide ((unhide HP).clear (lo + m) (by omega) (List.replicate (n - (lo + m)) (.pointer none)))
    have h6 : ¬ n = lo + m := by omega
    have h7 : (lo : Int) + (m : Int) ≤ (n : Int) := by omega
    clear hown hown' hgrow hl hth hz HP
    go_wp2
    go_ret
    exact unhide HP2
  · have h5 : ¬ ((lo : Int) + (m : Int) < (n : Int)) := by omega
    clear hown hown' hgrow hl
    go_wp2
    go_ret
    exact unhide HP
end
end Go.Proofs.Qxb6600722a
