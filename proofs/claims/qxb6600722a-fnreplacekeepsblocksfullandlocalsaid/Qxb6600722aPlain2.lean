import Derived.Test.Qxb6600722aPlain
namespace Go.Proofs.Qxb6600722a

/-! THE PLAIN LAWS of replace over blocks that lie as a Knowledge lays them. -/

section
variable {α : Type}

structure Laid (bl : List (List α)) : Prop where
  each : ∀ i, i < bl.length → 1 ≤ (bl.getD i []).length ∧ (bl.getD i []).length ≤ 128
  side : ∀ i, i + 1 < bl.length → 128 < (bl.getD i []).length + (bl.getD (i + 1) []).length

theorem getD_left {xs ys : List (List α)} {i : Nat} (h : i < xs.length) : (xs ++ ys).getD i [] = xs.getD i [] := by
  rw [List.getD_eq_getElem?_getD, List.getD_eq_getElem?_getD, List.getElem?_append_left h]
theorem getD_right {xs ys : List (List α)} {i : Nat} (h : xs.length ≤ i) : (xs ++ ys).getD i [] = ys.getD (i - xs.length) [] := by
  rw [List.getD_eq_getElem?_getD, List.getD_eq_getElem?_getD, List.getElem?_append_right h]
theorem getD_take {xs : List (List α)} {k i : Nat} (h : i < k) : (xs.take k).getD i [] = xs.getD i [] := by
  rw [List.getD_eq_getElem?_getD, List.getD_eq_getElem?_getD, List.getElem?_take, if_pos h]
theorem getD_drop {xs : List (List α)} {k i : Nat} : (xs.drop k).getD i [] = xs.getD (k + i) [] := by
  rw [List.getD_eq_getElem?_getD, List.getD_eq_getElem?_getD, List.getElem?_drop]

theorem Laid.append {xs ys : List (List α)} (hx : Laid xs) (hy : Laid ys) (hb : 0 < xs.length → 0 < ys.length → 128 < (xs.getD (xs.length - 1) []).length + (ys.getD 0 []).length) : Laid (xs ++ ys) := by
  refine ⟨fun i hi => ?_, fun i hi => ?_⟩
  · rw [List.length_append] at hi
    by_cases h : i < xs.length
    · rw [getD_left h]; exact hx.each i h
    · rw [getD_right (by omega)]; exact hy.each _ (by omega)
  · rw [List.length_append] at hi
    by_cases h : i + 1 < xs.length
    · rw [getD_left h, getD_left (by omega)]; exact hx.side i h
    · by_cases h2 : i + 1 = xs.length
      · rw [getD_left (by omega), getD_right (by omega), h2, Nat.sub_self, show i = xs.length - 1 by omega]
        exact hb (by omega) (by omega)
      · rw [getD_right (by omega), getD_right (by omega), show i + 1 - xs.length = i - xs.length + 1 by omega]
        exact hy.side _ (by omega)

theorem Laid.take {xs : List (List α)} (h : Laid xs) (k : Nat) : Laid (xs.take k) := by
  refine ⟨fun i hi => ?_, fun i hi => ?_⟩
  · rw [List.length_take] at hi
    rw [getD_take (by omega)]; exact h.each i (by omega)
  · rw [List.length_take] at hi
    rw [getD_take (by omega), getD_take (by omega)]; exact h.side i (by omega)

theorem Laid.drop {xs : List (List α)} (h : Laid xs) (k : Nat) : Laid (xs.drop k) := by
  refine ⟨fun i hi => ?_, fun i hi => ?_⟩
  · rw [List.length_drop] at hi
    rw [getD_drop]; exact h.each _ (by omega)
  · rw [List.length_drop] at hi
    rw [getD_drop, getD_drop]; exact h.side (k + i) (by omega)

theorem chunk_len (rs : List α) (i : Nat) : (chunk rs i).length = min 128 (rs.length - 128 * i) := by simp [chunk]
theorem chunks_get (rs : List α) (i : Nat) (h : i < (rs.length + 127) / 128) : (chunks rs).getD i [] = chunk rs i := by
  simp [chunks, List.getD, h]

theorem chunks_laid (rs : List α) : Laid (chunks rs) := by
  refine ⟨fun i hi => ?_, fun i hi => ?_⟩
  · rw [chunks_len] at hi
    rw [chunks_get rs i hi, chunk_len]; omega
  · rw [chunks_len] at hi
    rw [chunks_get rs i (by omega), chunks_get rs (i + 1) hi, chunk_len, chunk_len]; omega

theorem chunks_first (rs : List α) (h : 0 < rs.length) : ((chunks rs).getD 0 []).length = min 128 rs.length := by
  rw [chunks_get rs 0 (by omega), chunk_len]; omega
theorem chunks_last (rs : List α) (h : 0 < rs.length) : ((chunks rs).getD ((rs.length + 127) / 128 - 1) []).length = lastLen rs.length := by
  rw [chunks_get rs _ (by omega), chunk_len]; unfold lastLen; rw [if_neg (by omega)]; omega

theorem lastLen_add (a b : Nat) (h1 : 1 ≤ b) (h : lastLen a + b ≤ 128) : lastLen (a + b) = lastLen a + b := by
  unfold lastLen at h ⊢
  by_cases ha : a = 0
  · rw [if_pos ha] at h ⊢; rw [if_neg (by omega)]; omega
  · rw [if_neg ha] at h ⊢; rw [if_neg (by omega)]; omega

theorem absorbL_laid {bl : List (List α)} (h : Laid bl) (lo : Nat) (rs : List α) (hlo : lo ≤ bl.length) :
    lo ≤ (absorbL bl lo rs).1 + 1 ∧ (0 < (absorbL bl lo rs).1 → 128 < (bl.getD ((absorbL bl lo rs).1 - 1) []).length + (absorbL bl lo rs).2.length) ∧ rs.length ≤ (absorbL bl lo rs).2.length := by
  cases lo with
  | zero => simp [absorbL]
  | succ k =>
    rw [absorbL]
    by_cases c : (bl.getD k []).length + rs.length ≤ 128
    · rw [if_pos c]
      cases k with
      | zero => simp [absorbL]
      | succ j =>
        have hs := h.side j (by omega)
        rw [absorbL, if_neg (by rw [List.length_append]; omega)]
        refine ⟨Nat.le_refl _, fun _ => ?_, by rw [List.length_append]; omega⟩
        show 128 < (bl.getD j []).length + _
        rw [List.length_append]; omega
    · rw [if_neg c]
      exact ⟨by simp, fun _ => by simp; simp at c; omega, Nat.le_refl _⟩

theorem absorbR_laid {bl : List (List α)} (h : Laid bl) (f hi : Nat) (rs : List α) (hf : hi + f = bl.length) :
    (absorbR bl f hi rs).1 ≤ hi + 1 ∧ ((absorbR bl f hi rs).1 < bl.length → 128 < lastLen (absorbR bl f hi rs).2.length + (bl.getD (absorbR bl f hi rs).1 []).length) ∧ rs.length ≤ (absorbR bl f hi rs).2.length := by
  cases f with
  | zero =>
    rw [absorbR]
    exact ⟨by simp, fun h => absurd h (by simp; omega), Nat.le_refl _⟩
  | succ f =>
    rw [absorbR]
    by_cases c : lastLen rs.length + (bl.getD hi []).length ≤ 128
    · rw [if_pos c]
      have he := h.each hi (by omega)
      cases f with
      | zero =>
        rw [absorbR]
        exact ⟨Nat.le_refl _, fun h => absurd h (by simp; omega), by rw [List.length_append]; omega⟩
      | succ g =>
        have hs := h.side hi (by omega)
        have hl := lastLen_add rs.length (bl.getD hi []).length he.1 c
        have hlt : 128 < lastLen (rs ++ bl.getD hi []).length + (bl.getD (hi + 1) []).length := by rw [List.length_append, hl]; omega
        rw [absorbR, if_neg (by omega)]
        exact ⟨Nat.le_refl _, fun _ => hlt, by rw [List.length_append]; omega⟩
    · rw [if_neg c]
      exact ⟨by simp, fun _ => by show 128 < lastLen rs.length + (bl.getD hi []).length; omega, Nat.le_refl _⟩

/-- What law B asks of the blocks behind replace. -/
structure Local (bl : List (List α)) (lo hi : Nat) (R : List (List α)) : Prop where
  laid : Laid R
  len : lo - 1 + (bl.length - hi - 1) ≤ R.length
  pre : ∀ i, i < lo - 1 → R.getD i [] = bl.getD i []
  suf : ∀ j, j < bl.length - hi - 1 → R.getD (R.length - 1 - j) [] = bl.getD (bl.length - 1 - j) []

theorem replaced_local {bl : List (List α)} (h : Laid bl) (lo hi : Nat) (rs : List α) (hlo : lo ≤ hi) (hhi : hi ≤ bl.length) : Local bl lo hi (replaced bl lo hi rs) := by
  have l1 := absorbL_laid h lo rs (by omega)
  have l2 := absorbL_le bl lo rs
  unfold replaced
  generalize absorbL bl lo rs = X at l1 l2 ⊢
  obtain ⟨l, rs1⟩ := X
  have r1 := absorbR_laid h (bl.length - hi) hi rs1 (by omega)
  have r2 := absorbR_le bl (bl.length - hi) hi rs1
  simp only at l1 l2 ⊢
  generalize absorbR bl (bl.length - hi) hi rs1 = Y at r1 r2 ⊢
  obtain ⟨e, rs2⟩ := Y
  simp only at r1 r2 ⊢
  obtain ⟨l1a, l1b, l1c⟩ := l1
  obtain ⟨r1a, r1b, r1c⟩ := r1
  have htl : (bl.take l).length = l := by rw [List.length_take]; omega
  have hdl : (bl.drop e).length = bl.length - e := List.length_drop
  refine ⟨?_, ?_, fun i hi' => ?_, fun j hj => ?_⟩
  · rcases Nat.eq_zero_or_pos rs2.length with h0 | h0
    · have e1 : rs2 = [] := List.eq_nil_of_length_eq_zero h0
      have e2 : l = 0 := by
        rcases Nat.eq_zero_or_pos l with h1 | h1
        · exact h1
        · have := l1b h1
          have := h.each (l - 1) (by omega)
          omega
      have e3 : ¬ e < bl.length := fun h1 => by
        have := r1b h1
        have := h.each e h1
        rw [h0] at *
        unfold lastLen at *
        simp at *
        omega
      rw [e1, e2, chunks_nil, List.drop_of_length_le (by omega)]
      exact ⟨fun i hi => absurd hi (by simp), fun i hi => absurd hi (by simp)⟩
    · have hc := chunks_len rs2
      refine Laid.append (Laid.append (h.take l) (chunks_laid rs2) (fun hl _ => ?_)) (h.drop e) (fun _ hd => ?_)
      · rw [htl] at hl ⊢
        rw [getD_take (by omega), chunks_first rs2 h0]
        have := l1b hl
        have := h.each (l - 1) (by omega)
        omega
      · rw [hdl] at hd
        rw [List.length_append, htl, hc, getD_right (by rw [htl]; omega), htl, show l + (rs2.length + 127) / 128 - 1 - l = (rs2.length + 127) / 128 - 1 by omega, chunks_last rs2 h0, getD_drop, Nat.add_zero]
        exact r1b (by omega)
  · simp only [List.length_append, htl, hdl]
    omega
  · rw [List.append_assoc, getD_left (by rw [htl]; omega), getD_take (by omega)]
  · have hL : (bl.take l ++ chunks rs2 ++ bl.drop e).length = (bl.take l ++ chunks rs2).length + (bl.length - e) := by rw [List.length_append, hdl]
    rw [hL, getD_right (by omega), getD_drop]
    congr 1
    omega

theorem replaced_nothing {bl : List (List α)} (h : Laid bl) (k : Nat) (hk : k ≤ bl.length) : replaced bl k k [] = bl := by
  have hone : ∀ b : List α, 1 ≤ b.length → b.length ≤ 128 → chunks b = [b] := fun b h1 h2 => by
    rw [chunks_cons b h1, List.take_of_length_le h2, List.drop_of_length_le h2, chunks_nil]
  cases k with
  | zero =>
    unfold replaced
    rw [absorbL]
    show bl.take 0 ++ chunks (absorbR bl (bl.length - 0) 0 []).2 ++ bl.drop (absorbR bl (bl.length - 0) 0 []).1 = bl
    cases bl with
    | nil => simp [absorbR, chunks_nil]
    | cons b r =>
      have hb := h.each 0 (by simp)
      simp at hb
      rw [show (b :: r).length - 0 = r.length + 1 by simp, absorbR, if_pos (by simp [lastLen]; omega)]
      have e2 : absorbR (b :: r) r.length (0 + 1) ([] ++ (b :: r).getD 0 []) = (1, b) := by
        cases r with
        | nil => simp [absorbR]
        | cons c r =>
          have hs := h.side 0 (by simp)
          simp at hs
          have hl : lastLen b.length = b.length := by unfold lastLen; rw [if_neg (by omega)]; omega
          rw [List.length_cons, absorbR, if_neg (by simp [hl]; omega)]
          simp
      rw [e2, hone b (by omega) hb.2]
      simp
  | succ k =>
    have he := h.each k (by omega)
    have e1 : absorbL bl (k + 1) [] = (k, bl.getD k []) := by
      rw [absorbL, if_pos (by simp; simpa using he.2)]
      cases k with
      | zero => simp [absorbL]
      | succ j =>
        have hs := h.side j (by omega)
        rw [absorbL, if_neg (by rw [List.append_nil]; omega), List.append_nil]
    have hl : lastLen (bl.getD k []).length = (bl.getD k []).length := by unfold lastLen; rw [if_neg (by omega)]; omega
    have e2 : absorbR bl (bl.length - (k + 1)) (k + 1) (bl.getD k []) = (k + 1, bl.getD k []) := by
      by_cases hn : k + 1 < bl.length
      · have hs := h.side k hn
        rw [show bl.length - (k + 1) = (bl.length - (k + 2)) + 1 by omega, absorbR, hl, if_neg (by omega)]
      · rw [show bl.length - (k + 1) = 0 by omega, absorbR]
    unfold replaced
    rw [e1]
    show bl.take k ++ chunks (absorbR bl (bl.length - (k + 1)) (k + 1) (bl.getD k [])).2 ++ bl.drop (absorbR bl (bl.length - (k + 1)) (k + 1) (bl.getD k [])).1 = bl
    rw [e2, hone _ he.1 he.2]
    have h3 : bl.drop k = bl.getD k [] :: bl.drop (k + 1) := by
      rw [List.drop_eq_getElem_cons (by omega : k < bl.length)]
      simp [List.getD, show k < bl.length by omega]
    show bl.take k ++ [bl.getD k []] ++ bl.drop (k + 1) = bl
    rw [List.append_assoc, List.singleton_append, ← h3, List.take_append_drop]

end
end Go.Proofs.Qxb6600722a
