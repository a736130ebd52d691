namespace Go.Proofs.Qxb6600722a

/-! THE PLAIN MATHEMATICS of (*Knowledge).replace: no Go in sight. -/

section
variable {α : Type}

/-- How many ranges the last of the blocks that hold k ranges holds. -/
def lastLen (k : Nat) : Nat := if k = 0 then 0 else (k - 1) % 128 + 1

/-- The first loop: blocks before lo go into the new ranges where they fit. -/
def absorbL (bl : List (List α)) : Nat → List α → Nat × List α
  | 0, rs => (0, rs)
  | lo + 1, rs => if (bl.getD lo []).length + rs.length ≤ 128 then absorbL bl lo (bl.getD lo [] ++ rs) else (lo + 1, rs)

/-- The second loop: blocks from hi on; f of them are left. -/
def absorbR (bl : List (List α)) : Nat → Nat → List α → Nat × List α
  | 0, hi, rs => (hi, rs)
  | f + 1, hi, rs => if lastLen rs.length + (bl.getD hi []).length ≤ 128 then absorbR bl f (hi + 1) (rs ++ bl.getD hi []) else (hi, rs)

/-- Block i of the blocks that hold rs, each full but the last. -/
def chunk (rs : List α) (i : Nat) : List α := (rs.drop (128 * i)).take 128
def chunks (rs : List α) : List (List α) := (List.range ((rs.length + 127) / 128)).map (chunk rs)

/-- The blocks behind replace. -/
def replaced (bl : List (List α)) (lo hi : Nat) (rs : List α) : List (List α) :=
  bl.take (absorbL bl lo rs).1 ++ chunks (absorbR bl (bl.length - hi) hi (absorbL bl lo rs).2).2 ++ bl.drop (absorbR bl (bl.length - hi) hi (absorbL bl lo rs).2).1

theorem absorbL_le (bl : List (List α)) : ∀ (lo : Nat) (rs : List α), (absorbL bl lo rs).1 ≤ lo
  | 0, rs => by simp [absorbL]
  | lo + 1, rs => by
    unfold absorbL
    split
    · have := absorbL_le bl lo (bl.getD lo [] ++ rs); omega
    · exact Nat.le_refl _

theorem absorbR_le (bl : List (List α)) : ∀ (f hi : Nat) (rs : List α), hi ≤ (absorbR bl f hi rs).1 ∧ (absorbR bl f hi rs).1 ≤ hi + f
  | 0, hi, rs => by simp [absorbR]
  | f + 1, hi, rs => by
    unfold absorbR
    split
    · have := absorbR_le bl f (hi + 1) (rs ++ bl.getD hi []); omega
    · simp

theorem take_succ_flat (bl : List (List α)) (k : Nat) (h : k < bl.length) : (bl.take (k + 1)).flatten = (bl.take k).flatten ++ bl.getD k [] := by
  rw [List.take_succ_eq_append_getElem h, List.flatten_append]
  simp [List.getD, h]

theorem drop_flat (bl : List (List α)) (k : Nat) (h : k < bl.length) : (bl.drop k).flatten = bl.getD k [] ++ (bl.drop (k + 1)).flatten := by
  rw [List.drop_eq_getElem_cons h, List.flatten_cons]
  simp [List.getD, h]

theorem absorbL_flat (bl : List (List α)) : ∀ (lo : Nat) (rs : List α), lo ≤ bl.length → (bl.take (absorbL bl lo rs).1).flatten ++ (absorbL bl lo rs).2 = (bl.take lo).flatten ++ rs
  | 0, rs, _ => by simp [absorbL]
  | lo + 1, rs, h => by
    unfold absorbL
    split
    · rw [absorbL_flat bl lo _ (by omega), take_succ_flat bl lo (by omega), List.append_assoc]
    · rfl

theorem absorbR_flat (bl : List (List α)) : ∀ (f hi : Nat) (rs : List α), hi + f = bl.length → (absorbR bl f hi rs).2 ++ (bl.drop (absorbR bl f hi rs).1).flatten = rs ++ (bl.drop hi).flatten
  | 0, hi, rs, _ => by simp [absorbR]
  | f + 1, hi, rs, h => by
    unfold absorbR
    split
    · rw [absorbR_flat bl f (hi + 1) _ (by omega), drop_flat bl hi (by omega), List.append_assoc]
    · rfl

theorem chunks_len (rs : List α) : (chunks rs).length = (rs.length + 127) / 128 := by simp [chunks]

theorem chunks_nil : chunks ([] : List α) = [] := by simp [chunks]

theorem chunks_cons (rs : List α) (h : 0 < rs.length) : chunks rs = rs.take 128 :: chunks (rs.drop 128) := by
  unfold chunks
  have e : (rs.length + 127) / 128 = ((rs.drop 128).length + 127) / 128 + 1 := by rw [List.length_drop]; omega
  rw [e, List.range_succ_eq_map, List.map_cons, List.map_map]
  congr 1
  apply List.map_congr_left
  intro i _
  simp only [Function.comp, chunk, List.drop_drop]
  congr 2
  omega

theorem chunks_flat : ∀ (n : Nat) (rs : List α), rs.length ≤ n → (chunks rs).flatten = rs
  | 0, rs, h => by
    obtain rfl : rs = [] := List.eq_nil_of_length_eq_zero (by omega)
    simp [chunks_nil]
  | n + 1, rs, h => by
    by_cases h0 : 0 < rs.length
    · rw [chunks_cons rs h0, List.flatten_cons, chunks_flat n _ (by rw [List.length_drop]; omega), List.take_append_drop]
    · obtain rfl : rs = [] := List.eq_nil_of_length_eq_zero (by omega)
      simp [chunks_nil]

/-- LAW: the ranges stay in order. -/
theorem replaced_flat (bl : List (List α)) (lo hi : Nat) (rs : List α) (hlo : lo ≤ bl.length) (hhi : hi ≤ bl.length) :
    (replaced bl lo hi rs).flatten = (bl.take lo).flatten ++ rs ++ (bl.drop hi).flatten := by
  unfold replaced
  rw [List.flatten_append, List.flatten_append, chunks_flat _ _ (Nat.le_refl _), List.append_assoc, absorbR_flat bl _ _ _ (by omega), ← List.append_assoc, absorbL_flat bl lo rs hlo]

end
end Go.Proofs.Qxb6600722a
