namespace Go.Proofs.Qxb6600676a

/-! THE PLAIN MATHEMATICS: no Go in sight. -/

/-- The members below k, in order. -/
def posTo (bs : List Bool) (k : Nat) : List Nat := (List.range k).filter fun i => bs.getD i false

/-- How many members lie below k. -/
def cnt (bs : List Bool) (k : Nat) : Nat := (posTo bs k).length

theorem posTo_hit (bs : List Bool) (k : Nat) (h : bs.getD k false = true) : posTo bs (k + 1) = posTo bs k ++ [k] := by
  unfold posTo
  rw [List.range_succ, List.filter_append]
  simp only [List.filter_cons, h, if_true, List.filter_nil]

theorem posTo_miss (bs : List Bool) (k : Nat) (h : bs.getD k false = false) : posTo bs (k + 1) = posTo bs k := by
  unfold posTo
  rw [List.range_succ, List.filter_append]
  simp only [List.filter_cons, h, List.filter_nil, Bool.false_eq_true, if_false, List.append_nil]

theorem cnt_hit (bs : List Bool) (k : Nat) (h : bs.getD k false = true) : cnt bs (k + 1) = cnt bs k + 1 := by
  unfold cnt
  rw [posTo_hit bs k h]
  simp

theorem cnt_miss (bs : List Bool) (k : Nat) (h : bs.getD k false = false) : cnt bs (k + 1) = cnt bs k := by
  unfold cnt
  rw [posTo_miss bs k h]

theorem cnt_le (bs : List Bool) (k : Nat) : cnt bs k ≤ k := by
  have := List.length_filter_le (fun i => bs.getD i false) (List.range k)
  simpa [cnt, posTo] using this

theorem posTo_split (bs : List Bool) (m n : Nat) (h : m ≤ n) : posTo bs n = posTo bs m ++ (List.range' m (n - m)).filter fun i => bs.getD i false := by
  unfold posTo
  rw [← List.filter_append]
  congr 1
  rw [List.range_eq_range', List.range_eq_range', show n = m + (n - m) by omega, ← List.range'_append_1]
  simp

theorem cnt_mono (bs : List Bool) (m n : Nat) (h : m ≤ n) : cnt bs m ≤ cnt bs n := by
  unfold cnt
  rw [posTo_split bs m n h, List.length_append]
  omega

theorem posTo_lt (bs : List Bool) (k i : Nat) (h : i < cnt bs k) : (posTo bs k).getD i 0 < k := by
  have hm : (posTo bs k).getD i 0 ∈ posTo bs k := by
    rw [List.getD_eq_getElem?_getD, List.getElem?_eq_getElem (by exact h), Option.getD_some]
    exact List.getElem_mem _
  have := (List.mem_filter.1 hm).1
  simpa using this

/-- The i-th member, where i members or fewer lie below m, is no smaller than m. -/
theorem posTo_ge (bs : List Bool) (m n i : Nat) (hmn : m ≤ n) (h1 : cnt bs m ≤ i) (h2 : i < cnt bs n) : m ≤ (posTo bs n).getD i 0 := by
  have hs := posTo_split bs m n hmn
  have hlen : cnt bs n = cnt bs m + ((List.range' m (n - m)).filter fun i => bs.getD i false).length := by
    unfold cnt
    rw [hs, List.length_append]
  rw [hs, List.getD_eq_getElem?_getD, List.getElem?_append_right (by exact h1), List.getElem?_eq_getElem (by unfold cnt at *; omega), Option.getD_some]
  have hm := List.getElem_mem (l := (List.range' m (n - m)).filter fun i => bs.getD i false) (n := i - (posTo bs m).length) (by unfold cnt at *; omega)
  have := (List.mem_filter.1 hm).1
  rw [List.mem_range'_1] at this
  exact this.1

theorem posTo_first (bs : List Bool) (m n i : Nat) (hmn : m ≤ n) (h : i < cnt bs m) : (posTo bs n).getD i 0 = (posTo bs m).getD i 0 := by
  rw [posTo_split bs m n hmn, List.getD_eq_getElem?_getD, List.getD_eq_getElem?_getD, List.getElem?_append_left (by exact h)]

/-- Where the search for d ends. -/
def place (bs : List Bool) (n : Nat) (d : Int) : Nat := cnt bs (min n d.toNat)

/-- Is d a member? -/
def member (bs : List Bool) (n : Nat) (d : Int) : Bool := decide (0 ≤ d) && decide (d < n) && bs.getD d.toNat false

theorem place_le (bs : List Bool) (n : Nat) (d : Int) : place bs n d ≤ cnt bs n := cnt_mono _ _ _ (Nat.min_le_left _ _)

theorem has_lt (bs : List Bool) (n : Nat) (d : Int) (i : Nat) (h : i < place bs n d) : ((posTo bs n).getD i 0 : Int) < d := by
  unfold place at h
  rw [posTo_first bs (min n d.toNat) n i (Nat.min_le_left _ _) h]
  have := posTo_lt bs _ i h
  omega

theorem has_ge (bs : List Bool) (n : Nat) (d : Int) (i : Nat) (h1 : place bs n d ≤ i) (h2 : i < cnt bs n) : d ≤ ((posTo bs n).getD i 0 : Int) := by
  unfold place at h1
  have := posTo_ge bs (min n d.toNat) n i (Nat.min_le_left _ _) h1 h2
  by_cases hd : n ≤ d.toNat
  · rw [Nat.min_eq_left hd] at h1
    omega
  · rw [Nat.min_eq_right (by omega)] at this
    omega

theorem has_hit (bs : List Bool) (n : Nat) (d : Int) : (decide (place bs n d < cnt bs n) && (((posTo bs n).getD (place bs n d) 0 : Int) == d)) = member bs n d := by
  by_cases h0 : 0 ≤ d
  · by_cases hn : d < n
    · obtain ⟨t, rfl⟩ := Int.eq_ofNat_of_zero_le h0
      have htn : t < n := by omega
      have hpl : place bs n (t : Int) = cnt bs t := by unfold place; rw [Int.toNat_natCast, Nat.min_eq_right (by omega)]
      have hmem : member bs n (t : Int) = bs.getD t false := by unfold member; simp [htn]
      rw [hpl, hmem]
      cases hb : bs.getD t false with
      | true =>
        have hc := cnt_hit bs t hb
        have hm := cnt_mono bs (t + 1) n (by omega)
        have hv : (posTo bs n).getD (cnt bs t) 0 = t := by
          rw [posTo_first bs (t + 1) n (cnt bs t) (by omega) (by omega), posTo_hit bs t hb, List.getD_eq_getElem?_getD, List.getElem?_append_right (by exact Nat.le_refl _)]
          simp [cnt]
        rw [hv]
        simp
        omega
      | false =>
        have hc := cnt_miss bs t hb
        by_cases hlt : cnt bs t < cnt bs n
        · have := posTo_ge bs (t + 1) n (cnt bs t) (by omega) (by omega) hlt
          have hne : (((posTo bs n).getD (cnt bs t) 0 : Int) == (t : Int)) = false := by rw [beq_eq_false_iff_ne]; omega
          rw [hne, Bool.and_false]
        · simp [hlt]
    · have hpl : place bs n d = cnt bs n := by unfold place; rw [Nat.min_eq_left (by omega)]
      rw [hpl]
      simp [member, hn]
  · have hne : (((posTo bs n).getD (place bs n d) 0 : Int) == d) = false := by rw [beq_eq_false_iff_ne]; omega
    rw [hne, Bool.and_false]
    simp [member, h0]

/-! ### The set of bits -/

def wordsTo (bs : List Bool) (m : Nat) : Nat → List Nat
  | 0 => List.replicate m 0
  | k + 1 => if bs.getD k false = true then (wordsTo bs m k).set (k / 64) ((wordsTo bs m k).getD (k / 64) 0 ||| 2 ^ (k % 64)) else wordsTo bs m k

theorem wordsTo_length (bs : List Bool) (m k : Nat) : (wordsTo bs m k).length = m := by
  induction k with
  | zero => simp [wordsTo]
  | succ k ih =>
    unfold wordsTo
    split
    · rw [List.length_set, ih]
    · exact ih

theorem wordsTo_lt (bs : List Bool) (m k j : Nat) : (wordsTo bs m k).getD j 0 < 2 ^ 64 := by
  induction k generalizing j with
  | zero =>
    unfold wordsTo
    rw [List.getD_eq_getElem?_getD, List.getElem?_replicate]
    split <;> simp
  | succ k ih =>
    unfold wordsTo
    split
    · rw [List.getD_eq_getElem?_getD, List.getElem?_set]
      split
      · split
        · exact Nat.or_lt_two_pow (ih _) (Nat.pow_lt_pow_right (by omega) (Nat.mod_lt _ (by omega)))
        · simp
      · rw [← List.getD_eq_getElem?_getD]
        exact ih j
    · exact ih j

theorem wordsTo_bit (bs : List Bool) (m k j t : Nat) (hj : j < m) (ht : t < 64) : ((wordsTo bs m k).getD j 0).testBit t = (decide (64 * j + t < k) && bs.getD (64 * j + t) false) := by
  induction k with
  | zero =>
    unfold wordsTo
    rw [List.getD_eq_getElem?_getD, List.getElem?_replicate, if_pos hj]
    simp
  | succ k ih =>
    unfold wordsTo
    split
    · rename_i hb
      rw [List.getD_eq_getElem?_getD, List.getElem?_set]
      split
      · rename_i hjk
        rw [if_pos (by rw [wordsTo_length]; omega), Option.getD_some, hjk, Nat.testBit_or, ih, Nat.testBit_two_pow]
        by_cases e : k % 64 = t
        · have hk : 64 * j + t = k := by omega
          rw [hk]
          simp only [e, decide_true, Bool.or_true, hb, Bool.and_true]
          simp
        · have hk : ¬ 64 * j + t = k := by omega
          have : (64 * j + t < k) ↔ (64 * j + t < k + 1) := by omega
          simp only [e, decide_false, Bool.or_false, this]
      · rename_i hjk
        rw [← List.getD_eq_getElem?_getD, ih]
        have : (64 * j + t < k) ↔ (64 * j + t < k + 1) := by omega
        simp only [this]
    · rename_i hb
      rw [ih]
      by_cases hk : 64 * j + t = k
      · rw [hk]
        have : bs.getD k false = false := by simpa using hb
        rw [this]
        simp
      · have : (64 * j + t < k) ↔ (64 * j + t < k + 1) := by omega
        simp only [this]

/-- The bit of d, asked for as Go asks. -/
theorem word_hit (bs : List Bool) (m n d : Nat) (hm : d / 64 < m) : ((wordsTo bs m n).getD (d / 64) 0 &&& 2 ^ (d % 64) != 0) = member bs n d := by
  have hbit := wordsTo_bit bs m n (d / 64) (d % 64) hm (Nat.mod_lt _ (by omega))
  rw [show 64 * (d / 64) + d % 64 = d by omega] at hbit
  have hmem : member bs n (d : Int) = (decide (d < n) && bs.getD d false) := by unfold member; simp
  rw [hmem, ← hbit]
  generalize (wordsTo bs m n).getD (d / 64) 0 = x
  generalize d % 64 = i
  cases hx : x.testBit i with
  | true =>
    rw [bne_iff_ne]
    intro h0
    have h1 : (x &&& 2 ^ i).testBit i = true := by rw [Nat.testBit_and, hx]; simp
    rw [h0] at h1
    simp at h1
  | false =>
    have h0 : x &&& 2 ^ i = 0 := by
      apply Nat.eq_of_testBit_eq
      intro j
      rw [Nat.testBit_and, Nat.testBit_two_pow, Nat.zero_testBit]
      by_cases e : i = j
      · rw [← e, hx]; simp
      · simp [e]
    rw [h0]
    simp

end Go.Proofs.Qxb6600676a
