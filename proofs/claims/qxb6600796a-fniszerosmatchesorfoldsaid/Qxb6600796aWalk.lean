import Derived.Test.Qxb6600796aClone
namespace Go.Proofs.Qxb6600796a
open Go.RowKit
set_option linter.unusedVariables false

/-- Are the first k of them zero? -/
def zerosTo (bs : List Int) : Nat → Bool
  | 0 => true
  | k + 1 => zerosTo bs k && bs.getD k 0 == 0

theorem or_zero (a b : Int) (ha0 : 0 ≤ a) (ha : a ≤ 255) (hb0 : 0 ≤ b) (hb : b ≤ 255) : 0 ≤ bits .or .u8 a b ∧ bits .or .u8 a b ≤ 255 ∧ (bits .or .u8 a b = 0 ↔ a = 0 ∧ b = 0) := by
  obtain ⟨n, rfl⟩ := Int.eq_ofNat_of_zero_le ha0
  obtain ⟨m, rfl⟩ := Int.eq_ofNat_of_zero_le hb0
  have hn : n < 2 ^ 8 := by omega
  have hm : m < 2 ^ 8 := by omega
  rw [(bits_nat .u8 8 (by decide) wraps_u8 n m hn hm).2]
  have h1 := Nat.or_lt_two_pow hn hm
  have h2 : n ||| m = 0 ↔ n = 0 ∧ m = 0 := Nat.or_eq_zero_iff
  refine ⟨by omega, by omega, ?_⟩
  constructor
  · intro h
    have := h2.1 (by omega)
    omega
  · rintro ⟨h, k⟩
    have := h2.2 ⟨by omega, by omega⟩
    omega

theorem zerosTo_false {bs : List Int} {k n : Nat} (h : zerosTo bs k = false) (hk : k ≤ n) : zerosTo bs n = false := by
  induction n with
  | zero => obtain rfl : k = 0 := by omega
            exact h
  | succ n ih =>
    by_cases e : k = n + 1
    · rw [← e]; exact h
    · rw [zerosTo, ih (by omega)]; rfl

set_option maxHeartbeats 400000 in
theorem isZeros_any (a : Option Addr) (len cap : Nat) (bs : List Int) (w : World) (hs : len ≤ 1048576) (hr : RowV w a len (fun j => .int .u8 (bs.getD j 0))) :
    Calls Try.prog 9 #[.slice a len cap] w fun e w' => e = .returned (.bool (zerosTo bs len)) ∧ w' = w := by
  have HR := hide hr
  clear hr
  go_enter Try.func9, Try.ntmps9
  go_wp2
  go_loop [7] (fun i => ∃ k : Nat, k ≤ len ∧ i = .int .i64 k ∧ zerosTo bs k = true) (fun i => len - (intOf i).toNat)
  case atStart => exact ⟨0, Nat.zero_le _, rfl, rfl⟩
  case round =>
    obtain ⟨k, hk, rfl, hz⟩ := hrel
    have HZ := hide hz
    clear hz
    by_cases hlt : k < len
    · obtain ⟨b, off, hx, hb, hc⟩ := unhide HR (by omega)
      have c0 : w.cell? ⟨b, off + k, none⟩ = some (.int .u8 (bs.getD k 0)) := hc k hlt
      clear hc
      obtain rfl := hx
      by_cases h0 : bs.getD k 0 = 0
      · have HZ1 : Hid (zerosTo bs (k + 1) = true) := by unfold Hid; rw [zerosTo, unhide HZ, h0]; rfl
        rw [h0] at c0
        clear h0
        go_wp2
        go_round
        case rel => exact ⟨k + 1, by omega, by go_num, unhide HZ1⟩
        case measure => simp [intOf]; omega
      · have hne : (bs.getD k 0 == 0) = false := by simpa using h0
        have HE : Hid (zerosTo bs len = false) := zerosTo_false (k := k + 1) (by rw [zerosTo, hne]; simp) (by omega)
        generalize bs.getD k 0 = y at c0 h0 hne
        go_wp2
        go_ret
        exact ⟨by rw [unhide HE]; rfl, rfl⟩
    · obtain rfl : k = len := by omega
      go_wp2
      go_ret
      exact ⟨by rw [unhide HZ]; rfl, rfl⟩

set_option maxHeartbeats 400000 in
theorem zz_any (a : Option Addr) (len cap : Nat) (bs : List Int) (w : World) (hs : len ≤ 1048576) (hr : RowV w a len (fun j => .int .u8 (bs.getD j 0))) :
    Calls Try.prog 7 #[.slice a len cap] w fun e w' => e = .returned (.bool (zerosTo bs len)) ∧ w' = w := by
  have C := hide (isZeros_any a len cap bs w hs hr)
  clear hr
  go_enter Try.func7, Try.ntmps7
  go_wp2_with fail
  refine (unhide C).mono ?_
  rintro e w1 ⟨rfl, rfl⟩
  go_wp2
  go_ret
  exact ⟨rfl, rfl⟩

set_option maxHeartbeats 400000 in
theorem bytes_any (a : Option Addr) (len cap : Nat) (w : World) (hm : len ≤ 9223372036854775807) :
    Calls Try.prog 5 #[.slice a len cap] w fun e w' => e = .returned (.bool (decide (len ≤ 1048576))) ∧ w' = w := by
  by_cases h : len ≤ 1048576
  · go_enter Try.func5, Try.ntmps5
    go_wp2
    go_ret
    exact ⟨by simp [h], rfl⟩
  · go_enter Try.func5, Try.ntmps5
    go_wp2
    go_ret
    exact ⟨by simp [h], rfl⟩

set_option maxHeartbeats 800000 in
theorem law_any (a : Option Addr) (len cap : Nat) (bs : List Int) (w : World) (hl : bs.length = len) (hm : len ≤ 9223372036854775807) (hn : a = none → len = 0)
    (hr : RowV w a len (fun j => .int .u8 (bs.getD j 0))) (hbs : ∀ j, 0 ≤ bs.getD j 0 ∧ bs.getD j 0 ≤ 255) :
    Calls Try.prog 3 #[.slice a len cap] w fun e w' => e = .returned (.bool true) ∧ Below w.heap.size w w' := by
  have C5 := hide (bytes_any a len cap w hm)
  by_cases hs : len ≤ 1048576
  · have C6 := hide (cloneSteps_any a len cap bs w hl hs hn hr)
    have HBS := hide hbs
    have HLL := hide hl
    clear hr hn hbs hl
    go_enter Try.func3, Try.ntmps3
    go_wp2_with fail
    refine (unhide C5).mono ?_
    rintro e w1 ⟨rfl, hw⟩
    obtain rfl : w = w1 := hw.symm
    clear C5 hw
    rw [show decide (len ≤ 1048576) = true by simpa using hs]
    go_wp2_with fail
    refine (unhide C6).mono ?_
    rintro e w1 ⟨v, rfl, hown, hbel⟩
    obtain ⟨a1, c1, rfl, hn1, hr1⟩ := RowV.of_owns hown
    have hr2 : RowV w1 a1 len (fun j => .int .u8 (bs.getD j 0)) := by
      intro h0
      obtain ⟨b, off, ha, hlt, hc⟩ := hr1 h0
      refine ⟨b, off, ha, hlt, fun j hj => ?_⟩
      rw [hc j hj]
      have := unhide HLL
      simp [List.getD, show j < bs.length by omega]
    have C7 := hide (zz_any a1 len c1 bs w1 hs hr2)
    have HR := hide hr2
    have HB := hide hbel
    clear hown hr1 hr2 C6 hbel hn1
    go_wp2
    go_loop [3, 4] (fun acc i => ∃ (k : Nat) (y : Int), k ≤ len ∧ i = .int .i64 k ∧ acc = .int .u8 y ∧ 0 ≤ y ∧ y ≤ 255 ∧ (zerosTo bs k = decide (y = 0))) (fun _ i => len - (intOf i).toNat)
    case atStart => exact ⟨0, 0, Nat.zero_le _, rfl, rfl, by omega, by omega, rfl⟩
    case round =>
      obtain ⟨k, y, hk, rfl, rfl, hy0, hy1, hz⟩ := hrel
      have HZ := hide hz
      clear hz
      by_cases hlt : k < len
      · obtain ⟨b, off, hx, hb, hc⟩ := unhide HR (by omega)
        have c0 : w1.cell? ⟨b, off + k, none⟩ = some (.int .u8 (bs.getD k 0)) := hc k hlt
        have hbk := unhide HBS k
        have ho := or_zero y (bs.getD k 0) hy0 hy1 hbk.1 hbk.2
        have hz1 : zerosTo bs (k + 1) = decide (bits .or .u8 y (bs.getD k 0) = 0) := by
          rw [zerosTo, unhide HZ]
          by_cases h1 : y = 0
          · by_cases h2 : bs.getD k 0 = 0
            · rw [decide_eq_true h1, decide_eq_true (ho.2.2.2 ⟨h1, h2⟩), h2]; rfl
            · have h3 : ¬ bits .or .u8 y (bs.getD k 0) = 0 := fun h => h2 (ho.2.2.1 h).2
              rw [decide_eq_true h1, decide_eq_false h3]; simpa using h2
          · have h3 : ¬ bits .or .u8 y (bs.getD k 0) = 0 := fun h => h1 (ho.2.2.1 h).1
            rw [decide_eq_false h1, decide_eq_false h3]; rfl
        have HO := hide (And.intro ho.1 (And.intro ho.2.1 hz1))
        clear hc ho hz1
        obtain rfl := hx
        generalize bs.getD k 0 = x at c0 hbk HO
        go_wp2
        go_round
        case rel => exact ⟨k + 1, _, by omega, by go_num, rfl, (unhide HO).1, (unhide HO).2.1, (unhide HO).2.2⟩
        case measure => simp [intOf]; omega
      · obtain rfl : k = len := by omega
        by_cases h0 : y = 0
        · subst h0
          go_wp2_with fail
          refine (unhide C7).mono ?_
          rintro e w2 ⟨rfl, hw⟩
          obtain rfl : w1 = w2 := hw.symm
          rw [show zerosTo bs k = true by rw [unhide HZ]; rfl]
          clear C7 HZ hw
          go_wp2
          go_ret
          exact ⟨rfl, unhide HB⟩
        · go_wp2_with fail
          refine (unhide C7).mono ?_
          rintro e w2 ⟨rfl, hw⟩
          obtain rfl : w1 = w2 := hw.symm
          rw [show zerosTo bs k = false by rw [unhide HZ]; simpa using h0]
          clear C7 HZ hw
          go_wp2
          go_ret
          exact ⟨by show Ending.returned (Value.bool (!(y == 0))) = _; rw [show (y == 0) = false by simpa using h0]; rfl, unhide HB⟩
  · clear hr hn hbs hl
    go_enter Try.func3, Try.ntmps3
    go_wp2_with fail
    refine (unhide C5).mono ?_
    rintro e w1 ⟨rfl, hw⟩
    obtain rfl : w = w1 := hw.symm
    clear C5 hw
    rw [show decide (len ≤ 1048576) = false by simpa using hs]
    go_wp2
    go_ret
    exact ⟨rfl, Below.refl _ _⟩
end Go.Proofs.Qxb6600796a
