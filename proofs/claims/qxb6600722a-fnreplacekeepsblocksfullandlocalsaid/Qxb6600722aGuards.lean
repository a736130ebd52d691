import Derived.Test.Qxb6600722aBRanges
namespace Go.Proofs.Qxb6600722a
open Go.RowKit
set_option linter.unusedVariables false

def BPost (w : World) (p : Prop) (e : Ending) (w' : World) : Prop := ∃ b : Bool, e = .returned (.bool b) ∧ w' = w ∧ (b = true → p)

def SmallP (n nr : Nat) (L : Nat → Nat) : Prop := n ≤ 65536 ∧ nr ≤ 131072 ∧ 24 * n + 8 * nr + 8 * sumTo L n ≤ 1048576
/-- The blocks lie as a Knowledge lays them. -/
def LaidP (n : Nat) (M : Nat → Nat) : Prop := (∀ i, i < n → 1 ≤ M i ∧ M i ≤ 128) ∧ ∀ i, i + 1 < n → 128 < M i + M (i + 1)

section
variable (a : Option Addr) (n cap : Nat) (A : Nat → Option Addr) (L C : Nat → Nat) (w : World)
variable (lo hi : Int) (ra : Option Addr) (nr rc : Nat)

set_option maxHeartbeats 1000000 in
theorem bytes6 (hr : RowV w a n (fun i => .slice (A i) (L i) (C i))) (hn : n ≤ 9223372036854775807) (hL : ∀ i, i < n → L i ≤ 9223372036854775807) (hnr : nr ≤ 9223372036854775807) : Calls Try.prog 6 #[.slice a n cap, .int .i64 lo, .int .i64 hi, .slice ra nr rc] w (BPost w True) := by
  have HR := hide hr
  have HL := hide hL
  clear hr hL
  by_cases h0 : n ≤ 1048576
  · go_enter Try.func6, Try.ntmps6
    go_wp2
    go_loop [9, 10] (fun z i => ∃ (k : Nat) (y : Int), k ≤ n ∧ i = .int .i64 k ∧ z = .int .i64 y ∧ 0 ≤ y ∧ y ≤ 1048576) (fun _ i => n - (intOf i).toNat)
    case atStart => exact ⟨0, _, Nat.zero_le _, rfl, rfl, by omega, by omega⟩
    case round =>
      obtain ⟨k, y, hk, rfl, rfl, hy0, hy1⟩ := hrel
      by_cases hlt : k < n
      · obtain ⟨b, off, hx, hb, hc⟩ := unhide HR (by omega)
        have c0 : w.cell? ⟨b, off + k, none⟩ = some (.slice (A k) (L k) (C k)) := hc k hlt
        have hLk := unhide HL k hlt
        clear hc HR HL
        obtain rfl := hx
        by_cases h1 : L k ≤ 1048576
        · by_cases h2 : y + (L k : Int) ≤ 1048576
          · go_wp2
            go_round
            case rel => exact ⟨k + 1, _, by omega, by go_num, rfl, by omega, by omega⟩
            case measure => simp [intOf]; omega
          · go_wp2
            go_ret
            exact ⟨false, rfl, rfl, fun h => by cases h⟩
        · go_wp2
          go_ret
          exact ⟨false, rfl, rfl, fun h => by cases h⟩
      · by_cases h1 : nr ≤ 1048576
        · by_cases h2 : y + (nr : Int) ≤ 1048576
          · go_wp2
            go_ret
            exact ⟨true, rfl, rfl, fun _ => trivial⟩
          · go_wp2
            go_ret
            exact ⟨false, rfl, rfl, fun h => by cases h⟩
        · go_wp2
          go_ret
          exact ⟨false, rfl, rfl, fun h => by cases h⟩
  · go_enter Try.func6, Try.ntmps6
    go_wp2
    go_ret
    exact ⟨false, rfl, rfl, fun h => by cases h⟩

set_option maxHeartbeats 1000000 in
theorem small7 (hr : RowV w a n (fun i => .slice (A i) (L i) (C i))) (hn : n ≤ 9223372036854775807) (hL : ∀ i, i < n → L i ≤ 9223372036854775807) (hnr : nr ≤ 9223372036854775807) : Calls Try.prog 7 #[.slice a n cap, .slice ra nr rc] w (BPost w (SmallP n nr L)) := by
  have HR := hide hr
  have HL := hide hL
  clear hr hL
  by_cases h0 : n ≤ 65536
  · by_cases h1 : nr ≤ 131072
    · go_enter Try.func7, Try.ntmps7
      go_wp2
      go_loop [5, 6] (fun z i => ∃ (k : Nat), k ≤ n ∧ i = .int .i64 k ∧ z = .int .i64 (24 * (n : Int) + 8 * (nr : Int) + 8 * (sumTo L k : Int)) ∧ 8 * sumTo L k ≤ 1048576) (fun _ i => n - (intOf i).toNat)
      case atStart => exact ⟨0, Nat.zero_le _, rfl, by simp [sumTo], by simp [sumTo]⟩
      case round =>
        obtain ⟨k, hk, rfl, rfl, hy1⟩ := hrel
        by_cases hlt : k < n
        · obtain ⟨b, off, hx, hb, hc⟩ := unhide HR (by omega)
          have c0 : w.cell? ⟨b, off + k, none⟩ = some (.slice (A k) (L k) (C k)) := hc k hlt
          have hLk := unhide HL k hlt
          have hsum : Hid (sumTo L (k + 1) = sumTo L k + L k) := rfl
          clear hc HR HL
          obtain rfl := hx
          by_cases h2 : L k ≤ 131072
          · by_cases h3 : 24 * (n : Int) + 8 * (nr : Int) + 8 * (sumTo L k : Int) + 8 * (L k : Int) ≤ 1048576
            · go_wp2
              go_round
              case rel => exact ⟨k + 1, by omega, by go_num, by rw [unhide hsum]; go_num, by rw [unhide hsum]; omega⟩
              case measure => simp [intOf]; omega
            · go_wp2
              go_ret
              exact ⟨false, rfl, rfl, fun h => by cases h⟩
          · go_wp2
            go_ret
            exact ⟨false, rfl, rfl, fun h => by cases h⟩
        · obtain rfl : k = n := by omega
          by_cases h2 : 24 * (k : Int) + 8 * (nr : Int) + 8 * (sumTo L k : Int) ≤ 1048576
          · go_wp2
            go_ret
            exact ⟨true, by simp, rfl, fun _ => ⟨h0, h1, by omega⟩⟩
          · have h3 : decide (24 * (k : Int) + 8 * (nr : Int) + 8 * (sumTo L k : Int) ≤ 1048576) = false := by simp; omega
            go_wp2
            go_ret
            exact ⟨false, by simp, rfl, fun h => by cases h⟩
    · go_enter Try.func7, Try.ntmps7
      go_wp2
      go_ret
      exact ⟨false, rfl, rfl, fun h => by cases h⟩
  · go_enter Try.func7, Try.ntmps7
    go_wp2
    go_ret
    exact ⟨false, rfl, rfl, fun h => by cases h⟩
set_option maxHeartbeats 1000000 in
theorem bytes16 (hr : RowV w a n (fun i => .slice (A i) (L i) (C i))) (hn : n ≤ 9223372036854775807) (hL : ∀ i, i < n → L i ≤ 9223372036854775807) (hnr : nr ≤ 9223372036854775807) : Calls Try.prog 16 #[.slice a n cap, .int .i64 lo, .int .i64 hi, .slice ra nr rc] w (BPost w True) := by
  have HR := hide hr
  have HL := hide hL
  clear hr hL
  by_cases h0 : n ≤ 1048576
  · go_enter Try.func16, Try.ntmps16
    go_wp2
    go_loop [9, 10] (fun z i => ∃ (k : Nat) (y : Int), k ≤ n ∧ i = .int .i64 k ∧ z = .int .i64 y ∧ 0 ≤ y ∧ y ≤ 1048576) (fun _ i => n - (intOf i).toNat)
    case atStart => exact ⟨0, _, Nat.zero_le _, rfl, rfl, by omega, by omega⟩
    case round =>
      obtain ⟨k, y, hk, rfl, rfl, hy0, hy1⟩ := hrel
      by_cases hlt : k < n
      · obtain ⟨b, off, hx, hb, hc⟩ := unhide HR (by omega)
        have c0 : w.cell? ⟨b, off + k, none⟩ = some (.slice (A k) (L k) (C k)) := hc k hlt
        have hLk := unhide HL k hlt
        clear hc HR HL
        obtain rfl := hx
        by_cases h1 : L k ≤ 1048576
        · by_cases h2 : y + (L k : Int) ≤ 1048576
          · go_wp2
            go_round
            case rel => exact ⟨k + 1, _, by omega, by go_num, rfl, by omega, by omega⟩
            case measure => simp [intOf]; omega
          · go_wp2
            go_ret
            exact ⟨false, rfl, rfl, fun h => by cases h⟩
        · go_wp2
          go_ret
          exact ⟨false, rfl, rfl, fun h => by cases h⟩
      · by_cases h1 : nr ≤ 1048576
        · by_cases h2 : y + (nr : Int) ≤ 1048576
          · go_wp2
            go_ret
            exact ⟨true, rfl, rfl, fun _ => trivial⟩
          · go_wp2
            go_ret
            exact ⟨false, rfl, rfl, fun h => by cases h⟩
        · go_wp2
          go_ret
          exact ⟨false, rfl, rfl, fun h => by cases h⟩
  · go_enter Try.func16, Try.ntmps16
    go_wp2
    go_ret
    exact ⟨false, rfl, rfl, fun h => by cases h⟩

set_option maxHeartbeats 1000000 in
theorem bytes19 (hr : RowV w a n (fun i => .slice (A i) (L i) (C i))) (hn : n ≤ 9223372036854775807) (hL : ∀ i, i < n → L i ≤ 9223372036854775807) : Calls Try.prog 19 #[.slice a n cap, .int .i64 lo] w (BPost w True) := by
  have HR := hide hr
  have HL := hide hL
  clear hr hL
  by_cases h0 : n ≤ 1048576
  · go_enter Try.func19, Try.ntmps19
    go_wp2
    go_loop [5, 6] (fun z i => ∃ (k : Nat) (y : Int), k ≤ n ∧ i = .int .i64 k ∧ z = .int .i64 y ∧ 0 ≤ y ∧ y ≤ 1048576) (fun _ i => n - (intOf i).toNat)
    case atStart => exact ⟨0, _, Nat.zero_le _, rfl, rfl, by omega, by omega⟩
    case round =>
      obtain ⟨k, y, hk, rfl, rfl, hy0, hy1⟩ := hrel
      by_cases hlt : k < n
      · obtain ⟨b, off, hx, hb, hc⟩ := unhide HR (by omega)
        have c0 : w.cell? ⟨b, off + k, none⟩ = some (.slice (A k) (L k) (C k)) := hc k hlt
        have hLk := unhide HL k hlt
        clear hc HR HL
        obtain rfl := hx
        by_cases h1 : L k ≤ 1048576
        · by_cases h2 : y + (L k : Int) ≤ 1048576
          · go_wp2
            go_round
            case rel => exact ⟨k + 1, _, by omega, by go_num, rfl, by omega, by omega⟩
            case measure => simp [intOf]; omega
          · go_wp2
            go_ret
            exact ⟨false, rfl, rfl, fun h => by cases h⟩
        · go_wp2
          go_ret
          exact ⟨false, rfl, rfl, fun h => by cases h⟩
      · go_wp2
        go_ret
        exact ⟨true, rfl, rfl, fun _ => trivial⟩
  · go_enter Try.func19, Try.ntmps19
    go_wp2
    go_ret
    exact ⟨false, rfl, rfl, fun h => by cases h⟩

set_option maxHeartbeats 1000000 in
theorem triples8 (hr : RowV w a n (fun i => .slice (A i) (L i) (C i))) (hn : n ≤ 1048576) (hL : ∀ i, i < n → L i ≤ 1048576) (hnr : nr ≤ 1048576) : Calls Try.prog 8 #[.slice a n cap, .slice ra nr rc] w (BPost w True) := by
  have HR := hide hr
  have HL := hide hL
  clear hr hL
  by_cases h0 : ((nr : Int) % 3 != 0) = true
  · go_enter Try.func8, Try.ntmps8
    go_wp2
    go_ret
    exact ⟨false, rfl, rfl, fun h => by cases h⟩
  · have h0' : ((nr : Int) % 3 != 0) = false := by simpa using h0
    clear h0
    go_enter Try.func8, Try.ntmps8
    go_wp2
    go_loop [5] (fun i => ∃ (k : Nat), k ≤ n ∧ i = .int .i64 k) (fun i => n - (intOf i).toNat)
    case atStart => exact ⟨0, Nat.zero_le _, rfl⟩
    case round =>
      obtain ⟨k, hk, rfl⟩ := hrel
      by_cases hlt : k < n
      · obtain ⟨b, off, hx, hb, hc⟩ := unhide HR (by omega)
        have c0 : w.cell? ⟨b, off + k, none⟩ = some (.slice (A k) (L k) (C k)) := hc k hlt
        have hLk := unhide HL k hlt
        clear hc HR HL
        obtain rfl := hx
        by_cases h1 : ((L k : Int) % 3 != 0) = true
        · go_wp2
          go_ret
          exact ⟨false, rfl, rfl, fun h => by cases h⟩
        · have h1' : ((L k : Int) % 3 != 0) = false := by simpa using h1
          clear h1
          go_wp2
          go_round
          case rel => exact ⟨k + 1, by omega, by go_num⟩
          case measure => simp [intOf]; omega
      · go_wp2
        go_ret
        exact ⟨true, rfl, rfl, fun _ => trivial⟩

set_option maxHeartbeats 1000000 in
theorem laid17 (hr : RowV w a n (fun i => .slice (A i) (L i) (C i))) (hn : n ≤ 1048576) (hL : ∀ i, i < n → L i ≤ 1048576) : Calls Try.prog 17 #[.slice a n cap] w (BPost w (LaidP n (fun i => L i / 3))) := by
  have HR := hide hr
  have HL := hide hL
  clear hr hL
  go_enter Try.func17, Try.ntmps17
  go_wp2
  go_loop [3] (fun i => ∃ (k : Nat), k ≤ n ∧ i = .int .i64 k ∧ LaidP k (fun i => L i / 3)) (fun i => n - (intOf i).toNat)
  case atStart => exact ⟨0, Nat.zero_le _, rfl, fun i hi => absurd hi (by omega), fun i hi => absurd hi (by omega)⟩
  case round =>
    obtain ⟨k, hk, rfl, hlaid⟩ := hrel
    by_cases hlt : k < n
    · obtain ⟨b, off, hx, hb, hc⟩ := unhide HR (by omega)
      have c0 : w.cell? ⟨b, off + k, none⟩ = some (.slice (A k) (L k) (C k)) := hc k hlt
      have hLk := unhide HL k hlt
      by_cases h1 : L k / 3 < 1
      · have h1' : (L k : Int) / 3 < 1 := by omega
        clear hc HR HL
        obtain rfl := hx
        go_wp2
        go_ret
        exact ⟨false, rfl, rfl, fun h => by cases h⟩
      · by_cases h2 : 128 < L k / 3
        · have h1' : ¬ ((L k : Int) / 3 < 1) := by omega
          have h2' : 128 < (L k : Int) / 3 := by omega
          clear hc HR HL
          obtain rfl := hx
          go_wp2
          go_ret
          exact ⟨false, rfl, rfl, fun h => by cases h⟩
        · have h1' : ¬ ((L k : Int) / 3 < 1) := by omega
          have h2' : ¬ (128 < (L k : Int) / 3) := by omega
          rcases Nat.eq_zero_or_pos k with h3 | h3
          · subst h3
            rw [Nat.add_zero] at c0
            have HS : Hid (LaidP (0 + 1) (fun i => L i / 3)) := by
              refine ⟨fun i hi => ?_, fun i hi => absurd hi (by omega)⟩
              obtain rfl : i = 0 := by omega
              show 1 ≤ L 0 / 3 ∧ L 0 / 3 ≤ 128
              omega
            clear hc HR HL hlaid
            obtain rfl := hx
            go_wp2
            go_round
            case rel => exact ⟨0 + 1, by omega, by go_num, unhide HS⟩
            case measure => simp [intOf]; omega
          · obtain ⟨q, rfl⟩ : ∃ q, k = q + 1 := ⟨k - 1, by omega⟩
            have c1 : w.cell? ⟨b, off + q, none⟩ = some (.slice (A q) (L q) (C q)) := hc q (by omega)
            have hLq := unhide HL q (by omega)
            by_cases h4 : L q / 3 + L (q + 1) / 3 ≤ 128
            · have h4' : (L q : Int) / 3 + (L (q + 1) : Int) / 3 ≤ 128 := by omega
              clear hc HR HL
              obtain rfl := hx
              go_wp2
              go_ret
              exact ⟨false, rfl, rfl, fun h => by cases h⟩
            · have h4' : ¬ ((L q : Int) / 3 + (L (q + 1) : Int) / 3 ≤ 128) := by omega
              have HS : Hid (LaidP (q + 1 + 1) (fun i => L i / 3)) := by
                refine ⟨fun i hi => ?_, fun i hi => ?_⟩
                · by_cases e : i < q + 1
                  · exact hlaid.1 i e
                  · obtain rfl : i = q + 1 := by omega
                    show 1 ≤ L (q + 1) / 3 ∧ L (q + 1) / 3 ≤ 128
                    omega
                · by_cases e : i + 1 < q + 1
                  · exact hlaid.2 i e
                  · obtain rfl : i = q := by omega
                    show 128 < L i / 3 + L (i + 1) / 3
                    omega
              clear hc HR HL hlaid
              obtain rfl := hx
              go_wp2
              go_round
              case rel => exact ⟨q + 1 + 1, by omega, by go_num, unhide HS⟩
              case measure => simp [intOf]; omega
    · obtain rfl : k = n := by omega
      have HS := hide hlaid
      clear hlaid
      go_wp2
      go_ret
      exact ⟨true, rfl, rfl, fun _ => unhide HS⟩
end
end Go.Proofs.Qxb6600722a
