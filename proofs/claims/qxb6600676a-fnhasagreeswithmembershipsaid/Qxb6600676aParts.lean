import Derived.Test.Qxb6600676aClone
import Derived.Test.Qxb6600676aPlain
import Derived.Laws.BitsAllLaws
import Derived.Laws.ShiftsVarLaws
namespace Go.Proofs.Qxb6600676a
open Go.RowKit

theorem Try.info3 : (Try.prog.info? 3).map (fun i => (i.zero, i.size, i.bytes)) = some (some (.int .i64 0), 1, 8) := by kernel_rfl
theorem Try.info35 : (Try.prog.info? 35).map (fun i => (i.zero, i.size, i.bytes)) = some (some (.int .u64 0), 1, 8) := by kernel_rfl

/-- The members below k as cells. -/
def posV (bs : List Bool) (k : Nat) : List Value := (posTo bs k).map fun (i : Nat) => Value.int .i64 (i : Int)
/-- The words behind k rounds as cells. -/
def wordsV (bs : List Bool) (m k : Nat) : List Value := (wordsTo bs m k).map fun (i : Nat) => Value.int .u64 (i : Int)

theorem posV_hit (bs : List Bool) (k : Nat) (h : bs.getD k false = true) : posV bs (k + 1) = posV bs k ++ [.int .i64 (k : Int)] := by
  unfold posV
  rw [posTo_hit bs k h, List.map_append]
  rfl

theorem posV_miss (bs : List Bool) (k : Nat) (h : bs.getD k false = false) : posV bs (k + 1) = posV bs k := by
  unfold posV
  rw [posTo_miss bs k h]

/-- One element more is appended. -/
theorem rel_append {B : Nat} {w wr w1 : World} {v v' : Value} {bs : List Bool} {k : Nat} (h : bs.getD k false = true) (hB : B ≤ wr.heap.size) (o : Obj)
    (hown : wr.ownsRow B 3 1 v (cnt bs k) (posV bs k)) (hbel : Below B w wr)
    (hown' : w1.ownsRow B 3 1 v' (cnt bs k + 1) (posV bs k ++ [.int .i64 (k : Int)])) (hgrow : (wr.alloc o).grownBy w1 v.ownBlock) :
    w1.ownsRow B 3 1 v' (cnt bs (k + 1)) (posV bs (k + 1)) ∧ Below B w w1 := by
  rw [cnt_hit bs k h, posV_hit bs k h]
  exact ⟨hown', (hbel.alloc hB o).grown hgrow (by simp; omega) (fun q hq => ((hown.alloc o).lt q hq).1)⟩

theorem two_pow_wrap (i : Nat) (hi : i < 64) : IntKind.u64.wrap ((2 : Int) ^ i) = ((2 ^ i : Nat) : Int) := by
  rw [IntKind.wrap_u64]
  have h : (2 : Nat) ^ i < 18446744073709551616 := by
    have := Nat.pow_lt_pow_right (a := 2) (by omega) hi
    simpa using this
  have e : ((2 : Int) ^ i) = ((2 ^ i : Nat) : Int) := by simp
  rw [e]
  generalize (2 : Nat) ^ i = y at h
  omega

theorem or_word (x i : Nat) (hx : x < 2 ^ 64) (hi : i < 64) : bits .or .u64 (x : Int) (IntKind.u64.wrap ((2 : Int) ^ i)) = ((x ||| 2 ^ i : Nat) : Int) := by
  rw [two_pow_wrap i hi]
  have h : (2 : Nat) ^ i < 18446744073709551616 := by
    have := Nat.pow_lt_pow_right (a := 2) (by omega) hi
    simpa using this
  exact u64_or_nat x (2 ^ i) (by simpa using hx) h

/-- One word is stored. -/
theorem rel_word {B : Nat} {w wr : World} {v : Value} {bs : List Bool} {g m j n : Nat} {xs : List Value} (h : bs.getD j false = true)
    (hw : wr.ownsRow B 35 1 (.slice (some ⟨g, 0, none⟩) m m) m (wordsV bs m j)) (hp : wr.ownsRow B 3 1 v n xs) (hne : v.ownBlock ≠ some g) (hbel : Below B w wr) (hg : B ≤ g) :
    (wr.setCell ⟨g, j / 64, none⟩ (.int .u64 (bits .or .u64 ((wordsTo bs m j)[j / 64]?.getD 0 : Nat) (IntKind.u64.wrap ((2 : Int) ^ (j % 64)))))).ownsRow B 35 1 (.slice (some ⟨g, 0, none⟩) m m) m (wordsV bs m (j + 1)) ∧
    (wr.setCell ⟨g, j / 64, none⟩ (.int .u64 (bits .or .u64 ((wordsTo bs m j)[j / 64]?.getD 0 : Nat) (IntKind.u64.wrap ((2 : Int) ^ (j % 64)))))).ownsRow B 3 1 v n xs ∧
    Below B w (wr.setCell ⟨g, j / 64, none⟩ (.int .u64 (bits .or .u64 ((wordsTo bs m j)[j / 64]?.getD 0 : Nat) (IntKind.u64.wrap ((2 : Int) ^ (j % 64)))))) := by
  have hlt := wordsTo_lt bs m j (j / 64)
  rw [List.getD_eq_getElem?_getD] at hlt
  rw [or_word _ _ hlt (Nat.mod_lt _ (by omega))]
  have hst := hw.stored (j / 64) (.int .u64 (((wordsTo bs m j)[j / 64]?.getD 0 ||| 2 ^ (j % 64) : Nat) : Int))
  refine ⟨?_, hp.kept hst.2 (Or.inr hne), hbel.setCell hg _⟩
  have e : wordsV bs m (j + 1) = (wordsV bs m j).set (j / 64) (.int .u64 (((wordsTo bs m j)[j / 64]?.getD 0 ||| 2 ^ (j % 64) : Nat) : Int)) := by
    unfold wordsV
    rw [wordsTo, if_pos h, List.map_set, List.getD_eq_getElem?_getD]
  rw [e]
  exact hst.1

set_option maxHeartbeats 800000 in
theorem parts_any (a : Option Addr) (len cap : Nat) (bs : List Bool) (w : World) (hl : bs.length = len) (hs : len ≤ 65536) (hr : RowV w a len (fun j => .bool (bs.getD j false))) :
    Calls Try.prog 8 #[.slice a len cap] w fun e w' =>
      ∃ v g, e = .returned (.tuple #[v, .slice (some ⟨g, 0, none⟩) ((len + 63) / 64) ((len + 63) / 64)]) ∧ w'.ownsRow w.heap.size 3 1 v (cnt bs len) (posV bs len) ∧
        w'.ownsRow w.heap.size 35 1 (.slice (some ⟨g, 0, none⟩) ((len + 63) / 64) ((len + 63) / 64)) ((len + 63) / 64) (wordsV bs ((len + 63) / 64) len) ∧ Below w.heap.size w w' := by
  have HR := hide hr
  clear hr
  obtain ⟨i0, hi, hz0, hz1, hz2⟩ := info_parts Try.info3
  go_enter Try.func8, Try.ntmps8
  go_wp2
  go_loopw [4, 5] (fun v i wr => ∃ k : Nat, k ≤ len ∧ i = .int .i64 k ∧ wr.ownsRow w.heap.size 3 1 v (cnt bs k) (posV bs k) ∧ Below w.heap.size w wr)
    (fun _ i _ => len - (intOf i).toNat)
  case atStart => exact ⟨0, Nat.zero_le _, rfl, World.ownsRow_nil _ _ _ _, Below.refl _ _⟩
  case round =>
    obtain ⟨k, hk, rfl, hown, hbel⟩ := hrel
    have hsz := hbel.size
    have hcle := cnt_le bs k
    by_cases hlt : k < len
    · obtain ⟨b, off, hx, hb, hc⟩ := unhide HR (by omega)
      obtain rfl := hx
      have hcx : wr.cell? ⟨b, off + k, none⟩ = some (.bool (bs.getD k false)) := (hbel.cell (by exact hb)).trans (hc k hlt)
      clear hc HR
      cases hbk : bs.getD k false with
      | true =>
        rw [hbk] at hcx
        have HB := hide hbk
        clear hbk
        go_wp2_with (at_builtin; refine wpList_append_own _ rfl _ _ 27 rfl w.heap.size 3 i0 (.int .i64 0) 1 8 Try.underlying27 hi hz0 hz1 hz2 rfl (by decide) _ _ _ rfl (hown.alloc _) ⟨wr.heap.size, 0, none⟩ 1 1 [.int .i64 (k : Int)] rfl rfl ?c1 ?c2 ?c3 ?c4 ?c5 ?_)
        case c1 => exact cell_one_new _ _ _
        case c2 => intro u hu; simp at hu; subst hu; rfl
        case c3 => unfold maxLen; omega
        case c4 => omega
        case c5 => simp; omega
        intro v' w1 hown' hgrow _
        have R := rel_append (unhide HB) (by omega) _ hown hbel hown' hgrow
        clear hown' hgrow hown hbel hcx hi hz0 hz1 hz2
        go_wp2
        go_roundw
        case rel => exact ⟨k + 1, by omega, by go_num, R.1, R.2⟩
        case measure => simp [intOf]; omega
      | false =>
        rw [hbk] at hcx
        have HB := hide hbk
        clear hbk
        go_wp2
        go_roundw
        case rel => exact ⟨k + 1, by omega, by go_num, by rw [cnt_miss bs k (unhide HB), posV_miss bs k (unhide HB)]; exact hown, hbel⟩
        case measure => simp [intOf]; omega
    · obtain rfl : k = len := by omega
      clear hi hz0 hz1 hz2
      obtain ⟨i1, hi, hz0, hz1, hz2⟩ := info_parts Try.info35
      go_wp2_with (at_make; refine wpList_make_full _ rfl _ _ 28 rfl w.heap.size 35 i1 (.int .u64 0) 1 Try.underlying28 hi hz0 hz1 _ _ _ _ ((k + 63) / 64) rfl rfl (by omega) (by omega) ?_ ?_ ?_ ?_)
      case refine_1 => rw [hz2]; omega
      case refine_2 => unfold maxLen; omega
      case refine_3 => omega
      intro w1 hown2 hgrow
      rw [toList_madeCells_one] at hown2
      have hown1 := hown.kept hgrow (by cases u4.ownBlock <;> simp)
      have hbel1 := hbel.grown hgrow (by omega) (by simp)
      have hne : u4.ownBlock ≠ some wr.heap.size := fun e => by have := (hown.lt _ e).2; omega
      have hbel0 := hbel
      clear hgrow hi hz0 hz1 hz2 hown hbel
      obtain ⟨wo, rfl⟩ : ∃ wo : World, wo = wr := ⟨_, rfl⟩
      go_wp2
      go_loopw [7] (fun i wr => ∃ j : Nat, j ≤ k ∧ i = .int .i64 j ∧ wr.ownsRow w.heap.size 35 1 (.slice (some ⟨wo.heap.size, 0, none⟩) ((k + 63) / 64) ((k + 63) / 64)) ((k + 63) / 64) (wordsV bs ((k + 63) / 64) j) ∧
          wr.ownsRow w.heap.size 3 1 u4 (cnt bs k) (posV bs k) ∧ Below w.heap.size w wr)
        (fun i _ => k - (intOf i).toNat)
      case atStart => exact ⟨0, Nat.zero_le _, rfl, by simpa [wordsV, wordsTo] using hown2, hown1, hbel1⟩
      case round =>
        obtain ⟨j, hj, rfl, hw, hp, hbel⟩ := hrel
        clear hown1 hown2 hbel1
        by_cases hjk : j < k
        · obtain ⟨b, off, hx, hb, hc⟩ := unhide HR (by omega)
          obtain rfl := hx
          have hcx : wr.cell? ⟨b, off + j, none⟩ = some (.bool (bs.getD j false)) := (hbel.cell (by exact hb)).trans (hc j hjk)
          clear hc HR
          cases hbj : bs.getD j false with
          | true =>
            rw [hbj] at hcx
            have HB := hide hbj
            clear hbj
            have hold : wr.cell? ⟨wo.heap.size, j / 64, none⟩ = some (.int .u64 ((wordsTo bs ((k + 63) / 64) j).getD (j / 64) 0 : Nat)) := by
              rw [hw.cellAt (j / 64) (by omega)]
              simp [wordsV, List.getD, wordsTo_length, show j / 64 < (k + 63) / 64 by omega]
            have hfz := hw.frozenAt (j / 64)
            have hlt := wordsTo_lt bs ((k + 63) / 64) j (j / 64)
            have R := rel_word (unhide HB) hw hp hne hbel (by have := hbel0.size; omega)
            have HS := hide R
            clear R hw hp hbel hbel0
            go_wp2
            go_roundw
            case rel => exact ⟨j + 1, by omega, by go_num, (unhide HS).1, (unhide HS).2.1, (unhide HS).2.2⟩
            case measure => simp [intOf]; omega
          | false =>
            rw [hbj] at hcx
            have HB := hide hbj
            clear hbj
            go_wp2
            go_roundw
            case rel => exact ⟨j + 1, by omega, by go_num, by unfold wordsV wordsTo; rw [if_neg (by rw [unhide HB]; simp)]; exact hw, hp, hbel⟩
            case measure => simp [intOf]; omega
        · obtain rfl : j = k := by omega
          go_wp2
          go_ret2
          exact ⟨_, _, rfl, hp, hw, hbel⟩
end Go.Proofs.Qxb6600676a
