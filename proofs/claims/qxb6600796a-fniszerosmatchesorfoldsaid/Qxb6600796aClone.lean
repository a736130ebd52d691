import Derived.Test.Qxb6600796aRows
import Derived.WalkKit
import Derived.WalkSpells
import Derived.WalkLawsBesides
import Derived.Laws.BitsLemmas
namespace Go.Proofs.Qxb6600796a
open Go.RowKit

theorem Try.info5 : (Try.prog.info? 5).map (fun i => (i.zero, i.size, i.bytes)) = some (some (.int .u8 0), 1, 1) := by kernel_rfl

theorem hide {p : Prop} (h : p) : Hid p := h
theorem unhide {p : Prop} (h : Hid p) : p := h

/-- What a clone holds behind k rounds. -/
def cloned (xs : List Value) (z : Value) (k : Nat) : List Value := xs.take k ++ List.replicate (xs.length - k) z

theorem cloned_zero (xs : List Value) (z : Value) : cloned xs z 0 = List.replicate xs.length z := by simp [cloned]

theorem cloned_length (xs : List Value) (z : Value) (k : Nat) : (cloned xs z k).length = xs.length := by simp [cloned]; omega

theorem cloned_step (xs : List Value) (z u : Value) (k : Nat) (hk : xs[k]? = some u) : (cloned xs z k).set k u = cloned xs z (k + 1) := by
  obtain ⟨hk', rfl⟩ := List.getElem?_eq_some_iff.1 hk
  unfold cloned
  rw [show xs.length - k = (xs.length - (k + 1)) + 1 by omega, List.replicate_succ, List.set_append_right _ _ (by simp; omega), List.take_succ_eq_append_getElem hk']
  simp only [List.length_take, Nat.min_eq_left (Nat.le_of_lt hk'), Nat.sub_self, List.set_cons_zero, List.append_assoc, List.singleton_append]

theorem cloned_all (xs : List Value) (z : Value) : cloned xs z xs.length = xs := by simp [cloned]

/-- The first 'len' cells of a slice, where it has any. -/
def RowV (w : World) (a : Option Addr) (len : Nat) (V : Nat → Value) : Prop :=
  0 < len → ∃ b off, a = some ⟨b, off, none⟩ ∧ b < w.heap.size ∧ ∀ j, j < len → w.cell? ⟨b, off + j, none⟩ = some (V j)

theorem RowV.below {w w' : World} {a : Option Addr} {len : Nat} {V : Nat → Value} (h : RowV w a len V) (hb : Below w.heap.size w w') : RowV w' a len V := by
  intro h0
  obtain ⟨b, off, ha, hlt, hc⟩ := h h0
  exact ⟨b, off, ha, Nat.lt_of_lt_of_le hlt hb.size, fun j hj => (hb.cell (p := ⟨b, off + j, none⟩) hlt).trans (hc j hj)⟩

/-- A row that the call owns, as such a slice. -/
theorem RowV.of_owns {w : World} {base : Nat} {e : TypeId} {v : Value} {len : Nat} {xs : List Value} (h : w.ownsRow base e 1 v len xs) :
    ∃ a cap, v = .slice a len cap ∧ (a = none → len = 0) ∧ RowV w a len (fun j => xs.getD j undef) := by
  rcases h.2 with ⟨rfl, rfl⟩ | ⟨g, cap, cur, rfl, hb, hg, r⟩
  · exact ⟨none, 0, rfl, fun _ => rfl, fun h0 => absurd h0 (by omega)⟩
  · refine ⟨_, cap, rfl, (fun h0 => by cases h0), fun _ => ⟨g, 0, rfl, (Array.getElem?_eq_some_iff.1 hg).1, fun j hj => ?_⟩⟩
    have hlen : xs.length = len := by simpa using h.1
    have hc := h.cellAt j (by omega)
    rw [Nat.zero_add, hc, List.getElem?_eq_getElem (by omega)]
    simp [List.getD, show j < xs.length by omega]

set_option maxHeartbeats 400000 in
theorem cloneSteps_any (a : Option Addr) (len cap : Nat) (bs : List Int) (w : World) (hl : bs.length = len) (hs : len ≤ 1048576) (hn : a = none → len = 0) (hr : RowV w a len (fun j => .int .u8 (bs.getD j 0))) :
    Calls Try.prog 6 #[.slice a len cap] w fun e w' =>
      ∃ v, e = .returned v ∧ w'.ownsRow w.heap.size 5 1 v len (bs.map (Value.int .u8)) ∧ Below w.heap.size w w' := by
  have hnil := fun (w : World) (a : Option Addr) (n c : Nat) => Lib.run_eql_slice_nil (P := Try.prog) w 22 5 a n c 0 0 Try.underlying22
  cases a with
  | none =>
    obtain rfl := hn rfl
    have hbs : bs = [] := List.eq_nil_of_length_eq_zero hl
    go_enter Try.func6, Try.ntmps6
    go_wp2
    go_ret
    exact ⟨_, rfl, World.ownsRow_nil _ _ _ _, Below.refl _ _⟩
  | some x =>
    obtain ⟨i0, hi, hz0, hz1, hz2⟩ := info_parts Try.info5
    have HR := hide hr
    clear hr hn
    go_enter Try.func6, Try.ntmps6
    go_wp2_with (at_make; refine wpList_make_full _ rfl _ _ 22 rfl w.heap.size 5 i0 (.int .u8 0) 1 Try.underlying22 hi hz0 hz1 _ _ _ _ len rfl rfl rfl rfl ?_ ?_ ?_ ?_)
    case refine_1 => rw [hz2]; omega
    case refine_2 => unfold maxLen; omega
    case refine_3 => exact Nat.le_refl _
    intro w1 hown hgrow
    rw [toList_madeCells_one, ← hl, ← List.length_map (f := (Value.int .u8)), ← cloned_zero, List.length_map, hl] at hown
    have hbel := (Below.refl w.heap.size w).grown hgrow (Nat.le_refl _) (by simp)
    clear hgrow hi hz0 hz1 hz2 i0
    go_wp2
    go_loopw [4] (fun i wr => ∃ k : Nat, k ≤ len ∧ i = .int .i64 k ∧ wr.ownsRow w.heap.size 5 1 (.slice (some ⟨w.heap.size, 0, none⟩) len len) len (cloned (bs.map (Value.int .u8)) (.int .u8 0) k) ∧ Below w.heap.size w wr)
      (fun i _ => len - (intOf i).toNat)
    case atStart => exact ⟨0, Nat.zero_le _, rfl, hown, hbel⟩
    case round =>
      obtain ⟨k, hk, rfl, hown1, hbel1⟩ := hrel
      clear hown hbel
      by_cases hlt : k < len
      · obtain ⟨b, off, hx, hb, hc⟩ := unhide HR (by omega)
        obtain rfl := Option.some.inj hx
        have hcx : wr.cell? ⟨b, off + k, none⟩ = some (.int .u8 (bs.getD k 0)) := (hbel1.cell (by exact hb)).trans (hc k hlt)
        have hfz := hown1.frozenAt k
        obtain ⟨v3, hold⟩ : ∃ v, wr.cell? ⟨w.heap.size, k, none⟩ = some v := ⟨_, (hown1.cellAt k (by omega)).trans (List.getElem?_eq_getElem (by rw [cloned_length]; simp; omega))⟩
        have R : wr.setCell ⟨w.heap.size, k, none⟩ (.int .u8 (bs.getD k 0)) |>.ownsRow w.heap.size 5 1 (.slice (some ⟨w.heap.size, 0, none⟩) len len) len (cloned (bs.map (Value.int .u8)) (.int .u8 0) (k + 1)) := by
          rw [← cloned_step _ _ (.int .u8 (bs.getD k 0)) k (by simp [hl, hlt])]
          exact (hown1.stored k (.int .u8 (bs.getD k 0))).1
        have HS := hide R
        clear R hc HR hx
        go_wp2
        go_roundw
        case rel => exact ⟨k + 1, by omega, by go_num, by simpa [hl, hlt] using unhide HS, hbel1.setCell (Nat.le_refl _) _⟩
        case measure => simp [intOf]; omega
      · obtain rfl : k = len := by omega
        go_wp2
        go_ret
        refine ⟨_, rfl, ?_, hbel1⟩
        rw [← cloned_all (bs.map (Value.int .u8)) (.int .u8 0)]
        simpa [hl] using hown1
end Go.Proofs.Qxb6600796a
