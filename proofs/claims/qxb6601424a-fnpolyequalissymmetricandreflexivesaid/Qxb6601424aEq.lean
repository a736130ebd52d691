import Derived.Test.Qxb6601424aPoly
namespace Go.Proofs.Qxb6601424a
open Go.RowKit
set_option linter.unusedVariables false

def eqTo (X Y : Nat → T3) : Nat → Bool
  | 0 => true
  | k + 1 => eqTo X Y k && decide (X k = Y k)

theorem eqTo_refl (X : Nat → T3) : ∀ k, eqTo X X k = true
  | 0 => rfl
  | k + 1 => by rw [eqTo, eqTo_refl X k]; simp
theorem eqTo_symm (X Y : Nat → T3) : ∀ k, eqTo X Y k = eqTo Y X k
  | 0 => rfl
  | k + 1 => by
    rw [eqTo, eqTo, eqTo_symm X Y k]
    congr 1
    exact decide_eq_decide.2 ⟨Eq.symm, Eq.symm⟩
theorem eqTo_false {X Y : Nat → T3} {k n : Nat} (h : eqTo X Y k = false) (hk : k ≤ n) : eqTo X Y n = false := by
  induction n with
  | zero => obtain rfl : k = 0 := by omega
            exact h
  | succ n ih =>
    by_cases e : k = n + 1
    · rw [← e]; exact h
    · rw [eqTo, ih (by omega)]; rfl

/-- What (poly).equal answers. -/
def eqL (n1 n2 : Nat) (X Y : Nat → T3) : Bool := decide (n1 = n2) && eqTo X Y n1
theorem eqL_refl (n : Nat) (X : Nat → T3) : eqL n n X X = true := by simp [eqL, eqTo_refl]
theorem eqL_symm (n1 n2 : Nat) (X Y : Nat → T3) : eqL n1 n2 X Y = eqL n2 n1 Y X := by
  unfold eqL
  by_cases h : n1 = n2
  · subst h; rw [eqTo_symm]
  · rw [decide_eq_false h, decide_eq_false (fun e => h e.symm)]; rfl

def EqPost (w : World) (b : Bool) (e : Ending) (w' : World) : Prop := e = .returned (.bool b) ∧ ∃ q, w' = w.drewN q

theorem below_of_drewN (w : World) (q : Nat) : Below w.heap.size w (w.drewN q) := ⟨rfl, rfl, rfl, Nat.le_refl _, fun _ _ => rfl⟩

set_option maxHeartbeats 1000000 in
theorem equal_any (a1 a2 : Option Addr) (n1 n2 c1 c2 : Nat) (X Y : Nat → T3) (w : World) (hs1 : n1 ≤ 1048576) (hs2 : n2 ≤ 1048576) (h1 : R3 w a1 n1 X) (h2 : R3 w a2 n2 Y) (hX : ∀ k, k < n1 → InR (X k)) (hY : ∀ k, k < n2 → InR (Y k)) :
    Calls Try.prog 9 #[.slice a1 n1 c1, .slice a2 n2 c2] w (EqPost w (eqL n1 n2 X Y)) := by
  by_cases hne : n1 = n2
  · subst hne
    have H1 := hide h1
    have H2 := hide h2
    have HX := hide hX
    have HY := hide hY
    clear h1 h2 hX hY
    go_enter Try.func9, Try.ntmps9
    go_wp2
    go_loopw [5, 13] (fun _ i wr => ∃ k q : Nat, k ≤ n1 ∧ i = .int .i64 k ∧ wr = w.drewN q ∧ eqTo X Y k = true) (fun _ i _ => n1 - (intOf i).toNat)
    case atStart => exact ⟨0, 0, Nat.zero_le _, rfl, rfl, rfl⟩
    case round =>
      obtain ⟨k, q, hk, rfl, hwr, hz⟩ := hrel
      have hbel : Below w.heap.size w wr := by rw [hwr]; exact below_of_drewN w q
      have HWR := hide hwr
      have HZ := hide hz
      clear hwr hz
      by_cases hlt : k < n1
      · obtain ⟨b1, o1, hx1, hb1, hc1⟩ := unhide H1 (by omega)
        obtain ⟨b2, o2, hx2, hb2, hc2⟩ := unhide H2 (by omega)
        obtain ⟨x0, x1, x2⟩ := cellsTo_at X hlt
        obtain ⟨y0, y1, y2⟩ := cellsTo_at Y hlt
        have c0 : wr.cell? ⟨b1, o1 + k * 3, none⟩ = some (.int .u64 (X k).1) := (hbel.cell (by exact hb1)).trans (hc1 _ _ x0)
        have c1 : wr.cell? ⟨b1, o1 + k * 3 + 1, none⟩ = some (.int .u64 (X k).2.1) := (hbel.cell (by exact hb1)).trans (hc1 _ _ x1)
        have c2 : wr.cell? ⟨b1, o1 + k * 3 + 2, none⟩ = some (.int .u64 (X k).2.2) := (hbel.cell (by exact hb1)).trans (hc1 _ _ x2)
        have d0 : wr.cell? ⟨b2, o2 + k * 3, none⟩ = some (.int .u64 (Y k).1) := (hbel.cell (by exact hb2)).trans (hc2 _ _ y0)
        have d1 : wr.cell? ⟨b2, o2 + k * 3 + 1, none⟩ = some (.int .u64 (Y k).2.1) := (hbel.cell (by exact hb2)).trans (hc2 _ _ y1)
        have d2 : wr.cell? ⟨b2, o2 + k * 3 + 2, none⟩ = some (.int .u64 (Y k).2.2) := (hbel.cell (by exact hb2)).trans (hc2 _ _ y2)
        have hneq := run_neq3 (X k) (Y k) (unhide HX k hlt) (unhide HY k hlt)
        have hkn : (k : Int) < (n1 : Int) := by omega
        clear hc1 hc2 x0 x1 x2 y0 y1 y2 hbel hb1 hb2 HX HY
        obtain rfl := hx1
        obtain rfl := hx2
        by_cases heq : X k = Y k
        · have HZ1 : Hid (eqTo X Y (k + 1) = true) := by unfold Hid; rw [eqTo, unhide HZ, decide_eq_true heq]; rfl
          rw [decide_eq_true heq] at hneq
          clear heq
          generalize (X k).1 = p0 at c0 hneq
          generalize (X k).2.1 = p1 at c1 hneq
          generalize (X k).2.2 = p2 at c2 hneq
          generalize (Y k).1 = q0 at d0 hneq
          generalize (Y k).2.1 = q1 at d1 hneq
          generalize (Y k).2.2 = q2 at d2 hneq
          go_wp2
          go_quiet (fail)
          go_wp2
          go_roundw
          case rel => exact ⟨k + 1, _, by omega, by go_num, by rw [unhide HWR, World.drewN_drewN], unhide HZ1⟩
          case measure => simp [intOf]; omega
        · have HZ1 : Hid (eqL n1 n1 X Y = false) := by
            unfold Hid eqL
            rw [eqTo_false (k := k + 1) (by rw [eqTo, decide_eq_false heq]; simp) (by omega)]
            simp
          rw [decide_eq_false heq] at hneq
          clear heq
          generalize (X k).1 = p0 at c0 hneq
          generalize (X k).2.1 = p1 at c1 hneq
          generalize (X k).2.2 = p2 at c2 hneq
          generalize (Y k).1 = q0 at d0 hneq
          generalize (Y k).2.1 = q1 at d1 hneq
          generalize (Y k).2.2 = q2 at d2 hneq
          go_wp2
          go_quiet (fail)
          go_wp2
          go_ret
          exact ⟨by rw [unhide HZ1]; rfl, _, by rw [unhide HWR, World.drewN_drewN]⟩
      · obtain rfl : k = n1 := by omega
        go_wp2
        go_ret
        exact ⟨by unfold eqL; rw [unhide HZ]; simp, _, unhide HWR⟩
  · have HE : Hid (EqPost w (eqL n1 n2 X Y) (.returned (.bool false)) w) := ⟨by unfold eqL; rw [decide_eq_false hne]; rfl, 0, rfl⟩
    clear h1 h2 hX hY
    go_enter Try.func9, Try.ntmps9
    go_wp2
    go_ret
    exact unhide HE

/-- What ZZpolyEqual answers. -/
def ZZPost (w : World) (b : Bool) (e : Ending) (w' : World) : Prop := e = .returned (.bool b) ∧ Below w.heap.size w w'

set_option maxHeartbeats 1000000 in
theorem zz_any (a1 a2 : Option Addr) (n1 n2 c1 c2 : Nat) (X Y : Nat → T3) (w : World) (hs1 : n1 ≤ 1048576) (hs2 : n2 ≤ 1048576) (e1 : a1 = none → n1 = 0) (e2 : a2 = none → n2 = 0) (h1 : R3 w a1 n1 X) (h2 : R3 w a2 n2 Y) (hX : ∀ k, k < n1 → InR (X k)) (hY : ∀ k, k < n2 → InR (Y k)) :
    Calls Try.prog 6 #[.slice a1 n1 c1, .slice a2 n2 c2] w (ZZPost w (eqL n1 n2 X Y)) := by
  have C8 := hide (poly_any a1 n1 c1 X w hs1 e1 h1)
  have H2 := hide h2
  have HX := hide hX
  have HY := hide hY
  have E2 := hide e2
  clear h1 h2 hX hY e1 e2
  go_enter Try.func6, Try.ntmps6
  go_wp2_with fail
  refine (unhide C8).mono ?_
  rintro e w1 ⟨a3, c3, rfl, hr3, hb1⟩
  have C8b := hide (poly_any a2 n2 c2 Y w1 hs2 (unhide E2) ((unhide H2).below hb1))
  have HR3 := hide hr3
  have HB1 := hide hb1
  clear C8 hr3 hb1
  go_wp2_with fail
  refine (unhide C8b).mono ?_
  rintro e w2 ⟨a4, c4, rfl, hr4, hb2⟩
  have C9 := hide (equal_any a3 a4 n1 n2 c3 c4 X Y w2 hs1 hs2 ((unhide HR3).below hb2) hr4 (unhide HX) (unhide HY))
  have hb12 : Below w.heap.size w w2 := (unhide HB1).trans (hb2.mono (unhide HB1).size)
  have HB12 := hide hb12
  clear C8b hr4 hb2 hb12 HB1 HR3 H2 E2
  go_wp2_with fail
  refine (unhide C9).mono ?_
  rintro e w3 ⟨rfl, q, hw⟩
  have HE : Hid (ZZPost w (eqL n1 n2 X Y) (.returned (.bool (eqL n1 n2 X Y))) w3) := ⟨rfl, by rw [hw]; exact (unhide HB12).trans ((below_of_drewN w2 q).mono (unhide HB12).size)⟩
  clear hw C9
  go_wp2
  go_ret
  exact unhide HE

def BPost (w : World) (e : Ending) (w' : World) : Prop := ∃ b : Bool, e = .returned (.bool b) ∧ w' = w

set_option maxHeartbeats 1000000 in
theorem bytes_any (a1 a2 : Option Addr) (n1 n2 c1 c2 : Nat) (w : World) (hm1 : n1 ≤ 9223372036854775807) (hm2 : n2 ≤ 9223372036854775807) :
    Calls Try.prog 5 #[.slice a1 n1 c1, .slice a2 n2 c2] w (BPost w) := by
  by_cases g1 : n1 ≤ 1048576
  · by_cases g2 : n2 ≤ 1048576
    · by_cases g3 : (n1 : Int) + (n2 : Int) ≤ 1048576
      · go_enter Try.func5, Try.ntmps5
        go_wp2
        go_ret
        exact ⟨true, rfl, rfl⟩
      · go_enter Try.func5, Try.ntmps5
        go_wp2
        go_ret
        exact ⟨false, rfl, rfl⟩
    · go_enter Try.func5, Try.ntmps5
      go_wp2
      go_ret
      exact ⟨false, rfl, rfl⟩
  · go_enter Try.func5, Try.ntmps5
    go_wp2
    go_ret
    exact ⟨false, rfl, rfl⟩
end Go.Proofs.Qxb6601424a
