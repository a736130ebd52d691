import Derived.Test.Qxb6601424aEq
import Derived.Deep.DeepCutAuto
namespace Go.Proofs.Qxb6601424a
open Go.RowKit
set_option linter.unusedVariables false

/-- 'copy(zzc, f)' into a row just made. -/
theorem wpList_copy3 {w : World} {ops : Array Oper} {rest : List Oper} {o : Oper} {a : Act} {Q : Exit → Act → World → Prop} (hgd : o.guard = none) (d s : Operand)
    (ho : o.op = .call { callee := .builtin .copy, args := #[d, s], argTypes := #[22, 22] }) (g n dCap sCap : Nat) (x : Addr) (hd : a.eval d = .slice (some ⟨g, 0, none⟩) n dCap) (hs : a.eval s = .slice (some x) n sCap)
    (X : Nat → T3) (hr : R3 w (some x) n X) (hth : w.there g 0 (n * 3)) (w0 : World) (hb : Below g w0 w) (hg : g < w.heap.size)
    (h : ∀ w', Hid (R3 w' (some ⟨g, 0, none⟩) n X) → Hid (Below g w0 w') → wpList Try.prog ops Q rest (a.put o.dst (goInt n)) w') : wpList Try.prog ops Q (o :: rest) a w := by
  refine wpList_plain hgd fun K hK => ?_
  have hl := cellsTo_len X n
  have hrun := run_copy3 w 22 22 o.type 26 g n dCap x n sCap (cellsTo X n) Try.underlying22 (by kernel_rfl) (by rw [hl]; simp) (fun j hj => hth j (by omega)) (fun j v hv => by
    have hj : j < (cellsTo X n).length := (List.getElem?_eq_some_iff.1 hv).1
    obtain ⟨b, off, ha, _, hc⟩ := hr (by omega)
    obtain rfl := Option.some.inj ha
    rw [Addr.add_mid]
    exact hc j v hv) (cellsTo_one X n)
  rw [show Nat.min n n = n from Nat.min_self n] at hrun
  unfold Oper.wp
  simp [execOp, ho, resolve, invoke, builtin, hd, hs, hrun, Result.andThen]
  refine hK _ _ (h _ (fun h0 => ⟨g, 0, rfl, ?_, ?_⟩) (Below.setCells (Nat.le_refl g) _ _ hb))
  · exact Nat.lt_of_lt_of_le hg (Below.setCells (Nat.zero_le g) (cellsTo X n) 0 (Below.refl 0 w)).size
  · exact World.rangeAt_setCells_same w g 0 (cellsTo X n) (fun j hj => hth j (by omega))

def LawPost (w : World) (e : Ending) (w' : World) : Prop := e = .returned (.bool true) ∧ Below w.heap.size w w'

set_option maxRecDepth 100000
set_option maxHeartbeats 2000000 in
theorem law_any (a1 a2 : Option Addr) (n1 n2 c1 c2 : Nat) (X Y : Nat → T3) (w : World) (hm1 : n1 ≤ 9223372036854775807) (hm2 : n2 ≤ 9223372036854775807) (e1 : a1 = none → n1 = 0) (e2 : a2 = none → n2 = 0)
    (h1 : R3 w a1 n1 X) (h2 : R3 w a2 n2 Y) (hX : ∀ k, k < n1 → InR (X k)) (hY : ∀ k, k < n2 → InR (Y k)) :
    Calls Try.prog 3 #[.slice a1 n1 c1, .slice a2 n2 c2] w (LawPost w) := by
  have hnil := fun (w : World) (a : Option Addr) (n c : Nat) => run_neq_slice_nil_any (P := Try.prog) w 22 26 a n c 0 0 Try.underlying22
  obtain ⟨i0, hi, hz0, hz1, hz2⟩ := info_parts Try.info26
  have C5 := hide (bytes_any a1 a2 n1 n2 c1 c2 w hm1 hm2)
  have HE0 : Hid (LawPost w (.returned (.bool true)) w) := ⟨rfl, Below.refl _ _⟩
  have H1 := hide h1
  have H2 := hide h2
  have HX := hide hX
  have HY := hide hY
  have E1 := hide e1
  have E2 := hide e2
  clear h1 h2 hX hY e1 e2
  go_enter Try.func3, Try.ntmps3
  go_wp2_with fail
  refine (unhide C5).mono ?_
  rintro e w' ⟨b, rfl, hw⟩
  obtain rfl : w = w' := hw.symm
  clear C5 hw
  cases b
  · go_wp2
    go_ret
    exact unhide HE0
  by_cases g1 : n1 ≤ 16384
  · by_cases g2 : n2 ≤ 16384
    · go_upto_if 20 with (fail)
      go_cut [0, 5] (fun s _ wc => ∃ (a' : Option Addr) (c' : Nat), s = .slice a' n1 c' ∧ (a' = none → n1 = 0) ∧ R3 wc a' n1 X ∧ Below w.heap.size w wc)
      case first =>
        clear H2 HX HY E2 HE0
        cases a1 with
        | none =>
          go_wp2
          go_meet
          case rel => exact ⟨none, c1, rfl, (fun _ => unhide E1 trivial), unhide H1, Below.refl _ _⟩
        | some x =>
          go_wp2_with (at_make; refine wpList_make_full _ rfl _ _ 22 rfl w.heap.size 26 i0 _ 3 Try.underlying22 hi hz0 hz1 _ _ _ _ n1 rfl rfl rfl rfl ?_ ?_ ?_ ?_)
          case refine_1 => rw [hz2]; omega
          case refine_2 => unfold maxLen; omega
          case refine_3 => exact Nat.le_refl _
          intro w1 hown hgrow
          have hbel := (Below.refl w.heap.size w).grown hgrow (Nat.le_refl _) (by simp)
          have hth := there_made (w := w) (v := .bool true) hown
          have hlt : w.heap.size < w1.heap.size := (hown.lt _ rfl).2
          have hr1 := hide ((unhide H1).below hbel)
          have HB := hide hbel
          have HT := hide hth
          clear hgrow hi hz0 hz1 hz2 i0 hown hbel hth
          go_wp2_with (refine wpList_copy3 rfl (.tmp 24) (.tmp 25) rfl w.heap.size n1 n1 c1 x rfl rfl X (unhide hr1) (unhide HT) w (unhide HB) hlt ?_)
          intro w2 HR2 HB2
          go_wp2
          go_meet
          case rel => exact ⟨some ⟨w.heap.size, 0, none⟩, n1, rfl, (fun h => by cases h), unhide HR2, unhide HB2⟩
      case rest =>
        obtain ⟨a3, c3, rfl, e3, hr3, hb3⟩ := hcut
        rename World => w5
        have E3 := hide e3
        have HR3 := hide hr3
        have HB3 := hide hb3
        have H2c := hide ((unhide H2).below hb3)
        clear e3 hr3 hb3 H1 H2 E1 HE0
        go_upto_if 29 with (fail)
        go_cut [1, 6] (fun s _ wc => ∃ (a' : Option Addr) (c' : Nat), s = .slice a' n2 c' ∧ (a' = none → n2 = 0) ∧ R3 wc a' n2 Y ∧ Below w5.heap.size w5 wc)
        case first =>
          clear HX HY E3 HR3 HB3
          cases a2 with
          | none =>
            go_wp2
            go_meet
            case rel => exact ⟨none, c2, rfl, (fun _ => unhide E2 trivial), unhide H2c, Below.refl _ _⟩
          | some x =>
            go_wp2_with (at_make; refine wpList_make_full _ rfl _ _ 22 rfl w5.heap.size 26 i0 _ 3 Try.underlying22 hi hz0 hz1 _ _ _ _ n2 rfl rfl rfl rfl ?_ ?_ ?_ ?_)
            case refine_1 => rw [hz2]; omega
            case refine_2 => unfold maxLen; omega
            case refine_3 => exact Nat.le_refl _
            intro w1 hown hgrow
            have hbel := (Below.refl w5.heap.size w5).grown hgrow (Nat.le_refl _) (by simp)
            have hth := there_made (w := w5) (v := .bool true) hown
            have hlt : w5.heap.size < w1.heap.size := (hown.lt _ rfl).2
            have hr1 := hide ((unhide H2c).below hbel)
            have HB := hide hbel
            have HT := hide hth
            clear hgrow hi hz0 hz1 hz2 i0 hown hbel hth
            go_wp2_with (refine wpList_copy3 rfl (.tmp 33) (.tmp 34) rfl w5.heap.size n2 n2 c2 x rfl rfl Y (unhide hr1) (unhide HT) w5 (unhide HB) hlt ?_)
            intro w2 HR2 HB2
            go_wp2
            go_meet
            case rel => exact ⟨some ⟨w5.heap.size, 0, none⟩, n2, rfl, (fun h => by cases h), unhide HR2, unhide HB2⟩
        case rest =>
          obtain ⟨a4, c4, rfl, e4, hr4, hb4⟩ := hcut
          rename World => w6
          have E4 := hide e4
          have hr3 := (unhide HR3).below hb4
          have HBW : Hid (Below w.heap.size w w6) := (unhide HB3).trans (hb4.mono (unhide HB3).size)
          have C1 := hide (zz_any a3 a3 n1 n1 c3 c3 X X w6 (by omega) (by omega) (unhide E3) (unhide E3) hr3 hr3 (unhide HX) (unhide HX))
          rw [eqL_refl] at C1
          have HR3' := hide hr3
          have HR4 := hide hr4
          clear hr3 hr4 hb4 e4 HR3 HB3 H2c E2 hi hz0 hz1 hz2 i0
          go_wp2_with fail
          refine (unhide C1).mono ?_
          rintro e w7 ⟨rfl, hb7⟩
          have C2 := hide (zz_any a4 a4 n2 n2 c4 c4 Y Y w7 (by omega) (by omega) (unhide E4) (unhide E4) ((unhide HR4).below hb7) ((unhide HR4).below hb7) (unhide HY) (unhide HY))
          rw [eqL_refl] at C2
          have HB7 := hide hb7
          clear C1 hb7
          go_wp2_with fail
          refine (unhide C2).mono ?_
          rintro e w8 ⟨rfl, hb8⟩
          have hb68 : Below w6.heap.size w6 w8 := (unhide HB7).trans (hb8.mono (unhide HB7).size)
          have C3 := hide (zz_any a3 a4 n1 n2 c3 c4 X Y w8 (by omega) (by omega) (unhide E3) (unhide E4) ((unhide HR3').below hb68) ((unhide HR4).below hb68) (unhide HX) (unhide HY))
          have HB68 := hide hb68
          clear C2 hb8 hb68 HB7
          go_wp2_with fail
          refine (unhide C3).mono ?_
          rintro e w9 ⟨rfl, hb9⟩
          have hb69 : Below w6.heap.size w6 w9 := (unhide HB68).trans (hb9.mono (unhide HB68).size)
          have C4 := hide (zz_any a4 a3 n2 n1 c4 c3 Y X w9 (by omega) (by omega) (unhide E4) (unhide E3) ((unhide HR4).below hb69) ((unhide HR3').below hb69) (unhide HY) (unhide HX))
          rw [← eqL_symm] at C4
          have HB69 := hide hb69
          clear C3 hb9 hb69 HB68
          generalize eqL n1 n2 X Y = bb at C4 ⊢
          go_wp2_with fail
          refine (unhide C4).mono ?_
          rintro e w10 ⟨rfl, hb10⟩
          have HEF : Hid (LawPost w (.returned (.bool true)) w10) := ⟨rfl, ((unhide HBW).trans ((unhide HB69).mono (unhide HBW).size)).trans (hb10.mono (Nat.le_trans (unhide HBW).size (unhide HB69).size))⟩
          clear C4 hb10 HB69 HR3' HR4 HBW
          cases bb
          · go_wp2
            go_ret
            exact unhide HEF
          · go_wp2
            go_ret
            exact unhide HEF
    · clear H1 H2 HX HY E1 E2
      go_wp2
      go_ret
      exact unhide HE0
  · clear H1 H2 HX HY E1 E2
    go_wp2
    go_ret
    exact unhide HE0
end Go.Proofs.Qxb6601424a
