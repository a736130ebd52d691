import Derived.Test.Qxb6600676aLaw1
import Derived.ProofKit
import Derived.OpenShut
import Derived.ChangeOld
import Derived.Below
import Derived.Deep.Grids
namespace Go.Proofs.Qxb6600676a.fnHasAgreesWithMembership
open Go.ChangeShapes Go.WideShapes Go.ChangeAt Go.RowKit
set_option linter.unusedVariables false

theorem own : ownKnob Try.prog.godebug = none := by kernel_rfl
theorem laidOut : laidOutB Try.prog = true := by kernel_rfl

theorem rowV_open {w : World} {x : Addr} {len cap : Nat} {B : Nat → Bool} (hl : len ≤ cap) (hc : ∀ i, i < cap → w.cell? (x.add i) = some (.bool (B i))) :
    RowV w (some x) len (fun j => .bool (((List.range len).map B).getD j false)) := by
  intro h0
  obtain ⟨b, off, spot⟩ := x
  have hspot : spot = none := by simpa [Addr.add] using World.cell?_spot (hc 0 (by omega))
  subst hspot
  have hlt : b < w.heap.size := World.block_lt_of_cell? w _ (hc 0 (by omega))
  refine ⟨b, off, rfl, hlt, fun j hj => ?_⟩
  rw [← Go.WideShapes.add_plain, hc j (by omega)]
  simp [List.getD, hj]

theorem rowI_open {w : World} {x : Addr} {len : Nat} {zs : List Int} (hl : len ≤ zs.length) (hc : ∀ i, i < zs.length → w.cell? (x.add i) = some (.int .u8 (zs.getD i 0))) :
    RowV w (some x) len (fun j => .int .u8 ((zs.take len).getD j 0)) := by
  intro h0
  obtain ⟨b, off, spot⟩ := x
  have hspot : spot = none := by simpa [Addr.add] using World.cell?_spot (hc 0 (by omega))
  subst hspot
  have hlt : b < w.heap.size := World.block_lt_of_cell? w _ (hc 0 (by omega))
  refine ⟨b, off, rfl, hlt, fun j hj => ?_⟩
  rw [← Go.WideShapes.add_plain, hc j (by omega)]
  simp [List.getD, hj]

theorem take_bounds {zs : List Int} (len : Nat) (h : ∀ n ∈ zs, (Lit.int .u8 n).wf = true) (j : Nat) : 0 ≤ (zs.take len).getD j 0 ∧ (zs.take len).getD j 0 ≤ 255 := by
  rw [List.getD_eq_getElem?_getD]
  cases hj : (zs.take len)[j]? with
  | none => simp
  | some y =>
    have hm : y ∈ zs := List.mem_of_mem_take (List.mem_of_getElem? hj)
    simpa using bounds_u8 (h y hm)

set_option maxHeartbeats 800000 in
theorem law1_walk (a : Option Addr) (len cap : Nat) (bs : List Bool) (start : Int) (sa : Option Addr) (slen scap : Nat) (ss : List Int) (w : World)
    (hl : bs.length = len) (hcap : len ≤ 9223372036854775807) (hn : a = none → len = 0) (hr : RowV w a len (fun j => .bool (bs.getD j false)))
    (hsl : ss.length = slen) (hscap : slen ≤ 9223372036854775807) (hsn : sa = none → slen = 0) (hsr : RowV w sa slen (fun j => .int .u8 (ss.getD j 0))) (hss : ∀ j, 0 ≤ ss.getD j 0 ∧ ss.getD j 0 ≤ 255) :
    Calls Try.prog 3 #[.slice a len cap, .int .i64 start, .slice sa slen scap] w fun e w' => e = .returned (.bool true) ∧ Below w.heap.size w w' := by
  by_cases hA : len ≤ 1048576
  · by_cases hB : slen ≤ 1048576
    · by_cases hC : len + slen ≤ 1048576
      · by_cases h16 : len ≤ 65536
        · by_cases h16s : slen ≤ 65536
          · by_cases hs1 : -65536 ≤ start
            · by_cases hs2 : start ≤ 65536
              · exact law1_main a len cap bs start sa slen scap ss w hl hn hr hsl hsn hsr hss h16 h16s hs1 hs2
              · clear hr hn hsr hsn hss
                go_enter Try.func3, Try.ntmps3
                go_wp2
                go_ret
                exact ⟨rfl, Below.refl _ _⟩
            · clear hr hn hsr hsn hss
              go_enter Try.func3, Try.ntmps3
              go_wp2
              go_ret
              exact ⟨rfl, Below.refl _ _⟩
          · clear hr hn hsr hsn hss
            go_enter Try.func3, Try.ntmps3
            go_wp2
            go_ret
            exact ⟨rfl, Below.refl _ _⟩
        · clear hr hn hsr hsn hss
          go_enter Try.func3, Try.ntmps3
          go_wp2
          go_ret
          exact ⟨rfl, Below.refl _ _⟩
      · clear hr hn hsr hsn hss
        go_enter Try.func3, Try.ntmps3
        go_wp2
        go_ret
        exact ⟨rfl, Below.refl _ _⟩
    · clear hr hn hsr hsn hss
      go_enter Try.func3, Try.ntmps3
      go_wp2
      go_ret
      exact ⟨rfl, Below.refl _ _⟩
  · clear hr hn hsr hsn hss
    go_enter Try.func3, Try.ntmps3
    go_wp2
    go_ret
    exact ⟨rfl, Below.refl _ _⟩

set_option maxRecDepth 100000 in
theorem lifted (os : Os) (started : os.Started) (H : Type) (enc : TypeId × Value → H) :
    ReturnsInHanded {} Try.checked os 3 .any (Rows.fnHasAgreesWithMembershipSpec.pre6 enc Try.prog Try.f3 Rows.fnHasAgreesWithMembershipRow.domain false) (Rows.fnHasAgreesWithMembershipSpec.post enc Try.prog Try.f3 false true false false) := by
  refine returnsInHanded_of_change (C := Try.checked) own started (by kernel_rfl) Try.func3
    (ChangeSpec.witness6 (enc := enc) (C := Try.checked) false ⟨#[], #[.slice none 0 0, .int .i64 0, .slice none 0 0], []⟩ 8 (by kernel_rfl) (by kernel_rfl) (by kernel_rfl) (by kernel_rfl)) ?_
  intro W base args ds gs before hval0 hW hcnd _
  have hval : ∀ (j : Nat) t v, Try.f3.params[j]? = some t → args[j]? = some v → Value.okWide Try.prog W .any base t v := hval0
  have hW' := hW
  obtain ⟨p, q, hA0, hV, rfl, hfz, hnd⟩ := hW
  have hA : DataW.TrodAll enc Try.prog W 0 (fun _ => true) true Try.f3.params.toList args.toList ds p := hA0
  rw [Try.params3] at hA hval
  obtain ⟨v0, vs0, d0, ds0, p0, q0, hargs, rfl, rfl, h0, r0⟩ := trodAll_cons hA
  obtain ⟨v1, vs1, d1, ds1, p1, q1, rfl, rfl, rfl, h1, r1⟩ := trodAll_cons r0
  obtain ⟨v2, vs2, d2, ds2, p2, q2, rfl, rfl, rfl, h2, r2⟩ := trodAll_cons r1
  obtain ⟨rfl, rfl, rfl⟩ := trodAll_nil r2
  obtain rfl : args = #[v0, v1, v2] := by cases args; simp_all
  obtain ⟨rfl, rfl⟩ := trodVars_none hV
  obtain ⟨a0, len0, cap0, rfl⟩ := okWide_slice Try.underlying22 (hval 0 22 v0 rfl rfl)
  have k0 := h0
  have lt0 : ∀ x ∈ p0, x.block < W.heap.size := by obtain ⟨m, hm⟩ := k0; exact DataW.trod_lt m _ _ _ hm
  obtain ⟨x1, rfl, rfl, rfl, w1⟩ := open_int Try.underlying3 (hval 1 3 v1 rfl rfl) h1
  obtain ⟨a2, len2, cap2, rfl⟩ := okWide_slice Try.underlying23 (hval 2 23 v2 rfl rfl)
  have k2 := h2
  have lt2 : ∀ x ∈ p2, x.block < W.heap.size := by obtain ⟨m, hm⟩ := k2; exact DataW.trod_lt m _ _ _ hm
  obtain ⟨ss, s1, s2, s3, s4, s5⟩ : ∃ ss : List Int, ss.length = len2 ∧ len2 ≤ 9223372036854775807 ∧ (a2 = none → len2 = 0) ∧ RowV W a2 len2 (fun j => .int .u8 (ss.getD j 0)) ∧ ∀ j, 0 ≤ ss.getD j 0 ∧ ss.getD j 0 ≤ 255 := by
    obtain ⟨fuel, hf⟩ := h2
    rcases open_ints Try.underlying23 Try.underlying5 (by kernel_rfl) hf with ⟨hcs, _⟩ | ⟨x, l, c, zs, hcs, _, hl, hm, hz, _, hcell, hwz⟩
    · simp [Value.cells] at hcs
      obtain ⟨rfl, rfl, rfl⟩ := hcs
      exact ⟨[], rfl, by omega, fun _ => rfl, (fun h => absurd h (by omega)), fun j => by simp⟩
    · simp [Value.cells] at hcs
      obtain ⟨rfl, rfl, rfl⟩ := hcs
      have hz' : zs.length = cap2 := by simpa using hz
      exact ⟨zs.take len2, by simp; omega, by unfold maxLen at hm; omega, (fun h => by cases h), rowI_open (by omega) hcell, take_bounds len2 hwz⟩
  obtain ⟨bs, b1, b2, b3, b4⟩ : ∃ bs : List Bool, bs.length = len0 ∧ len0 ≤ 9223372036854775807 ∧ (a0 = none → len0 = 0) ∧ RowV W a0 len0 (fun j => .bool (bs.getD j false)) := by
    obtain ⟨fuel, hf⟩ := h0
    rcases Deep.open_bools Try.underlying22 Try.underlying4 (by kernel_rfl) hf with ⟨hcs, _⟩ | ⟨x, l, c, B, hcs, _, hl, hm, _, hcell⟩
    · simp [Value.cells] at hcs
      obtain ⟨rfl, rfl, rfl⟩ := hcs
      exact ⟨[], rfl, by omega, fun _ => rfl, fun h => absurd h (by omega)⟩
    · simp [Value.cells] at hcs
      obtain ⟨rfl, rfl, rfl⟩ := hcs
      exact ⟨(List.range len0).map B, by simp, by unfold maxLen at hm; omega, (fun h => by cases h), rowV_open hl hcell⟩
  clear hA0 hval0
  refine (law1_walk a0 len0 cap0 bs x1 a2 len2 cap2 ss W b1 b2 b3 b4 s1 s2 s3 s4 s5).mono fun e W' ⟨he, bel⟩ => ?_
  subst he
  exact ⟨_, rfl, _, _, _, [], _, [], hW', trodAll_mk1 (shut_bool Try.underlying4 _),
    (trodAll_cons_mk (Below.trod laidOut (by kernel_rfl) (of_decide_eq_true (by kernel_rfl)) k0 bel lt0) (trodAll_cons_mk (shut_int Try.underlying3 w1) (trodAll_cons_mk (Below.trod laidOut (by kernel_rfl) (of_decide_eq_true (by kernel_rfl)) k2 bel lt2) trodAll_mk0))), rfl, bel.frame _, fun h => by cases h⟩

theorem over : Rows.fnHasAgreesWithMembershipRow.holds Try.pinned (OpenSpec.ofChange Rows.fnHasAgreesWithMembershipSpec) :=
  OpenClaim.holds_of_wide 3 Try.f3 rfl rfl rfl rfl rfl rfl rfl ⟨rfl, rfl, rfl, rfl, rfl⟩ rfl rfl rfl rfl rfl (by kernel_rfl) Try.func3 (by kernel_rfl)
    (of_decide_eq_true (by kernel_rfl)) (by unfold Func.isWrapper; first | (rw [if_pos (by decide +kernel)]; kernel_rfl) | (rw [if_neg (by decide +kernel)]; exact ⟨rfl, rfl⟩))
    (fun os started H enc _ => lifted os started H enc)

theorem proved : Rows.FnHasAgreesWithMembershipSaid := over
end Go.Proofs.Qxb6600676a.fnHasAgreesWithMembership
