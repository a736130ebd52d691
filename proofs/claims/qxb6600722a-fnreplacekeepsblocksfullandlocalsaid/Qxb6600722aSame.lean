import Derived.Test.Qxb6600722aMem
import Derived.Deep.QuietTactic
import Derived.BigQuiet
namespace Go.Proofs.Qxb6600722a
open Go.RowKit

theorem run_equal_rng (r : List Value) (h : IsRng r) (w : World) : (Op.equalIn 10000 47 (.agg r.toArray) (.agg r.toArray)).run Try.prog w = .ok true w := by
  obtain ⟨la, hla⟩ := h.lits
  obtain ⟨q, hq, hiff⟩ := run_equalIn_deep (P := Try.prog) 9995 5 47 Try.keyType47 w 5 5 (.agg r.toArray) (.agg r.toArray) la la h.formed h.formed (by simpa [Value.cells] using hla) (by simpa [Value.cells] using hla)
  obtain rfl : q = true := hiff.2 rfl
  exact hq

/-- The cells of range k among the cells of all. -/
theorem range_at {w : World} {b o : Nat} {rs : List Rng} (h : ∀ r ∈ rs, IsRng r) (hc : w.rangeAt b o rs.flatten) {k : Nat} {r : Rng} (hk : rs[k]? = some r) : w.rangeAt b (o + k * 18) r := by
  have hkl : k < rs.length := (List.getElem?_eq_some_iff.1 hk).1
  have e : rs = rs.take k ++ (r :: rs.drop (k + 1)) := by
    obtain ⟨_, rfl⟩ := List.getElem?_eq_some_iff.1 hk
    simp
  have hl : (rs.take k).flatten.length = k * 18 := by
    rw [flat_len (fun x hx => h x (List.mem_of_mem_take hx)), List.length_take, Nat.min_eq_left (Nat.le_of_lt hkl)]
  rw [e, List.flatten_append, List.flatten_cons] at hc
  have := rangeAt_left (rangeAt_right hc)
  rwa [hl] at this

/-- A struct loaded whole inside a region that draws its order and only reads. -/
theorem quiet_load_mid {P : Program} {o : Oper} {a : Act} {C : World → Prop} {K : Act → Prop} (ty : TypeId) (x : Operand) (ho : o.op = .load ty x) (b off : Nat) (hx : a.eval x = .pointer (some ⟨b, off, none⟩)) (cs : List Value) (d : TypeDesc)
    (hC : ∀ w, C w → w.rangeAt b off cs) (hu : P.underlying ty = some d) (hd : d.isRow = true) (hi : (P.info? ty).map (·.size) = some cs.length) (hk : K (a.put o.dst (.agg cs.toArray))) : o.quiet P a C K :=
  ⟨_, fun w hw => by
    unfold Oper.quietAt execOp
    simp only [ho, hx, Instr.loadAt, Instr.sureAddr, Sem.run_bind, Sem.run_pure, Result.andThen_ok, run_loadVar_mid w b off ty cs d (hC w hw) hu hd hi]
    exact ⟨rfl, rfl⟩, hk⟩

set_option maxHeartbeats 1000000 in
theorem same_any (S T : Nat → Prop) (a1 a2 : Option Addr) (n cap1 cap2 : Nat) (rs : List Rng) (w : World) (hs : n ≤ 1048576) (h1 : Rs S w a1 n cap1 rs) (h2 : Rs T w a2 n cap2 rs) :
    Calls Try.prog 13 #[.slice a1 n cap1, .slice a2 n cap2] w fun e w' => e = .returned (.bool true) ∧ ∃ q, w' = w.drewN q := by
  have H1 := hide h1
  have H2 := hide h2
  clear h1 h2
  go_enter Try.func13, Try.ntmps13
  go_wp2
  go_loopw [5] (fun i wr => ∃ k q : Nat, k ≤ n ∧ i = .int .i64 k ∧ wr = w.drewN q) (fun i _ => n - (intOf i).toNat)
  case atStart => exact ⟨0, 0, Nat.zero_le _, rfl, rfl⟩
  case round =>
    obtain ⟨k, q, hk, rfl, hwr⟩ := hrel
    subst hwr
    by_cases hlt : k < n
    · obtain ⟨b1, o1, hx1, hb1, hs1, hc1⟩ := (unhide H1).lies (by omega)
      obtain ⟨b2, o2, hx2, hb2, hs2, hc2⟩ := (unhide H2).lies (by omega)
      have hkl : k < rs.length := by have := (unhide H1).len; omega
      obtain ⟨r, hkr⟩ : ∃ r, rs[k]? = some r := ⟨_, List.getElem?_eq_getElem hkl⟩
      have hrng : IsRng r := (unhide H1).rng _ (List.mem_of_getElem? hkr)
      have P1 := hide (range_at (unhide H1).rng hc1 hkr)
      have P2 := hide (range_at (unhide H1).rng hc2 hkr)
      have hq := fun w => run_equal_rng _ hrng w
      have HL := hide (Try.size47.trans (congrArg some hrng.len.symm))
      clear hc1 hc2 hkr hrng H1 H2 hkl hb1 hs1 hb2 hs2
      obtain rfl := hx1
      obtain rfl := hx2
      have hlt' : (k : Int) < (n : Int) := by omega
      go_wp2
      refine wp_region_quiet_lit (by kernel_rfl) (by kernel_rfl) ?_
      go_big_quiet_step (fail)
      go_big_quiet_step (fail)
      go_big_quiet_step (fail)
      go_big_quiet_want
      refine quiet_load_mid 47 _ rfl b1 (o1 + k * 18) rfl r _ ?_ Try.underlying47 rfl (unhide HL) ?_
      · rintro _ ⟨m, rfl⟩
        exact unhide P1
      go_big_quiet_on
      simp only [Act.put, List.setIfInBounds_toArray, List.set_cons_zero, List.set_cons_succ]
      go_big_quiet_step (fail)
      go_big_quiet_step (fail)
      go_big_quiet_step (fail)
      go_big_quiet_want
      refine quiet_load_mid 47 _ rfl b2 (o2 + k * 18) rfl r _ ?_ Try.underlying47 rfl (unhide HL) ?_
      · rintro _ ⟨m, rfl⟩
        exact unhide P2
      go_big_quiet_on
      simp only [Act.put, List.setIfInBounds_toArray, List.set_cons_zero, List.set_cons_succ]
      go_big_quiet_step (fail)
      refine wpQuiet_nil ?_
      rintro _ ⟨nq, rfl⟩
      clear P1 P2 hq HL
      go_wp2
      go_roundw
      case rel => exact ⟨k + 1, _, by omega, by go_num, rfl⟩
      case measure => simp [intOf]; omega
    · go_wp2
      go_ret
      exact ⟨rfl, _, rfl⟩
end Go.Proofs.Qxb6600722a
