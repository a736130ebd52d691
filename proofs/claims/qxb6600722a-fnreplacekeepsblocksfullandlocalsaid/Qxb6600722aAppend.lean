import Derived.Test.Qxb6600722aSameBlocks
namespace Go.Proofs.Qxb6600722a
open Go.RowKit

theorem flat_one {rs : List Rng} (h : ∀ r ∈ rs, IsRng r) : ∀ u ∈ rs.flatten, u.oneCell' = true := by
  intro u hu
  obtain ⟨r, hr, hu⟩ := List.mem_flatten.1 hu
  exact (h r hr).one u hu

theorem Rs.none_zero {S : Nat → Prop} {w : World} {n cap : Nat} {rs : List Rng} (h : Rs S w none n cap rs) : n = 0 := by
  cases n with
  | zero => rfl
  | succ n => obtain ⟨b, off, ha, _⟩ := h.lies (by omega); cases ha

/-- 'append(out, xs...)', out nil or the call's own, xs a slice of ranges, whatever its shape. -/
theorem wpList_append_rs (w : World) {ops : Array Oper} {rest : List Oper} {o : Oper} {a : Act} {Q : Exit → Act → World → Prop} (hgd : o.guard = none) (s x : Operand)
    (ho : o.op = .call { callee := .builtin .append, args := #[s, x], argTypes := #[28, 28] }) (base : Nat) (v : Value) (n : Nat) (xs : List Value) (hs : a.eval s = v) (hown : w.ownsRow base 47 18 v n xs)
    (S : Nat → Prop) (ad : Option Addr) (m c : Nat) (rs : List Rng) (hx : a.eval x = .slice ad m c) (hr : Rs S w ad m c rs) (hb : n + m ≤ 4194304) (hbase : base ≤ w.heap.size)
    (h : ∀ v' w', w'.ownsRow base 47 18 v' (n + m) (xs ++ rs.flatten) → w.grownBy w' v.ownBlock → wpList Try.prog ops Q rest (a.put o.dst v') w') : wpList Try.prog ops Q (o :: rest) a w := by
  obtain ⟨i0, hi, hz0, hz1, hz2⟩ := info_parts Try.info47
  cases ad with
  | none =>
    obtain rfl := hr.none_zero
    have hrs : rs = [] := List.eq_nil_of_length_eq_zero hr.len
    subst hrs
    refine wpList_plain hgd fun K hK => ?_
    have hrun : (Builtin.append_ #[28, 28] o.type #[v, .slice none 0 c]).run Try.prog w = .ok v w := by
      rcases hown.2 with ⟨rfl, rfl⟩ | ⟨g, cap, cur, rfl, _, _, hnc, _⟩
      · simp [Builtin.append_, run_underlying Try.underlying28, sizeOf, typeInfo, hi, Builtin.lenOf, Builtin.firstCells]
      · simp [Builtin.append_, run_underlying Try.underlying28, sizeOf, typeInfo, hi, Builtin.lenOf, Builtin.firstCells, hnc, storeCells]
    unfold Oper.wp
    simp [execOp, ho, resolve, invoke, builtin, hs, hx, hrun, Result.andThen]
    exact hK _ _ (h v w (by simpa using hown) (World.grownBy.refl _ _))
  | some ad =>
    refine wpList_append_own w hgd s x 28 ho base 47 i0 _ 18 32 Try.underlying28 hi hz0 hz1 hz2 rfl (by decide) v n xs hs hown ad m c rs.flatten hx (by rw [flat_len hr.rng, hr.len]) ?_ (flat_one hr.rng) (by unfold maxLen; omega) (by omega) hbase (fun v' w' h1 h2 _ => h v' w' h1 h2)
    intro j u hu
    have hj : j < rs.flatten.length := (List.getElem?_eq_some_iff.1 hu).1
    rw [flat_len hr.rng, hr.len] at hj
    obtain ⟨b, off, ha, _, _, hc⟩ := hr.lies (by omega)
    obtain rfl := Option.some.inj ha
    rw [Addr.add_mid]
    exact hc j u hu

/-- The blocks below k, one behind the other. -/
def catTo (bl : Nat → List Rng) : Nat → List Rng
  | 0 => []
  | k + 1 => catTo bl k ++ bl k
def sumTo (L : Nat → Nat) : Nat → Nat
  | 0 => 0
  | k + 1 => sumTo L k + L k

theorem sumTo_mono (L : Nat → Nat) {k n : Nat} (h : k ≤ n) : sumTo L k ≤ sumTo L n := by
  induction n with
  | zero =>
    obtain rfl : k = 0 := by omega
    exact Nat.le_refl _
  | succ n ih =>
    by_cases e : k = n + 1
    · rw [e]; exact Nat.le_refl _
    · have := ih (by omega)
      simp only [sumTo]
      omega

/-- A row that the call owns, as a slice of ranges. -/
theorem Rs.of_owns {w : World} {base n : Nat} {v : Value} {rs : List Rng} (h : w.ownsRow base 47 18 v n rs.flatten) (hr : ∀ r ∈ rs, IsRng r) (hn : rs.length = n) : ∃ a cap, v = .slice a n cap ∧ Rs (fun k => k < base) w a n cap rs := by
  rcases h.2 with ⟨rfl, rfl⟩ | ⟨g, cap, cur, rfl, hb, hg, hnc, r⟩
  · exact ⟨none, 0, rfl, hn, Nat.le_refl _, hr, fun h0 => absurd h0 (by omega)⟩
  · refine ⟨_, cap, rfl, hn, hnc, hr, fun _ => ⟨g, 0, rfl, (Array.getElem?_eq_some_iff.1 hg).1, by omega, fun j u hu => ?_⟩⟩
    have hj : j < rs.flatten.length := (List.getElem?_eq_some_iff.1 hu).1
    rw [Nat.zero_add, h.cellAt j (by rw [← h.1]; exact hj), hu]

def FlatPost (w : World) (rs : List Rng) (e : Ending) (w' : World) : Prop := ∃ a cap, e = .returned (.slice a rs.length cap) ∧ Rs (fun k => k < w.heap.size) w' a rs.length cap rs ∧ Below w.heap.size w w'

theorem catTo_rng {bl : Nat → List Rng} {n : Nat} (h : ∀ i, i < n → ∀ r ∈ bl i, IsRng r) : ∀ k, k ≤ n → ∀ r ∈ catTo bl k, IsRng r := by
  intro k
  induction k with
  | zero => intro _ r hr; simp [catTo] at hr
  | succ k ih =>
    intro hk r hr
    rcases List.mem_append.1 hr with h1 | h1
    · exact ih (by omega) r h1
    · exact h k (by omega) r h1

theorem catTo_len {bl : Nat → List Rng} {L : Nat → Nat} {n : Nat} (h : ∀ i, i < n → (bl i).length = L i) : ∀ k, k ≤ n → (catTo bl k).length = sumTo L k := by
  intro k
  induction k with
  | zero => intro _; rfl
  | succ k ih =>
    intro hk
    simp only [catTo, sumTo, List.length_append, ih (by omega), h k (by omega)]

set_option maxHeartbeats 1000000 in
theorem flat_any (S : Nat → Prop) (a : Option Addr) (n cap : Nat) (A : Nat → Option Addr) (L C : Nat → Nat) (bl : Nat → List Rng) (w : World) (hs : n ≤ 1048576) (hL : sumTo L n ≤ 1048576) (h : Bs S w a n A L C bl) :
    Calls Try.prog 14 #[.slice a n cap] w (FlatPost w (catTo bl n)) := by
  have H := hide h
  have HL := hide hL
  clear h hL
  go_enter Try.func14, Try.ntmps14
  go_wp2
  go_loopw [3, 4] (fun v i wr => ∃ k : Nat, k ≤ n ∧ i = .int .i64 k ∧ wr.ownsRow w.heap.size 47 18 v (sumTo L k) (catTo bl k).flatten ∧ Below w.heap.size w wr) (fun _ i _ => n - (intOf i).toNat)
  case atStart => exact ⟨0, Nat.zero_le _, rfl, World.ownsRow_nil _ _ _ _, Below.refl _ _⟩
  case round =>
    obtain ⟨k, hk, rfl, hown, hbel⟩ := hrel
    have hsz := hbel.size
    by_cases hlt : k < n
    · obtain ⟨b, off, hx, hb, hc⟩ := (unhide H).row (by omega)
      have c0 : wr.cell? ⟨b, off + k, none⟩ = some (.slice (A k) (L k) (C k)) := (hbel.cell (by exact hb)).trans (hc k hlt)
      have hr := ((unhide H).each k hlt).below hbel
      have hsum : sumTo L k + L k ≤ 1048576 := Nat.le_trans (sumTo_mono L (show k + 1 ≤ n from hlt)) (unhide HL)
      clear hc H
      obtain rfl := hx
      go_wp2_with (at_builtin; refine wpList_append_rs _ rfl _ _ rfl w.heap.size _ _ _ rfl hown S _ _ _ (bl k) rfl hr (by omega) (by omega) ?_)
      intro v' w1 hown' hgrow
      have hb1 := hbel.grown hgrow (by omega) (fun q hq => (hown.lt q hq).1)
      rw [← List.flatten_append] at hown'
      clear hown hbel hr hgrow c0
      go_wp2
      go_roundw
      case rel => exact ⟨k + 1, by omega, by go_num, hown', hb1⟩
      case measure => simp [intOf]; omega
    · obtain rfl : k = n := by omega
      obtain ⟨a', cap', hv, hr⟩ := Rs.of_owns hown (catTo_rng (fun i hi => ((unhide H).each i hi).rng) k (Nat.le_refl _)) (catTo_len (fun i hi => ((unhide H).each i hi).len) k (Nat.le_refl _))
      have HE : Hid (FlatPost w (catTo bl k) (.returned (.slice a' (sumTo L k) cap')) wr) := by
        rw [← catTo_len (fun i hi => ((unhide H).each i hi).len) k (Nat.le_refl _)] at hr ⊢
        exact ⟨a', cap', rfl, hr, hbel⟩
      rw [hv]
      go_wp2
      go_ret
      exact unhide HE
end Go.Proofs.Qxb6600722a
