import Derived.Test.Qxb6600722aBlocksOf
import Derived.Lib.AppendZerosOnto
import Derived.Deep.RegionHeld2
namespace Go.Proofs.Qxb6600722a
open Go.RowKit
set_option linter.unusedVariables false

/-- A row of one-cell elements that is told by a list, read from its head. -/
def RepPost (R : Nat) (w : World) (xs : List Value) (e : Ending) (w' : World) : Prop :=
  ∃ a cap, e = .returned (.slice a xs.length cap) ∧ (0 < xs.length → ∃ b, a = some ⟨b, 0, none⟩ ∧ (∃ cur, w'.heap[b]? = some (.cells cur 49 (0, 0))) ∧ w'.rangeAt b 0 xs) ∧ Kept (fun k => k = R) w w'

theorem Kept.grown {w w' : World} {R : Nat} (h : w.grownBy w' (some R)) : Kept (fun k => k = R) w w' := ⟨h.os, h.tape, h.output, h.size, fun k hk hs => h.block k hk (fun e => hs (Option.some.inj e))⟩
theorem Kept.grown0 {w w' : World} {R : Nat} (h : w.grownBy w' none) : Kept (fun k => k = R) w w' := ⟨h.os, h.tape, h.output, h.size, fun k hk _ => h.block k hk (fun e => by cases e)⟩

theorem rangeAt_heap {w : World} {g o : Nat} {L xs : List Value} {t : TypeId} {fr : Nat × Nat} (h : w.heap[g]? = some (.cells L.toArray t fr)) (hx : ∀ j v, xs[j]? = some v → L[o + j]? = some v) : w.rangeAt g o xs := by
  intro j v hv
  rw [cell_of_row w g (o + j) L.toArray t fr h]
  simpa using hx j v hv

theorem RepPost.of_owns {R base : Nat} {w w' : World} {v : Value} {xs : List Value} (h : w'.ownsRow base 49 1 v xs.length xs) (k : Kept (fun k => k = R) w w') : RepPost R w xs (.returned v) w' := by
  rcases h.2 with ⟨rfl, h0⟩ | ⟨g, cap, cur, rfl, hb, hg, hnc, r⟩
  · exact ⟨none, 0, by rw [h0], fun h1 => absurd h1 (by omega), k⟩
  · refine ⟨_, cap, rfl, fun _ => ⟨g, rfl, ⟨_, hg⟩, fun j u hu => ?_⟩, k⟩
    rw [Nat.zero_add, h.cellAt j (by rw [Nat.mul_one]; exact (List.getElem?_eq_some_iff.1 hu).1), hu]

theorem splice_get {α : Type} (L cs : List α) (off j : Nat) (h : off + cs.length ≤ L.length) : (splice L off cs)[j]? = if off ≤ j ∧ j < off + cs.length then cs[j - off]? else L[j]? := by
  unfold splice
  have hlt : (L.take off).length = off := by rw [List.length_take]; omega
  rw [List.getElem?_append, hlt]
  by_cases h1 : j < off
  · rw [if_pos h1, if_neg (by omega), List.getElem?_take, if_pos h1]
  · rw [if_neg h1, List.getElem?_append]
    by_cases h2 : j - off < cs.length
    · rw [if_pos h2, if_pos (by omega)]
    · rw [if_neg h2, if_neg (by omega), List.getElem?_drop]
      congr 1
      omega

/-- Two pieces laid behind a head. -/
theorem splice_two {α : Type} {Z X Y W : List α} {k m : Nat} (hk : X.length = k) (hm : Y.length = m) (hX : ∀ j, j < k → Z[j]? = X[j]?) (hZ : k + m + W.length ≤ Z.length) :
    ∀ (j : Nat) (v : α), (X ++ Y ++ W)[j]? = some v → (splice (splice Z k Y) (k + m) W)[j]? = some v := by
  intro j v hv
  have hl1 : (splice Z k Y).length = Z.length := length_splice _ _ _ (by omega)
  rw [splice_get _ _ _ _ (by omega), splice_get _ _ _ _ (by omega)]
  have hjl := (List.getElem?_eq_some_iff.1 hv).1
  simp only [List.length_append] at hjl
  rw [List.getElem?_append, List.getElem?_append, List.length_append] at hv
  by_cases h1 : j < k
  · rw [if_pos (by omega), if_pos (by omega)] at hv
    rw [if_neg (by omega), if_neg (by omega), hX j h1]
    exact hv
  · by_cases h2 : j < k + m
    · rw [if_pos (by omega), if_neg (by omega), hk] at hv
      rw [if_neg (by omega), if_pos (by omega)]
      exact hv
    · rw [if_neg (by omega), hk, hm] at hv
      rw [if_pos (by omega)]
      exact hv

/-- What the slice of new blocks is: its cells, apart from row R. -/
structure Qs (R : Nat) (w : World) (a : Option Addr) (m cap : Nat) (qs : List Value) : Prop where
  len : qs.length = m
  nil : a = none → m = 0 ∧ cap = 0
  one : ∀ v ∈ qs, v.oneCell' = true
  lies : 0 < m → ∃ g, a = some ⟨g, 0, none⟩ ∧ g ≠ R ∧ g < w.heap.size ∧ w.rangeAt g 0 qs

section
variable (R n cap m : Nat) (am : Option Addr) (ps qs : List Value) (w : World)

set_option maxHeartbeats 1000000 in
/-- Nothing is inserted. -/
theorem insert_none (lo : Nat) (hlo : lo ≤ n) (hR : w.heap[R]? = some (.cells ps.toArray 49 (0, 0))) (hn : ps.length = n) :
    Calls Try.prog 27 #[.slice (some ⟨R, 0, none⟩) n n, .int .i64 lo, .slice am 0 cap] w (RepPost R w ps) := by
  have HE : Hid (RepPost R w ps (.returned (.slice (some ⟨R, 0, none⟩) n n)) w) := by
    refine ⟨_, n, by rw [hn], fun _ => ⟨R, rfl, ⟨_, hR⟩, rangeAt_heap hR (fun j v hv => by simpa using hv)⟩, Kept.refl _ _⟩
  clear hR hn
  have h1 : (lo : Int) ≤ (n : Int) := by omega
  by_cases e : n = lo
  · subst e
    go_enter Try.func27, Try.ntmps27
    go_wp2
    go_ret
    exact unhide HE
  · go_enter Try.func27, Try.ntmps27
    go_wp2
    go_ret
    exact unhide HE

theorem owns_head {base : Nat} (k : Nat) (hk : k ≤ n) (hs : n ≤ 4194304) (hb : base ≤ R) (hR : w.heap[R]? = some (.cells ps.toArray 49 (0, 0))) (hn : ps.length = n) :
    w.ownsRow base 49 1 (.slice (some ⟨R, 0, none⟩) k n) k (ps.take k) :=
  ⟨by rw [List.length_take]; omega, .inr ⟨R, n, ps.toArray, rfl, hb, hR, hk, by unfold maxLen; omega, by simpa using hn, by simp⟩⟩

set_option maxHeartbeats 1000000 in
/-- At the end. -/
theorem insert_end (hs : n + m ≤ 1048576) (hm : 0 < m) (hR : w.heap[R]? = some (.cells ps.toArray 49 (0, 0))) (hn : ps.length = n) (hq : Qs R w am m cap qs) :
    Calls Try.prog 27 #[.slice (some ⟨R, 0, none⟩) n n, .int .i64 n, .slice am m cap] w (RepPost R w (ps ++ qs)) := by
  obtain ⟨i0, hi, hz0, hz1, hz2⟩ := info_parts Try.info49
  have hown := owns_head R n ps w (base := 0) n (Nat.le_refl _) (by omega) (Nat.zero_le _) hR hn
  rw [List.take_of_length_le (by omega)] at hown
  obtain ⟨g, hg, hgR, hgl, hc⟩ := hq.lies hm
  subst hg
  have HQ := hide hq
  have HC := hide hc
  have HN := hide hn
  have hne : ((m : Int) == 0) = false := by rw [beq_eq_false_iff_ne]; omega
  clear hq hc hR hn hgR hgl
  go_enter Try.func27, Try.ntmps27
  go_wp2_with (at_builtin; refine wpList_append_own _ rfl _ _ 48 rfl 0 49 i0 (.pointer none) 1 8 Try.underlying48 hi hz0 hz1 hz2 rfl (by decide) _ _ _ rfl hown ⟨g, 0, none⟩ m cap qs rfl ?_ ?_ ?_ ?_ ?_ ?_ ?_)
  case refine_1 => rw [(unhide HQ).len, Nat.mul_one]
  case refine_2 => intro j u hu; rw [Addr.add_mid]; exact unhide HC j u hu
  case refine_3 => exact (unhide HQ).one
  case refine_4 => unfold maxLen; omega
  case refine_5 => omega
  case refine_6 => exact Nat.zero_le _
  intro v' w' hown' hgrow _
  have HE : Hid (RepPost R w (ps ++ qs) (.returned v') w') := by
    have hl : (ps ++ qs).length = n + m := by rw [List.length_append, unhide HN, (unhide HQ).len]
    rw [← hl] at hown'
    exact RepPost.of_owns hown' (Kept.grown hgrow)
  clear hown hown' hgrow
  go_wp2
  go_ret
  exact unhide HE

set_option maxHeartbeats 1000000 in
/-- Into nothing. -/
theorem insert_nil (R0 : Nat) (hs : m ≤ 1048576) (hm : 0 < m) (hq : Qs R w am m cap qs) :
    Calls Try.prog 27 #[.slice none 0 0, .int .i64 0, .slice am m cap] w (RepPost R0 w qs) := by
  obtain ⟨i0, hi, hz0, hz1, hz2⟩ := info_parts Try.info49
  have hown := World.ownsRow_nil w 0 49 1
  obtain ⟨g, hg, hgR, hgl, hc⟩ := hq.lies hm
  subst hg
  have HQ := hide hq
  have HC := hide hc
  have hne : ((m : Int) == 0) = false := by rw [beq_eq_false_iff_ne]; omega
  clear hq hc hgR hgl
  go_enter Try.func27, Try.ntmps27
  go_wp2_with (at_builtin; refine wpList_append_own _ rfl _ _ 48 rfl 0 49 i0 (.pointer none) 1 8 Try.underlying48 hi hz0 hz1 hz2 rfl (by decide) _ _ _ rfl hown ⟨g, 0, none⟩ m cap qs rfl ?_ ?_ ?_ ?_ ?_ ?_ ?_)
  case refine_1 => rw [(unhide HQ).len, Nat.mul_one]
  case refine_2 => intro j u hu; rw [Addr.add_mid]; exact unhide HC j u hu
  case refine_3 => exact (unhide HQ).one
  case refine_4 => unfold maxLen; omega
  case refine_5 => omega
  case refine_6 => exact Nat.zero_le _
  intro v' w' hown' hgrow _
  have HE : Hid (RepPost R0 w qs (.returned v') w') := by
    have hown2 : w'.ownsRow 0 49 1 v' qs.length qs := by
      rw [(unhide HQ).len]
      simpa using hown'
    exact RepPost.of_owns hown2 (Kept.grown0 hgrow)
  clear hown hown' hgrow
  go_wp2
  go_ret
  exact unhide HE


/-- 'append(s[:lo], make(S, K)...)' where there is no room: a new row. -/
theorem wpList_append_zeros {ops : Array Oper} {rest : List Oper} {o : Oper} {a : Act} {Q : Exit → Act → World → Prop} (hgd : o.guard = none) (s x : Operand)
    (ho : o.op = .call { callee := .builtin .append, args := #[s, x], argTypes := #[48, 3] }) (lo K : Nat) (hs : a.eval s = .slice (some ⟨R, 0, none⟩) lo n) (hx : a.eval x = .int .i64 (K : Int))
    (hlo : lo ≤ n) (hK : n < lo + K) (hb : lo + K ≤ 4194304) (hR : w.heap[R]? = some (.cells ps.toArray 49 (0, 0))) (hn : ps.length = n)
    (h : ∀ (W : World) (c : Nat) (L : List Value), lo + K ≤ c → lo + K ≤ L.length → W.heap[w.heap.size]? = some (.cells L.toArray 49 (0, 0)) → (∀ j, j < lo → L[j]? = ps[j]?) → Below w.heap.size w W →
      wpList Try.prog ops Q rest (a.put o.dst (.slice (some ⟨w.heap.size, 0, none⟩) (lo + K) c)) W) : wpList Try.prog ops Q (o :: rest) a w := by
  obtain ⟨i0, hi, hz0, hz1, hz2⟩ := info_parts Try.info49
  have hold : (Builtin.firstCells i0.size lo (.slice (some ⟨R, 0, none⟩) lo n)).run Try.prog w.drew = .ok (ps.take lo).toArray w.drew := by
    refine run_firstCells_some w.drew i0.size lo ⟨R, 0, none⟩ lo n (ps.take lo) (by rw [hz1, List.length_take]; omega) (fun j u hu => ?_)
    rw [Addr.add_mid]
    exact rangeAt_heap (w := w.drew) hR (fun j v hv => by rw [List.getElem?_take] at hv; split at hv; simpa using hv; cases hv) j u hu
  have hrun := Lib.run_append_grow_zeros (P := Try.prog) w 48 3 o.type 49 i0 _ .i64 .i64 Try.underlying48 Try.underlying3 hi hz0 (some ⟨R, 0, none⟩) lo n (ps.take lo) hold K (by omega) (by omega) (by omega) (by omega) (by rw [hz2]; omega)
    (by have := nextslicecap_le (show n < lo + K by omega); rw [hz2]; omega)
  refine Lib.wpList_append_run w hgd s x 48 3 ho _ _ hs hx _ _ hrun ?_
  have hge := grownCap_ge w (lo + K) n 49
  have hl : (ps.take lo).length = lo := by rw [List.length_take]; omega
  have e : (ps.take lo).toArray ++ Builtin.zeroCells (Value.pointer none).cells K ++ Builtin.zeroCells (Value.pointer none).cells (grownCap w (lo + K) n 49 - (lo + K)) =
      (ps.take lo ++ (Builtin.zeroCells (Value.pointer none).cells K).toList ++ (Builtin.zeroCells (Value.pointer none).cells (grownCap w (lo + K) n 49 - (lo + K))).toList).toArray := by
    apply Array.ext'
    simp
  rw [e]
  refine h _ _ _ hge ?_ (heap_alloc_new w.drew _) (fun j hj => ?_) ((Below.refl w.heap.size w).drew.alloc (Nat.le_refl _) _)
  · rw [List.length_append, List.length_append, hl, Array.length_toList, size_zeroCells]
    show lo + K ≤ lo + K * 1 + _
    omega
  · rw [List.append_assoc, List.getElem?_append_left (by omega), List.getElem?_take, if_pos hj]

theorem rep_splice {R c lo m tot : Nat} {w W : World} {L X Y Z : List Value} (hk : X.length = lo) (hm : Y.length = m) (hX : ∀ j, j < lo → L[j]? = X[j]?) (hZ : lo + m + Z.length ≤ L.length) (ht : lo + m + Z.length = tot)
    (hrow : W.heap[w.heap.size]? = some (.cells (splice (splice L lo Y) (lo + m) Z).toArray 49 (0, 0))) (hbel : Below w.heap.size w W) :
    RepPost R w (X ++ Y ++ Z) (.returned (.slice (some ⟨w.heap.size, 0, none⟩) tot c)) W := by
  refine ⟨_, c, by rw [List.length_append, List.length_append, hk, hm, ht], fun _ => ⟨w.heap.size, rfl, ⟨_, hrow⟩, ?_⟩, Kept.of_below hbel⟩
  exact rangeAt_heap hrow (fun j v hv => by rw [Nat.zero_add]; exact splice_two hk hm hX hZ j v hv)

set_option maxHeartbeats 2000000 in
/-- In the middle. -/
theorem insert_mid (lo : Nat) (hs : n + m ≤ 1048576) (hm : 0 < m) (hlo : lo < n) (hR : w.heap[R]? = some (.cells ps.toArray 49 (0, 0))) (hn : ps.length = n) (hone : ∀ v ∈ ps, v.oneCell' = true) (hq : Qs R w am m cap qs) :
    Calls Try.prog 27 #[.slice (some ⟨R, 0, none⟩) n n, .int .i64 lo, .slice am m cap] w (RepPost R w (ps.take lo ++ qs ++ ps.drop lo)) := by
  obtain ⟨K, hK⟩ : ∃ K, lo + K = n + m := ⟨n + m - lo, by omega⟩
  obtain ⟨g, hg, hgR, hgl, hc⟩ := hq.lies hm
  subst hg
  have HQ := hide hq
  have HC := hide hc
  have HR := hide hR
  have HN := hide hn
  have HO := hide hone
  have hne : ((m : Int) == 0) = false := by rw [beq_eq_false_iff_ne]; omega
  have hne2 : ((lo : Int) == (n : Int)) = false := by rw [beq_eq_false_iff_ne]; omega
  have hKi : (n : Int) + (m : Int) - (lo : Int) = (K : Int) := by omega
  have hnl : ¬ n = lo := by omega
  have hK1 : lo + K ≤ n + m := by omega
  have hK2 : n + m ≤ lo + K := by omega
  have hRl : R < w.heap.size := (Array.getElem?_eq_some_iff.1 hR).1
  clear hK hR hn hone hq hc
  go_enter Try.func27, Try.ntmps27
  go_wp2_with (at_builtin; refine wpList_append_zeros R n ps w rfl _ _ rfl lo K rfl rfl (by omega) (by omega) (by omega) (unhide HR) (unhide HN) ?_)
  intro W c L hc1 hL hrow hpre hbel
  have HW := hide hrow
  have HPre := hide hpre
  have HB := hide hbel
  have hcl : ¬ c = lo := by omega
  have hcl2 : ¬ c = lo + m := by omega
  clear hrow hpre hbel
  go_wp2_with (refine wpList_copy_splice rfl (.tmp 43) (.tmp 44) 48 48 rfl 49 Try.underlying48 (by kernel_rfl) _ _ _ _ _ _ rfl rfl w.heap.size lo L 49 (unhide HW) qs ?e1 ?e2 ?e3 ?e4 w.heap.size w (unhide HB) (Nat.le_refl _) ?_)
  case e1 => rw [(unhide HQ).len]; exact (Nat.min_eq_left (by omega)).symm
  case e2 => intro _ j v hv; have := (unhide HB).cell (p := ⟨g, 0 + j, none⟩) hgl; rw [Nat.zero_add] at this; rw [this]; have := unhide HC j v hv; rwa [Nat.zero_add] at this
  case e3 => rw [(unhide HQ).len]; omega
  case e4 => exact (unhide HQ).one
  intro W2 HG2 hB2
  have HB2 := hide hB2
  have HS : Hid (∀ W', Below w.heap.size w W' → ∀ j v, (ps.drop lo)[j]? = some v → W'.cell? ((⟨R, lo, none⟩ : Addr).add j) = some v) := fun W' hb j v hv => by
    rw [Addr.add_mid, hb.cell (p := ⟨R, lo + j, none⟩) hRl]
    exact rangeAt_heap (unhide HR) (fun j v hv => by rw [List.getElem?_drop] at hv; exact hv) j v hv
  have hlen : (ps.drop lo).length = n - lo := by rw [List.length_drop, unhide HN]
  have HLen := hide hlen
  have hqm : qs.length = m := (unhide HQ).len
  have HQm := hide hqm
  have hspl : (splice L lo qs).length = L.length := length_splice _ _ _ (by omega)
  have HSpl := hide hspl
  have wr1 : IntKind.i64.wrap ((lo : Int) + (m : Int)) = (lo : Int) + (m : Int) := by rw [IntKind.wrap_i64]; omega
  have wr2 : ((lo : Int) + (m : Int)).toNat = lo + m := by omega
  have wr3 : 0 ≤ (lo : Int) + (m : Int) := by omega
  have wr4 : (lo : Int) + (m : Int) ≤ (lo : Int) + (K : Int) := by omega
  have wr5 : (lo : Int) ≤ (n : Int) := by omega
  clear hB2 hlen hqm hspl
  go_wp2
  go_region_held2 (fun w' => Hid (Below w.heap.size w w')) (first | exact Below.drew (unhide HB2) | assumption)
    ((refine step_copy_splice rfl (.tmp 50) (.tmp 53) 48 48 rfl 49 Try.underlying48 (by kernel_rfl) (some ⟨w.heap.size, lo + m, none⟩) (some ⟨R, lo, none⟩) (lo + K - (lo + m)) (c - (lo + m)) (n - lo) (n - lo) rfl rfl w.heap.size (lo + m) (splice L lo qs) 49 (by exact HG2.out) (ps.drop lo) (by rw [unhide HLen]; exact (Nat.min_eq_left (by omega)).symm) (fun _ => ⟨rfl, _, rfl, unhide HS _ (Below.drew (unhide HB2))⟩) (by rw [unhide HLen, unhide HSpl]; omega) (fun v hv => unhide HO v (List.mem_of_mem_drop hv)) w.heap.size w (Below.drew (unhide HB2)) (Nat.le_refl _) ?_; intro W3 HG3 hB3))
  have HE : Hid (RepPost R w (ps.take lo ++ qs ++ ps.drop lo) (.returned (.slice (some ⟨w.heap.size, 0, none⟩) (lo + K) c)) W3) :=
    rep_splice (by rw [List.length_take, unhide HN]; omega) (unhide HQm) (fun j hj => by rw [unhide HPre j hj, List.getElem?_take, if_pos hj]) (by rw [unhide HLen]; omega) (by rw [unhide HLen]; omega) HG3.out hB3
  clear HG3 hB3 HG2 HS HLen HQm HSpl HB2
  go_wp2
  go_ret
  exact unhide HE
end
end Go.Proofs.Qxb6600722a
