import Derived.Test.Qxb6600722aReplace
namespace Go.Proofs.Qxb6600722a
open Go.RowKit
set_option linter.unusedVariables false

theorem Kept.setRow {S : Nat → Prop} {g : Nat} {w0 w : World} (hk : Kept S w0 w) (hg : S g) (cs : Array Value) : Kept S w0 (w.setRow g cs) :=
  hk.trans ⟨rfl, rfl, rfl, by simp [World.setRow], fun k _ hs => setRow_other w g k cs (fun e => hs (e ▸ hg))⟩

/-- 'copy(dst, src)' into a row that is known whole; what else is kept. -/
theorem wpList_copy_kept {w : World} {ops : Array Oper} {rest : List Oper} {o : Oper} {a : Act} {Q : Exit → Act → World → Prop} (hgd : o.guard = none) (d s : Operand)
    (ho : o.op = .call { callee := .builtin .copy, args := #[d, s], argTypes := #[48, 48] })
    (dp sp : Option Addr) (dLen dCap sLen sCap : Nat) (hd : a.eval d = .slice dp dLen dCap) (hs : a.eval s = .slice sp sLen sCap)
    (g off : Nat) (cur : List Value) (hg : w.heap[g]? = some (.cells cur.toArray 49 (0, 0))) (cs : List Value) (hn : cs.length = Nat.min sLen dLen)
    (hpos : 0 < cs.length → dp = some ⟨g, off, none⟩ ∧ ∃ ad, sp = some ad ∧ ∀ j v, cs[j]? = some v → w.cell? (ad.add j) = some v)
    (hfit : off + cs.length ≤ cur.length) (h1 : ∀ v ∈ cs, v.oneCell' = true) (S : Nat → Prop) (w0 : World) (hb : Kept S w0 w) (hSg : S g)
    (h : ∀ w', Hid (w'.heap[g]? = some (.cells (splice cur off cs).toArray 49 (0, 0))) → Hid (Kept S w0 w') → wpList Try.prog ops Q rest (a.put o.dst (goInt cs.length)) w') :
    wpList Try.prog ops Q (o :: rest) a w := by
  have hsz : (Try.prog.info? 49).map (·.size) = some 1 := by kernel_rfl
  by_cases h0 : cs.length = 0
  · obtain rfl : cs = [] := List.eq_nil_of_length_eq_zero h0
    refine wpList_copy_nothing hgd d s 48 48 ho 49 Try.underlying48 hsz dp sp dLen dCap sLen sCap hd hs (by simpa using hn.symm) ?_
    exact h w (show _ = _ by simpa [splice] using hg) hb
  · obtain ⟨rfl, ad, rfl, hsrc⟩ := hpos (by omega)
    refine wpList_copy_own hgd d s 48 48 ho 49 Try.underlying48 hsz g off dLen dCap ad sLen sCap hd hs cur.toArray 49 hg cs hn hsrc (by simpa using hfit) h1 ?_
    exact h _ (show _ = _ by simpa [splice] using setRow_heap w g _ _ 49 _ hg) (hb.setRow hSg _)

/-- The same as one step of a region that draws its order. -/
theorem step_copy_kept {ops : Array Oper} {o : Oper} {a : Act} {w : World} {K : Act → World → Prop} {Q : Exit → Act → World → Prop} {E : Prop} (hgd : o.guard = none) (d s : Operand)
    (ho : o.op = .call { callee := .builtin .copy, args := #[d, s], argTypes := #[48, 48] })
    (dp sp : Option Addr) (dLen dCap sLen sCap : Nat) (hd : a.eval d = .slice dp dLen dCap) (hs : a.eval s = .slice sp sLen sCap)
    (g off : Nat) (cur : List Value) (hg : w.heap[g]? = some (.cells cur.toArray 49 (0, 0))) (cs : List Value) (hn : cs.length = Nat.min sLen dLen)
    (hpos : 0 < cs.length → dp = some ⟨g, off, none⟩ ∧ ∃ ad, sp = some ad ∧ ∀ j v, cs[j]? = some v → w.cell? (ad.add j) = some v)
    (hfit : off + cs.length ≤ cur.length) (h1 : ∀ v ∈ cs, v.oneCell' = true) (S : Nat → Prop) (w0 : World) (hb : Kept S w0 w) (hSg : S g)
    (h : ∀ w', Hid (w'.heap[g]? = some (.cells (splice cur off cs).toArray 49 (0, 0))) → Hid (Kept S w0 w') → K (a.put o.dst (goInt cs.length)) w') :
    if Region.wanted o (yielded ops a.tmps) = true then Oper.wp Try.prog o a w K Q else E := by
  have hsz : (Try.prog.info? 49).map (·.size) = some 1 := by kernel_rfl
  have hw : Region.wanted o (yielded ops a.tmps) = true := by simp [Region.wanted, hgd]
  rw [if_pos hw]
  by_cases h0 : cs.length = 0
  · obtain rfl : cs = [] := List.eq_nil_of_length_eq_zero h0
    have hrun := run_copy_none (P := Try.prog) w 48 48 o.type 49 dp sp dLen dCap sLen sCap Try.underlying48 hsz (by simpa using hn.symm)
    unfold Oper.wp
    simp [execOp, ho, resolve, invoke, builtin, hd, hs, hrun, Result.andThen]
    exact h w (show _ = _ by simpa [splice] using hg) hb
  · obtain ⟨rfl, ad, rfl, hsrc⟩ := hpos (by omega)
    have hrun := run_copy_row (P := Try.prog) w 48 48 o.type 49 g off dLen dCap ad sLen sCap cur.toArray 49 cs Try.underlying48 hsz hg hn hsrc (by simpa using hfit) h1
    unfold Oper.wp
    simp [execOp, ho, resolve, invoke, builtin, hd, hs, hrun, Result.andThen]
    exact h _ (show _ = _ by simpa [splice] using setRow_heap w g _ _ 49 _ hg) (hb.setRow hSg _)

section
variable (R n cap m : Nat) (am : Option Addr) (ps qs : List Value) (w : World)

set_option maxHeartbeats 2000000 in
set_option maxRecDepth 100000 in
/-- In the middle, and there is no room. -/
theorem replace_mid_grow (lo hi : Nat) (hs : n + m ≤ 1048576) (hlo : lo < hi) (hhi : hi < n) (ht : n < lo + m + (n - hi)) (hR : w.heap[R]? = some (.cells ps.toArray 49 (0, 0))) (hn : ps.length = n) (hone : ∀ v ∈ ps, v.oneCell' = true) (hq : Qs R w am m cap qs) :
    Calls Try.prog 25 #[.slice (some ⟨R, 0, none⟩) n n, .int .i64 lo, .int .i64 hi, .slice am m cap] w (RepPost R w (ps.take lo ++ qs ++ ps.drop hi)) := by
  obtain ⟨K, hK⟩ : ∃ K, K = m + (n - hi) := ⟨_, rfl⟩
  obtain ⟨g, hg, hgR, hgl, hc⟩ := hq.lies (by omega)
  subst hg
  have HQ := hide hq
  have HC := hide hc
  have HR := hide hR
  have HN := hide hn
  have HO := hide hone
  have x1 : (lo : Int) ≤ (hi : Int) := by omega
  have x2 : (hi : Int) ≤ (n : Int) := by omega
  have x3 : ((lo : Int) == (hi : Int)) = false := by rw [beq_eq_false_iff_ne]; omega
  have x4 : ((hi : Int) == (n : Int)) = false := by rw [beq_eq_false_iff_ne]; omega
  have x5 : ¬ n = lo := by omega
  have x6 : ¬ n = hi := by omega
  have hRl : R < w.heap.size := (Array.getElem?_eq_some_iff.1 hR).1
  have y1 : IntKind.i64.wrap ((lo : Int) + (m : Int)) = (lo : Int) + (m : Int) := by rw [IntKind.wrap_i64]; omega
  clear hR hn hone hq hc
  go_enter Try.func25, Try.ntmps25
  go_wp2
  go_quiet (fail)
  have hKi : (lo : Int) + (m : Int) + ((n - hi : Nat) : Int) - (lo : Int) = (K : Int) := by omega
  have z1 : (n : Int) < (lo : Int) + (m : Int) + ((n - hi : Nat) : Int) := by omega
  have hK1 : K ≤ m + (n - hi) := by omega
  have hK2 : m + (n - hi) ≤ K := by omega
  clear hK
  go_wp2_with (at_builtin; refine wpList_append_zeros R n ps _ rfl _ _ rfl lo K rfl rfl (by omega) (by omega) (by omega) (by exact unhide HR) (unhide HN) ?_)
  intro W c L hc1 hL hrow hpre hbel
  have HW : Hid (W.heap[w.heap.size]? = some (.cells L.toArray 49 (0, 0))) := hrow
  have HB : Hid (Below w.heap.size w W) := (below_of_drewN w nq).trans hbel
  have HPre := hide hpre
  have hcl : ¬ c = lo := by omega
  have hcl2 : ¬ c = lo + m := by omega
  have hgl' := hgl
  clear hrow hpre hbel
  go_wp2_with (refine wpList_copy_splice rfl (.tmp 70) (.tmp 71) 48 48 rfl 49 Try.underlying48 (by kernel_rfl) _ _ _ _ _ _ rfl rfl w.heap.size lo L 49 (unhide HW) qs ?e1 ?e2 ?e3 ?e4 w.heap.size w (unhide HB) (Nat.le_refl _) ?_)
  case e1 => rw [(unhide HQ).len]; exact (Nat.min_eq_left (by omega)).symm
  case e2 => intro _ j v hv; have := (unhide HB).cell (p := ⟨g, 0 + j, none⟩) hgl; rw [Nat.zero_add] at this; rw [this]; have := unhide HC j v hv; rwa [Nat.zero_add] at this
  case e3 => rw [(unhide HQ).len]; omega
  case e4 => exact (unhide HQ).one
  intro W2 HG2 hB2
  have HB2 := hide hB2
  have HS : Hid (∀ W', Below w.heap.size w W' → ∀ j v, (ps.drop hi)[j]? = some v → W'.cell? ((⟨R, hi, none⟩ : Addr).add j) = some v) := fun W' hb j v hv => by
    rw [Addr.add_mid, hb.cell (p := ⟨R, hi + j, none⟩) hRl]
    exact rangeAt_heap (unhide HR) (fun j v hv => by rw [List.getElem?_drop] at hv; exact hv) j v hv
  have HLen : Hid ((ps.drop hi).length = n - hi) := by unfold Hid; rw [List.length_drop, unhide HN]
  have HQm := hide (unhide HQ).len
  have HSpl : Hid ((splice L lo qs).length = L.length) := length_splice _ _ _ (by rw [unhide HQm]; omega)
  have wr2 : ((lo : Int) + (m : Int)).toNat = lo + m := by omega
  have wr3 : 0 ≤ (lo : Int) + (m : Int) := by omega
  have wr4 : (lo : Int) + (m : Int) ≤ (lo : Int) + (K : Int) := by omega
  clear hB2
  go_wp2
  go_region_held2 (fun w' => Hid (Below w.heap.size w w')) (first | exact Below.drew (unhide HB2) | assumption)
    ((refine step_copy_splice rfl (.tmp 78) (.tmp 81) 48 48 rfl 49 Try.underlying48 (by kernel_rfl) (some ⟨w.heap.size, lo + m, none⟩) (some ⟨R, hi, none⟩) (lo + K - (lo + m)) (c - (lo + m)) (n - hi) (n - hi) rfl rfl w.heap.size (lo + m) (splice L lo qs) 49 (by exact HG2.out) (ps.drop hi) (by rw [unhide HLen]; exact (Nat.min_eq_left (by omega)).symm) (fun _ => ⟨rfl, _, rfl, unhide HS _ (Below.drew (unhide HB2))⟩) (by rw [unhide HLen, unhide HSpl]; omega) (fun v hv => unhide HO v (List.mem_of_mem_drop hv)) w.heap.size w (Below.drew (unhide HB2)) (Nat.le_refl _) ?_; intro W3 HG3 hB3))
  have HE : Hid (RepPost R w (ps.take lo ++ qs ++ ps.drop hi) (.returned (.slice (some ⟨w.heap.size, 0, none⟩) (lo + K) c)) W3) :=
    rep_splice (by rw [List.length_take, unhide HN]; omega) (unhide HQm) (fun j hj => by rw [unhide HPre j hj, List.getElem?_take, if_pos hj]) (by rw [unhide HLen]; omega) (by rw [unhide HLen]; omega) HG3.out hB3
  clear HG3 hB3 HG2 HS HLen HQm HSpl HB2
  go_wp2
  go_ret
  exact unhide HE
end
end Go.Proofs.Qxb6600722a
