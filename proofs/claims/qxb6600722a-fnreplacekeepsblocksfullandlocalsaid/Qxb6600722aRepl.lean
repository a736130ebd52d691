import Derived.Test.Qxb6600722aKnow
import Derived.Deep.CutBlock
import Derived.Deep.DeepCutAuto
namespace Go.Proofs.Qxb6600722a
open Go.RowKit
set_option linter.unusedVariables false

/-- Pointers to blocks of ranges, outside the blocks of S. -/
structure PB (S : Nat → Prop) (w : World) (ps : List Value) (bl : List (List Rng)) : Prop where
  len : ps.length = bl.length
  each : ∀ i, i < bl.length → ∃ g a n c, ps[i]? = some (.pointer (some ⟨g, 0, none⟩)) ∧ w.cell? ⟨g, 0, none⟩ = some (.slice a n c) ∧ ¬ S g ∧ Rs S w a n c (bl.getD i [])

theorem PB.kept {S : Nat → Prop} {w w' : World} {ps : List Value} {bl : List (List Rng)} (h : PB S w ps bl) (k : Kept S w w') : PB S w' ps bl :=
  ⟨h.len, fun i hi => by obtain ⟨g, a, n, c, h1, h2, h3, h4⟩ := h.each i hi; exact ⟨g, a, n, c, h1, k.cell h2 h3, h3, h4.kept k⟩⟩

theorem PB.change {S T : Nat → Prop} {w : World} {ps : List Value} {bl : List (List Rng)} (h : PB S w ps bl) (hst : ∀ b, b < w.heap.size → ¬ S b → ¬ T b) : PB T w ps bl :=
  ⟨h.len, fun i hi => by obtain ⟨g, a, n, c, h1, h2, h3, h4⟩ := h.each i hi; exact ⟨g, a, n, c, h1, h2, hst g (World.block_lt_of_cell? w _ h2) h3, h4.change hst⟩⟩

theorem PB.append {S : Nat → Prop} {w : World} {ps qs : List Value} {bl cl : List (List Rng)} (h : PB S w ps bl) (k : PB S w qs cl) : PB S w (ps ++ qs) (bl ++ cl) := by
  refine ⟨by rw [List.length_append, List.length_append, h.len, k.len], fun i hi => ?_⟩
  by_cases hib : i < bl.length
  · obtain ⟨g, a, n, c, h1, h2, h3, h4⟩ := h.each i hib
    refine ⟨g, a, n, c, by rw [List.getElem?_append_left (by rw [h.len]; exact hib)]; exact h1, h2, h3, ?_⟩
    rwa [List.getD_eq_getElem?_getD, List.getElem?_append_left hib, ← List.getD_eq_getElem?_getD]
  · rw [List.length_append] at hi
    obtain ⟨g, a, n, c, h1, h2, h3, h4⟩ := k.each (i - bl.length) (by omega)
    refine ⟨g, a, n, c, by rw [List.getElem?_append_right (by rw [h.len]; omega), h.len]; exact h1, h2, h3, ?_⟩
    rwa [List.getD_eq_getElem?_getD, List.getElem?_append_right (by omega), ← List.getD_eq_getElem?_getD]

theorem PB.take {S : Nat → Prop} {w : World} {ps : List Value} {bl : List (List Rng)} (h : PB S w ps bl) (k : Nat) : PB S w (ps.take k) (bl.take k) := by
  refine ⟨by rw [List.length_take, List.length_take, h.len], fun i hi => ?_⟩
  rw [List.length_take] at hi
  obtain ⟨g, a, n, c, h1, h2, h3, h4⟩ := h.each i (by omega)
  refine ⟨g, a, n, c, by rw [List.getElem?_take, if_pos (by omega)]; exact h1, h2, h3, ?_⟩
  rwa [List.getD_eq_getElem?_getD, List.getElem?_take, if_pos (by omega), ← List.getD_eq_getElem?_getD]

theorem PB.drop {S : Nat → Prop} {w : World} {ps : List Value} {bl : List (List Rng)} (h : PB S w ps bl) (k : Nat) : PB S w (ps.drop k) (bl.drop k) := by
  refine ⟨by rw [List.length_drop, List.length_drop, h.len], fun i hi => ?_⟩
  rw [List.length_drop] at hi
  obtain ⟨g, a, n, c, h1, h2, h3, h4⟩ := h.each (k + i) (by omega)
  refine ⟨g, a, n, c, by rw [List.getElem?_drop]; exact h1, h2, h3, ?_⟩
  rwa [List.getD_eq_getElem?_getD, List.getElem?_drop, ← List.getD_eq_getElem?_getD]

theorem PB.one {S : Nat → Prop} {w : World} {ps : List Value} {bl : List (List Rng)} (h : PB S w ps bl) : ∀ v ∈ ps, v.oneCell' = true := by
  intro v hv
  obtain ⟨i, hi, rfl⟩ := List.getElem_of_mem hv
  obtain ⟨g, a, n, c, h1, _⟩ := h.each i (by rw [← h.len]; exact hi)
  rw [List.getElem?_eq_getElem hi] at h1
  rw [Option.some.inj h1]
  rfl

/-- The blocks that blocksOf has made. -/
theorem PB.of_made {S : Nat → Prop} {w w' : World} {rs : List Rng} {ps : List Value} (h : PRel S w w' rs ((rs.length + 127) / 128) ps) (hb : Below w.heap.size w w') (hS : ∀ k, S k → k < w.heap.size) : PB S w' ps (chunks rs) := by
  refine ⟨by rw [h.len, chunks_len], fun i hi => ?_⟩
  rw [chunks_len] at hi
  obtain ⟨g, a, l, h1, h2, h3, h4⟩ := h.each i hi
  refine ⟨g, a, l, l, h1, by rw [cell_of_row w' g 0 _ 51 (0, 0) h3]; rfl, fun hs => by have := hS g hs; omega, ?_⟩
  have e : (chunks rs).getD i [] = chunk rs i := by simp [chunks, List.getD, hi]
  rw [e]
  exact h4.below hb

def KS (K B R : Nat) : Nat → Prop := fun k => k = K ∨ k = B ∨ k = R

/-- What the Knowledge at block K holds. -/
def KOut (w : World) (K : Nat) (bl : List (List Rng)) : Prop :=
  (w.cell? ⟨K, 0, none⟩ = some (.pointer none) ∧ bl = []) ∨
  ∃ B a n cap ps, w.cell? ⟨K, 0, none⟩ = some (.pointer (some ⟨B, 0, none⟩)) ∧ w.cell? ⟨B, 0, none⟩ = some (.slice a n cap) ∧ (0 < n → ∃ b, a = some ⟨b, 0, none⟩ ∧ b < w.heap.size ∧ w.rangeAt b 0 ps) ∧ ps.length = n ∧ PB (fun _ => False) w ps bl

def ReplPost (S : Nat → Prop) (K : Nat) (w : World) (bl : List (List Rng)) (e : Ending) (w' : World) : Prop :=
  e = .returned (.tuple #[]) ∧ Kept S w w' ∧ KOut w' K bl

theorem Qs.of_owns {R base m : Nat} {w : World} {v : Value} {qs : List Value} (h : w.ownsRow base 49 1 v m qs) (hR : R < base) (h1 : ∀ v ∈ qs, v.oneCell' = true) : ∃ a c, v = .slice a m c ∧ Qs R w a m c qs := by
  have hl : qs.length = m := by have := h.1; omega
  rcases h.2 with ⟨rfl, rfl⟩ | ⟨g, cap, cur, rfl, hb, hg, hnc, r⟩
  · exact ⟨none, 0, rfl, hl, fun _ => ⟨rfl, rfl⟩, h1, fun h0 => absurd h0 (by omega)⟩
  · refine ⟨_, cap, rfl, hl, (fun h0 => by cases h0), h1, fun _ => ⟨g, rfl, by omega, (Array.getElem?_eq_some_iff.1 hg).1, fun j u hu => ?_⟩⟩
    rw [Nat.zero_add, h.cellAt j (by rw [Nat.mul_one, ← hl]; exact (List.getElem?_eq_some_iff.1 hu).1), hu]

/-- The end of replace: what was made is stored. -/
theorem repl_end {K B R lo hi n : Nat} {a : Option Addr} {cap : Nat} {w w3 w4 : World} {ps qs : List Value} {bl : List (List Rng)} {rs2 : List Rng} (hKl : K < w.heap.size) (hBl : B < w.heap.size) (hRl : R < w.heap.size) (hKB : K ≠ B) (hKR : K ≠ R) (hBR : B ≠ R)
    (hK : w.cell? ⟨K, 0, none⟩ = some (.pointer (some ⟨B, 0, none⟩))) (hBt : w.heap[B]? = some (.cells #[.slice (some ⟨R, 0, none⟩) n n] 48 (0, 0)))
    (hb3 : Below w.heap.size w w3) (hpb : PB (KS K B R) w ps bl) (hmade : PB (KS K B R) w3 qs (chunks rs2))
    (hk : Kept (fun k => k = R) w3.drew w4) (hx : 0 < (ps.take lo ++ qs ++ ps.drop hi).length → ∃ b, a = some ⟨b, 0, none⟩ ∧ (∃ cur, w4.heap[b]? = some (.cells cur 49 (0, 0))) ∧ w4.rangeAt b 0 (ps.take lo ++ qs ++ ps.drop hi)) :
    ReplPost (KS K B R) K w (bl.take lo ++ chunks rs2 ++ bl.drop hi) (.returned (.tuple #[])) (w4.setCell ⟨B, 0, none⟩ (.slice a (ps.take lo ++ qs ++ ps.drop hi).length cap)) := by
  have k3 : Kept (KS K B R) w3 w4 := (Kept.refl _ w3).drew.trans (hk.mono (fun k _ h => Or.inr (Or.inr h)))
  have k4 : Kept (KS K B R) w3 (w4.setCell ⟨B, 0, none⟩ (.slice a (ps.take lo ++ qs ++ ps.drop hi).length cap)) := k3.setCell (p := ⟨B, 0, none⟩) (Or.inr (Or.inl rfl)) _
  have k5 : Kept (KS K B R) w (w4.setCell ⟨B, 0, none⟩ (.slice a (ps.take lo ++ qs ++ ps.drop hi).length cap)) := (Kept.of_below hb3).trans k4
  have hb4 : w4.heap[B]? = some (.cells #[.slice (some ⟨R, 0, none⟩) n n] 48 (0, 0)) := by
    rw [hk.block B (Nat.lt_of_lt_of_le hBl hb3.size) hBR]
    exact (hb3.block B hBl).trans hBt
  have hcB : w4.cell? ⟨B, 0, none⟩ = some (.slice (some ⟨R, 0, none⟩) n n) := by rw [cell_of_row w4 B 0 _ 48 (0, 0) hb4]; rfl
  have hcK : w4.cell? ⟨K, 0, none⟩ = some (.pointer (some ⟨B, 0, none⟩)) := by
    rw [World.cell?_of_block (w := w3.drew) (hk.block K (Nat.lt_of_lt_of_le hKl hb3.size) hKR)]
    exact (hb3.cell (p := ⟨K, 0, none⟩) hKl).trans hK
  refine ⟨rfl, k5, Or.inr ⟨B, a, _, cap, ps.take lo ++ qs ++ ps.drop hi, ?_, World.cell?_setCell_same _ _ _ hcB, fun h0 => ?_, rfl, ?_⟩⟩
  · rw [World.cell?_setCell_far _ _ _ _ (fun e => hKB e.symm)]; exact hcK
  · obtain ⟨b, ha, ⟨cur, hc⟩, hr⟩ := hx h0
    have hne : b ≠ B := fun e => by rw [e, hb4] at hc; simp at hc
    refine ⟨b, ha, Nat.lt_of_lt_of_le (Array.getElem?_eq_some_iff.1 hc).1 (by simp [World.setCell]), fun j v hv => ?_⟩
    rw [World.cell?_setCell_far _ _ _ _ (fun e => hne e.symm)]
    exact hr j v hv
  · exact ((((hpb.take lo).kept k5).append (hmade.kept k4)).append ((hpb.drop hi).kept k5)).change (fun _ _ _ h => h)

theorem inOrder_some (B : Nat) (a : Option Addr) (n c : Nat) (w : World) (hB : w.cell? ⟨B, 0, none⟩ = some (.slice a n c)) :
    Calls Try.prog 22 #[.agg #[.pointer (some ⟨B, 0, none⟩)]] w fun e w' => e = .returned (.slice a n c) ∧ Below w.heap.size w w' := by
  have hBl : B < w.heap.size := World.block_lt_of_cell? w _ hB
  go_enter Try.func22, Try.ntmps22
  go_wp2
  go_ret
  exact ⟨rfl, (Below.refl _ _).alloc (Nat.le_refl _) _⟩

theorem inOrder_nil (w : World) : Calls Try.prog 22 #[.agg #[.pointer none]] w fun e w' => e = .returned (.slice none 0 0) ∧ Below w.heap.size w w' := by
  go_enter Try.func22, Try.ntmps22
  go_wp2
  go_ret
  exact ⟨rfl, (Below.refl _ _).alloc (Nat.le_refl _) _⟩

set_option maxHeartbeats 2000000 in
set_option maxRecDepth 100000 in
theorem repl_any (K B R n lo hi : Nat) (a : Option Addr) (nr cr : Nat) (ps : List Value) (bl : List (List Rng)) (rs : List Rng) (w : World)
    (hK : w.cell? ⟨K, 0, none⟩ = some (.pointer (some ⟨B, 0, none⟩))) (hBt : w.heap[B]? = some (.cells #[.slice (some ⟨R, 0, none⟩) n n] 48 (0, 0)))
    (hR : w.heap[R]? = some (.cells ps.toArray 49 (0, 0))) (hn : ps.length = n) (hKB : K ≠ B) (hKR : K ≠ R) (hBR : B ≠ R) (hpb : PB (KS K B R) w ps bl) (hrs : Rs (KS K B R) w a nr cr rs)
    (hlo : lo ≤ hi) (hhi : hi ≤ n) (hn2 : n ≤ 65536) (ht : (bl.take lo).flatten.length + rs.length + (bl.drop hi).flatten.length ≤ 131072) :
    Calls Try.prog 21 #[.pointer (some ⟨K, 0, none⟩), .int .i64 lo, .int .i64 hi, .slice a nr cr] w (ReplPost (KS K B R) K w (replaced bl lo hi rs)) := by
  have hB : w.cell? ⟨B, 0, none⟩ = some (.slice (some ⟨R, 0, none⟩) n n) := by rw [cell_of_row w B 0 _ 48 (0, 0) hBt]; rfl
  have HBt := hide hBt
  have HK := hide hK
  clear hBt
  have hbn : bl.length = n := by rw [← hpb.len]; exact hn
  have hKl : K < w.heap.size := World.block_lt_of_cell? w _ hK
  have hBl : B < w.heap.size := World.block_lt_of_cell? w _ hB
  have hRl : R < w.heap.size := (Array.getElem?_eq_some_iff.1 hR).1
  have HPB := hide hpb
  have HRS := hide hrs
  have HR := hide hR
  have HN := hide hn
  have HBN := hide hbn
  have HT := hide ht
  clear hpb hrs hR hn hbn ht
  go_enter Try.func21, Try.ntmps21
  go_wp2_with fail
  refine (inOrder_some B _ n n w hB).mono ?_
  rintro e w1 ⟨rfl, hb1⟩
  have hz1 := hb1.size
  have HB1 := hide hb1
  clear hb1
  go_upto_block 0 with (fail)
  go_cut [1, 3] (fun l r wc => ∃ (lo' : Nat) (a' : Option Addr) (n' c' : Nat) (rs' : List Rng), l = .int .i64 lo' ∧ r = .slice a' n' c' ∧ lo' ≤ lo ∧ absorbL bl lo rs = (lo', rs') ∧ (bl.take lo').flatten ++ rs' = (bl.take lo).flatten ++ rs ∧
      Rs (KS K B R) wc a' n' c' rs' ∧ Below w.heap.size w wc)
  case first =>
    go_wp2
    go_loopw [1, 3] (fun l r wr => ∃ (lo' : Nat) (a' : Option Addr) (n' c' : Nat) (rs' : List Rng), l = .int .i64 lo' ∧ r = .slice a' n' c' ∧ lo' ≤ lo ∧ absorbL bl lo' rs' = absorbL bl lo rs ∧ (bl.take lo').flatten ++ rs' = (bl.take lo).flatten ++ rs ∧
        Rs (KS K B R) wr a' n' c' rs' ∧ Below w.heap.size w wr) (fun l _ _ => (intOf l).toNat)
    case atStart => exact ⟨lo, a, nr, cr, rs, rfl, rfl, Nat.le_refl _, rfl, rfl, (unhide HRS).below (unhide HB1), unhide HB1⟩
    case round =>
      obtain ⟨lo', a', n', c', rs', rfl, rfl, hl, habs, hfl, hrs, hbel⟩ := hrel
      clear HRS HB1 hz1
      have HA := hide habs
      have HF := hide hfl
      have hlen : rs'.length = n' := hrs.len
      have hbd : (bl.take lo').flatten.length + n' ≤ (bl.take lo).flatten.length + rs.length := by
        have := congrArg List.length hfl
        rw [List.length_append, List.length_append] at this
        omega
      have hsz := hbel.size
      have hT := unhide HT
      have HRS := hide hrs
      have HLen := hide hlen
      clear habs hfl hrs hlen
      rcases Nat.eq_zero_or_pos lo' with h0 | h0
      · subst h0
        have HM : Hid (absorbL bl lo rs = (0, rs')) := by have h := unhide HA; rw [absorbL] at h; exact h.symm
        go_wp2
        go_meet
        case rel => exact ⟨0, a', n', c', rs', rfl, rfl, Nat.zero_le _, unhide HM, unhide HF, unhide HRS, hbel⟩
      · obtain ⟨l, rfl⟩ : ∃ l, lo' = l + 1 := ⟨lo' - 1, by omega⟩
        have hln : l < bl.length := by rw [unhide HBN]; omega
        obtain ⟨g, ag, ng, cg, hp, hc, hsg, hr⟩ := (unhide HPB).each l hln
        have c0 : wr.cell? ⟨R, l, none⟩ = some (.pointer (some ⟨g, 0, none⟩)) := by
          rw [hbel.cell (p := ⟨R, l, none⟩) hRl, cell_of_row w R l _ 49 (0, 0) (unhide HR)]
          simpa using hp
        have hgl : g < w.heap.size := World.block_lt_of_cell? w _ hc
        have c1 : wr.cell? ⟨g, 0, none⟩ = some (.slice ag ng cg) := (hbel.cell (by exact hgl)).trans hc
        have HRg := hide (hr.below hbel)
        have hgn : (bl.getD l []).length = ng := hr.len
        have HGn := hide hgn
        have hbd2 : (bl.take (l + 1)).flatten.length = (bl.take l).flatten.length + ng := by rw [take_succ_flat bl l hln, List.length_append, hgn]
        have hbd3 : (bl.take l).flatten.length + ng + n' ≤ 131072 := by omega
        have hln' : (l : Int) < (n : Int) := by have := unhide HBN; omega
        clear hp hc hr hgn hbd2 hbd hT
        by_cases hfit : ng + n' ≤ 128
        · have hfit' : (ng : Int) + (n' : Int) ≤ 128 := by omega
          have hal := (Below.refl wr.heap.size wr).alloc (Nat.le_refl _) (.cells #[.slice ag ng cg, .slice a' n' c'] 28)
          have C := hide (concat_any (KS K B R) (KS K B R) wr.heap.size ag a' ng n' cg c' (bl.getD l []) rs' (wr.alloc (.cells #[.slice ag ng cg, .slice a' n' c'] 28)) (by omega) (by rw [World.cell?_alloc_at _ _ _ _ rfl]; rfl) (by rw [World.cell?_alloc_at _ _ _ _ rfl]; rfl) ((unhide HRg).below hal) ((unhide HRS).below hal))
          go_wp2_with fail
          refine (unhide C).mono ?_
          rintro e w2 ⟨a2, cap2, rfl, hr2, hb2⟩
          have hl2 : (bl.getD l [] ++ rs').length = ng + n' := by rw [List.length_append, unhide HGn, unhide HLen]
          rw [hl2] at hr2 ⊢
          have hbw : Below w.heap.size w w2 := (hbel.alloc hsz _).trans (hb2.mono (by simp; omega))
          have hr3 : Rs (KS K B R) w2 a2 (ng + n') cap2 (bl.getD l [] ++ rs') := hr2.change (fun b hb hs hk => hs (by
            simp only [World.size_alloc]
            rcases hk with rfl | rfl | rfl <;> omega))
          have habs : absorbL bl l (bl.getD l [] ++ rs') = absorbL bl lo rs := by
            have h := unhide HA
            rw [absorbL, if_pos (by rw [unhide HGn, unhide HLen]; exact hfit)] at h
            exact h
          have hfl : (bl.take l).flatten ++ (bl.getD l [] ++ rs') = (bl.take lo).flatten ++ rs := by rw [← unhide HF, take_succ_flat bl l hln, List.append_assoc]
          have HX := hide (And.intro habs hfl)
          have HY := hide (And.intro hr3 hbw)
          clear hr2 hb2 hl2 hbw hr3 habs hfl C hal c0 c1
          go_wp2
          go_roundw
          case rel => exact ⟨l, a2, ng + n', cap2, _, rfl, rfl, by omega, (unhide HX).1, (unhide HX).2, (unhide HY).1, (unhide HY).2⟩
          case measure => simp [intOf]
        · have hfit' : ¬ ((ng : Int) + (n' : Int) ≤ 128) := by omega
          have HM : Hid (absorbL bl lo rs = (l + 1, rs')) := by
            have h := unhide HA
            rw [absorbL, if_neg (by rw [unhide HGn, unhide HLen]; exact hfit)] at h
            exact h.symm
          go_wp2
          go_meet
          case rel => exact ⟨l + 1, a', n', c', rs', by go_num, rfl, by omega, unhide HM, unhide HF, unhide HRS, hbel⟩
  case rest =>
    obtain ⟨lo1, a1, n1, c1, rs1, rfl, rfl, hl1, habs1, hfl1, hrs1, hbel1⟩ := hcut
    clear HRS HB1 hz1
    have HA1 := hide habs1
    have HF1 := hide hfl1
    have HRS1 := hide hrs1
    have HB1 := hide hbel1
    have hb1 : rs1.length ≤ (bl.take lo).flatten.length + rs.length := by
      have := congrArg List.length hfl1
      rw [List.length_append, List.length_append] at this
      omega
    have HLB := hide hb1
    clear habs1 hfl1 hrs1 hbel1 hb1
    go_upto_block 2 with (fail)
    go_cut [2, 3] (fun h r wc => ∃ (hi' : Nat) (a' : Option Addr) (n' c' : Nat) (rs' : List Rng), h = .int .i64 hi' ∧ r = .slice a' n' c' ∧ hi ≤ hi' ∧ hi' ≤ n ∧ absorbR bl (bl.length - hi) hi rs1 = (hi', rs') ∧ rs'.length ≤ 131072 ∧
        Rs (KS K B R) wc a' n' c' rs' ∧ Below w.heap.size w wc)
    case first =>
      go_wp2
      go_loopw [2, 3] (fun h r wr => ∃ (f hi' : Nat) (a' : Option Addr) (n' c' : Nat) (rs' : List Rng), h = .int .i64 hi' ∧ r = .slice a' n' c' ∧ hi ≤ hi' ∧ hi' + f = n ∧ absorbR bl f hi' rs' = absorbR bl (bl.length - hi) hi rs1 ∧ rs' ++ (bl.drop hi').flatten = rs1 ++ (bl.drop hi).flatten ∧
          Rs (KS K B R) wr a' n' c' rs' ∧ Below w.heap.size w wr) (fun h _ _ => n - (intOf h).toNat)
      case atStart => exact ⟨n - hi, hi, a1, n1, c1, rs1, rfl, rfl, Nat.le_refl _, by omega, by rw [unhide HBN], rfl, unhide HRS1, unhide HB1⟩
      case round =>
        obtain ⟨f, hi', a', n', c', rs', rfl, rfl, hh, hfn, habs, hfl, hrs, hbel⟩ := hrel
        clear HRS1 HB1
        have HA := hide habs
        have HF := hide hfl
        have hlen : rs'.length = n' := hrs.len
        have hbd : n' + (bl.drop hi').flatten.length ≤ 131072 := by
          have := congrArg List.length hfl
          rw [List.length_append, List.length_append] at this
          have h1 := unhide HLB
          have h2 := unhide HT
          omega
        have hsz := hbel.size
        have HRS := hide hrs
        have HLen := hide hlen
        have HFN := hide hfn
        have hfn1 : hi' ≤ n := by omega
        clear habs hfl hrs hlen hfn
        rcases Nat.eq_zero_or_pos f with h0 | h0
        · subst h0
          have HM : Hid (absorbR bl (bl.length - hi) hi rs1 = (hi', rs')) := by have h := unhide HA; rw [absorbR] at h; exact h.symm
          have hd : ¬ ((hi' : Int) < (n : Int)) := by have := unhide HFN; omega
          go_wp2
          go_meet
          case rel => exact ⟨hi', a', n', c', rs', rfl, rfl, hh, hfn1, unhide HM, by rw [unhide HLen]; omega, unhide HRS, hbel⟩
        · obtain ⟨f, rfl⟩ : ∃ q, f = q + 1 := ⟨f - 1, by omega⟩
          have hln : hi' < bl.length := by rw [unhide HBN]; have := unhide HFN; omega
          obtain ⟨g, ag, ng, cg, hp, hc, hsg, hr⟩ := (unhide HPB).each hi' hln
          have d0 : wr.cell? ⟨R, hi', none⟩ = some (.pointer (some ⟨g, 0, none⟩)) := by
            rw [hbel.cell (p := ⟨R, hi', none⟩) hRl, cell_of_row w R hi' _ 49 (0, 0) (unhide HR)]
            simpa using hp
          have hgl : g < w.heap.size := World.block_lt_of_cell? w _ hc
          have d1 : wr.cell? ⟨g, 0, none⟩ = some (.slice ag ng cg) := (hbel.cell (by exact hgl)).trans hc
          have HRg := hide (hr.below hbel)
          have hgn : (bl.getD hi' []).length = ng := hr.len
          have HGn := hide hgn
          have hbd3 : n' + ng ≤ 131072 := by rw [drop_flat bl hi' hln, List.length_append, hgn] at hbd; omega
          have hln' : (hi' : Int) < (n : Int) := by have := unhide HFN; omega
          have hfn2 : hi' + 1 + f = n := by have := unhide HFN; omega
          have HFN2 := hide hfn2
          clear hp hc hr hgn hbd hfn2
          rcases Nat.eq_zero_or_pos n' with hn0 | hn0
          · subst hn0
            by_cases hfit : lastLen 0 + ng ≤ 128
            · have hfit' : (ng : Int) ≤ 128 := by unfold lastLen at hfit; simp at hfit; omega
              have hal := (Below.refl wr.heap.size wr).alloc (Nat.le_refl _) (.cells #[.slice a' 0 c', .slice ag ng cg] 28)
              have C := hide (concat_any (KS K B R) (KS K B R) wr.heap.size a' ag 0 ng c' cg rs' (bl.getD hi' []) (wr.alloc (.cells #[.slice a' 0 c', .slice ag ng cg] 28)) (by omega) (by rw [World.cell?_alloc_at _ _ _ _ rfl]; rfl) (by rw [World.cell?_alloc_at _ _ _ _ rfl]; rfl) ((unhide HRS).below hal) ((unhide HRg).below hal))
              go_wp2_with fail
              refine (unhide C).mono ?_
              rintro e w2 ⟨a2, cap2, rfl, hr2, hb2⟩
              have hl2 : (rs' ++ bl.getD hi' []).length = ng := by rw [List.length_append, unhide HGn, unhide HLen, Nat.zero_add]
              rw [hl2] at hr2 ⊢
              have hbw : Below w.heap.size w w2 := (hbel.alloc hsz _).trans (hb2.mono (by simp; omega))
              have hr3 : Rs (KS K B R) w2 a2 (ng) cap2 (rs' ++ bl.getD hi' []) := hr2.change (fun b hb hs hk => hs (by
                simp only [World.size_alloc]
                rcases hk with rfl | rfl | rfl <;> omega))
              have habs : absorbR bl f (hi' + 1) (rs' ++ bl.getD hi' []) = absorbR bl (bl.length - hi) hi rs1 := by
                have h := unhide HA
                rw [absorbR, if_pos (by rw [unhide HGn, unhide HLen]; exact hfit)] at h
                exact h
              have hfl : (rs' ++ bl.getD hi' []) ++ (bl.drop (hi' + 1)).flatten = rs1 ++ (bl.drop hi).flatten := by rw [← unhide HF, drop_flat bl hi' hln, List.append_assoc]
              have HX := hide (And.intro habs hfl)
              have HY := hide (And.intro hr3 hbw)
              clear hr2 hb2 hl2 hbw hr3 habs hfl C hal d0 d1
              go_wp2
              go_roundw
              case rel => exact ⟨f, hi' + 1, a2, ng, cap2, _, by go_num, rfl, by omega, unhide HFN2, (unhide HX).1, (unhide HX).2, (unhide HY).1, (unhide HY).2⟩
              case measure => simp [intOf]; omega
            · have hfit' : ¬ ((ng : Int) ≤ 128) := by unfold lastLen at hfit; simp at hfit; omega
              have HM : Hid (absorbR bl (bl.length - hi) hi rs1 = (hi', rs')) := by
                have h := unhide HA
                rw [absorbR, if_neg (by rw [unhide HGn, unhide HLen]; exact hfit)] at h
                exact h.symm
              go_wp2
              go_meet
              case rel => exact ⟨hi', a', 0, c', rs', rfl, rfl, hh, hfn1, unhide HM, by rw [unhide HLen]; omega, unhide HRS, hbel⟩
          · by_cases hfit : lastLen n' + ng ≤ 128
            · have hfit' : ((n' : Int) - 1) % 128 + 1 + (ng : Int) ≤ 128 := by unfold lastLen at hfit; rw [if_neg (by omega)] at hfit; omega
              have hal := (Below.refl wr.heap.size wr).alloc (Nat.le_refl _) (.cells #[.slice a' n' c', .slice ag ng cg] 28)
              have C := hide (concat_any (KS K B R) (KS K B R) wr.heap.size a' ag n' ng c' cg rs' (bl.getD hi' []) (wr.alloc (.cells #[.slice a' n' c', .slice ag ng cg] 28)) (by omega) (by rw [World.cell?_alloc_at _ _ _ _ rfl]; rfl) (by rw [World.cell?_alloc_at _ _ _ _ rfl]; rfl) ((unhide HRS).below hal) ((unhide HRg).below hal))
              go_wp2_with fail
              refine (unhide C).mono ?_
              rintro e w2 ⟨a2, cap2, rfl, hr2, hb2⟩
              have hl2 : (rs' ++ bl.getD hi' []).length = n' + ng := by rw [List.length_append, unhide HGn, unhide HLen]
              rw [hl2] at hr2 ⊢
              have hbw : Below w.heap.size w w2 := (hbel.alloc hsz _).trans (hb2.mono (by simp; omega))
              have hr3 : Rs (KS K B R) w2 a2 (n' + ng) cap2 (rs' ++ bl.getD hi' []) := hr2.change (fun b hb hs hk => hs (by
                simp only [World.size_alloc]
                rcases hk with rfl | rfl | rfl <;> omega))
              have habs : absorbR bl f (hi' + 1) (rs' ++ bl.getD hi' []) = absorbR bl (bl.length - hi) hi rs1 := by
                have h := unhide HA
                rw [absorbR, if_pos (by rw [unhide HGn, unhide HLen]; exact hfit)] at h
                exact h
              have hfl : (rs' ++ bl.getD hi' []) ++ (bl.drop (hi' + 1)).flatten = rs1 ++ (bl.drop hi).flatten := by rw [← unhide HF, drop_flat bl hi' hln, List.append_assoc]
              have HX := hide (And.intro habs hfl)
              have HY := hide (And.intro hr3 hbw)
              clear hr2 hb2 hl2 hbw hr3 habs hfl C hal d0 d1
              go_wp2
              go_roundw
              case rel => exact ⟨f, hi' + 1, a2, n' + ng, cap2, _, by go_num, rfl, by omega, unhide HFN2, (unhide HX).1, (unhide HX).2, (unhide HY).1, (unhide HY).2⟩
              case measure => simp [intOf]; omega
            · have hfit' : ¬ (((n' : Int) - 1) % 128 + 1 + (ng : Int) ≤ 128) := by unfold lastLen at hfit; rw [if_neg (by omega)] at hfit; omega
              have HM : Hid (absorbR bl (bl.length - hi) hi rs1 = (hi', rs')) := by
                have h := unhide HA
                rw [absorbR, if_neg (by rw [unhide HGn, unhide HLen]; exact hfit)] at h
                exact h.symm
              go_wp2
              go_meet
              case rel => exact ⟨hi', a', n', c', rs', rfl, rfl, hh, hfn1, unhide HM, by rw [unhide HLen]; omega, unhide HRS, hbel⟩
    case rest =>
      obtain ⟨hi1, a2, n2, c2, rs2, rfl, rfl, hh1, hh2, habs2, hlen2, hrs2, hbel2⟩ := hcut
      clear HRS1 HB1 HLB
      have hz2 := hbel2.size
      have HRE : Hid (replaced bl lo hi rs = bl.take lo1 ++ chunks rs2 ++ bl.drop hi1) := by
        unfold Hid replaced
        rw [unhide HA1, habs2]
      have C24 := hide (blocksOf_any (KS K B R) a2 n2 c2 rs2 wc (by rw [← hrs2.len]; omega) hrs2)
      have HB2 := hide hbel2
      clear hrs2 habs2 hbel2 HA1 HF1
      go_wp2_with fail
      refine (unhide C24).mono ?_
      rintro e w3 ⟨v, qs, rfl, hown, hprel, hb3⟩
      have hmade := PB.of_made hprel hb3 (fun k hk => by rcases hk with rfl | rfl | rfl <;> omega)
      obtain ⟨am, cm, hv, hq⟩ := Qs.of_owns (R := R) hown (by omega) hmade.one
      rw [hv]
      have hbw : Below w.heap.size w w3 := (unhide HB2).trans (hb3.mono hz2)
      have p0 : w3.cell? ⟨K, 0, none⟩ = some (.pointer (some ⟨B, 0, none⟩)) := (hbw.cell (by exact hKl)).trans hK
      have hR3 : w3.heap[R]? = some (.cells ps.toArray 49 (0, 0)) := (hbw.block R hRl).trans (unhide HR)
      have C25 := hide (replace_all R n cm ((rs2.length + 127) / 128) am ps qs w3.drew lo1 hi1 (by omega) (by omega) hh2 hR3 (unhide HN) (unhide HPB).one ⟨hq.len, hq.nil, hq.one, hq.lies⟩)
      have HM := hide hmade
      have HBW := hide hbw
      generalize (rs2.length + 127) / 128 = m at C25
      have hz3 := hbw.size
      obtain ⟨xs, hxs⟩ : ∃ xs, ps.take lo1 ++ qs ++ ps.drop hi1 = xs := ⟨_, rfl⟩
      rw [hxs] at C25
      have HXS := hide hxs
      have HQF : Hid (∀ w4, Kept (fun k => k = R) w3.drew w4 → w4.cell? ⟨B, 0, none⟩ = some (.slice (some ⟨R, 0, none⟩) n n) ∧ w4.frozen? ⟨B, 0, none⟩ = false ∧ w4.cell? ⟨K, 0, none⟩ = some (.pointer (some ⟨B, 0, none⟩))) := fun w4 hk => by
        have hb4 : w4.heap[B]? = some (.cells #[.slice (some ⟨R, 0, none⟩) n n] 48 (0, 0)) := by
          rw [hk.block B (Nat.lt_of_lt_of_le hBl hz3) hBR]
          exact ((unhide HBW).block B hBl).trans (unhide HBt)
        refine ⟨by rw [cell_of_row w4 B 0 _ 48 (0, 0) hb4]; rfl, frozen_of_row w4 B 0 _ 48 hb4, ?_⟩
        rw [World.cell?_of_block (w := w3.drew) (hk.block K (Nat.lt_of_lt_of_le hKl hz3) hKR)]
        exact p0
      clear hown hprel hb3 hmade hv hq hR3 C24 HB2 hbw hK hB hxs
      go_wp2
      go_region_held2 (fun w' => w'.cell? ⟨K, 0, none⟩ = some (.pointer (some ⟨B, 0, none⟩))) (first | exact p0 | exact (unhide HQF _ ‹_›).2.2 | (rw [World.cell?_setCell_far _ _ _ _ (fun e => hKB e.symm)]; exact (unhide HQF _ ‹_›).2.2))
        ((go_at_call 25; refine (unhide C25).mono ?_; rintro e w4 ⟨a4, cap4, rfl, hx4, hk4⟩; have q1 := (unhide HQF w4 hk4).1; have q2 := (unhide HQF w4 hk4).2.1))
      have HE : Hid (ReplPost (KS K B R) K w (replaced bl lo hi rs) (.returned (.tuple #[])) (w4.setCell ⟨B, 0, none⟩ (.slice a4 xs.length cap4))) := by
        unfold Hid
        rw [unhide HRE]
        rw [← unhide HXS] at hx4 ⊢
        exact repl_end hKl hBl hRl hKB hKR hBR (unhide HK) (unhide HBt) (unhide HBW) (unhide HPB) (unhide HM) hk4 hx4
      go_end0
      exact unhide HE
end Go.Proofs.Qxb6600722a
